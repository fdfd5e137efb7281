import JvmDerived
import JvmDerived.Pilot.@@N@@Statement
import JvmDerived.Pilot.@@N@@Code
set_option linter.unusedVariables false
set_option linter.unusedSimpArgs false

namespace Jvm.Sy
open Jvm Jvm.ClassFile Sem Op Lib Jvm.Free Jvm.Stand Jvm.LawKit Jvm.RoadKit Bundle

abbrev WKey := String × String × String
abbrev WObj := (FieldType × List Value) ⊕ (String × List (WKey × Value))
abbrev WHp := List WObj
def gv (ρ : Nat → Nat) : Value → Value
  | .ref a => .ref (ρ a)
  | .int x => .int x
  | .long x => .long x
  | .float x => .float x
  | .double x => .double x
  | .null => .null
  | .retAddr q => .retAddr q
def gs (ρ : Nat → Nat) : Slot → Slot
  | .val v => .val (gv ρ v)
  | .unset => .unset
  | .second => .second
def gS (ρ : Nat → Nat) (S : List Value) : List Value := S.map (gv ρ)
def gL (ρ : Nat → Nat) (L : List Slot) : Array Slot := (L.map (gs ρ)).toArray
section Vals
variable {ρ : Nat → Nat} {v : Value} {ty : FieldType}
theorem cat_gv : (gv ρ v).category = v.category := by cases v <;> rfl
theorem isRef_gv : (gv ρ v).isRef = v.isRef := by cases v <;> rfl
theorem fits_gv : fits ty (gv ρ v) = fits ty v := by cases ty <;> cases v <;> rfl
theorem narrow_gv : narrow ty (gv ρ v) = gv ρ (narrow ty v) := by cases ty <;> cases v <;> rfl
theorem dv_gv : gv ρ (defaultValue ty) = defaultValue ty := by cases ty <;> rfl
theorem gv_inj (h : ∀ i j, ρ i = ρ j → i = j) {w : Value} (e : gv ρ v = gv ρ w) : v = w := by
  cases v <;> cases w <;> simp [gv] at e ⊢ <;> first | exact e | exact h _ _ e
theorem sum_gS (S : List Value) : ((gS ρ S).map fun v => v.category).sum = (S.map Value.category).sum := by
  induction S with
  | nil => rfl
  | cons a t ih => simp only [gS, List.map_cons, List.sum_cons, cat_gv] at ih ⊢; rw [ih]
theorem gL_get (L : List Slot) (k : Nat) : (gL ρ L)[k]? = (L[k]?).map (gs ρ) := by simp [gL]
theorem gL_val {L : List Slot} {k : Nat} (h : L[k]? = some (.val v)) : (gL ρ L)[k]? = some (.val (gv ρ v)) := by rw [gL_get, h]; rfl
theorem gL_size (L : List Slot) : (gL ρ L).size = L.length := by simp [gL]
end Vals
def ArrOk (Z : State) (ρ : Nat → Nat) (h : Heap) (a : Addr) (ty : FieldType) (vs : List Value) : Prop :=
  ∃ cl : Cell, Arr Z h a cl ty ∧ cl.slots.toList = vs.map (gv ρ) ∧ (∀ C, ty = .object C → Ovr Z cl.cls C) ∧ ∀ v ∈ vs, fits ty v = true
def ObjOk (Z : State) (ρ : Nat → Nat) (h : Heap) (a : Addr) (C : String) (fs : List (WKey × Value)) : Prop :=
  Exa Z h a C ∧ (∀ (i : Nat) (O n d : String) (v : Value), fs[i]? = some ((O, n, d), v) → Fld Z h a O n d (gv ρ v)) ∧
    ∀ (i j : Nat) (k1 k2 : WKey) (v1 v2 : Value), i ≠ j → fs[i]? = some (k1, v1) → fs[j]? = some (k2, v2) → RoadKit.slotOf Z k1.1 k1.2.1 k1.2.2 ≠ RoadKit.slotOf Z k2.1 k2.2.1 k2.2.2
def CellOk (Z : State) (ρ : Nat → Nat) (h : Heap) (a : Addr) : WObj → Prop
  | .inl q => ArrOk Z ρ h a q.1 q.2
  | .inr q => ObjOk Z ρ h a q.1 q.2
def WDen (Z : State) (ρ : Nat → Nat) (nb : Nat × List Nat) (σ : WHp) (h : Heap) : Prop :=
  h.size = nb.1 + σ.length ∧ (σ.length ≤ 1000 ∧ ∀ (a : Addr) (c : Cell), a < nb.1 → Z.heap[a]? = some c → h[a]? = some c) ∧ (∀ (k : Nat) (o : WObj), σ[k]? = some o → CellOk Z ρ h (nb.1 + k) o) ∧ ∀ k, k < σ.length → k ∉ nb.2 → Unt h (nb.1 + k)
section Heaps
variable {Z : State} {ρ : Nat → Nat} {h h' : Heap} {a b : Addr} {o : WObj} {k sl : Nat} {nb : Nat × List Nat} {σ : WHp} {v : Value}
theorem CellOk.ext (F : CellOk Z ρ h a o) (E : Ext h h') : CellOk Z ρ h' a o := by
  rcases o with ⟨ty, vs⟩ | ⟨C, fs⟩
  · obtain ⟨cl, A, r⟩ := F; exact ⟨cl, A.ext E, r⟩
  · obtain ⟨F1, F2, F3⟩ := F; exact ⟨F1.ext E, fun i O n d v q => (F2 i O n d v q).ext E, F3⟩
theorem CellOk.other (F : CellOk Z ρ h b o) (W : Wr h h' a sl v) (q : b ≠ a) : CellOk Z ρ h' b o := by
  rcases o with ⟨ty, vs⟩ | ⟨C, fs⟩
  · obtain ⟨cl, A, r⟩ := F; exact ⟨cl, A.other W q, r⟩
  · obtain ⟨F1, F2, F3⟩ := F; exact ⟨F1.wr W, fun i O n d v y => (F2 i O n d v y).other W (Or.inl q), F3⟩
theorem WDen.push (D : WDen Z ρ nb σ h) (E : Ext h h') (hs : h'.size = h.size + 1) (hl : σ.length < 1000) (F : CellOk Z ρ h' (nb.1 + σ.length) o) (Un : Unt h' (nb.1 + σ.length)) : WDen Z ρ nb (σ ++ [o]) h' := by
  obtain ⟨D1, D2, D3, D4⟩ := D
  refine ⟨by rw [hs, D1]; simp [Nat.add_assoc], ⟨by simp; omega, fun a c h1 h2 => E.2 _ _ (D2.2 a c h1 h2)⟩, fun k o' hk => ?_, fun k hk hn => ?_⟩
  · by_cases q : k < σ.length
    · rw [List.getElem?_append_left q] at hk; exact (D3 k o' hk).ext E
    · rw [List.getElem?_append_right (by omega)] at hk
      have e : k - σ.length = 0 := by
        rcases Nat.eq_zero_or_pos (k - σ.length) with z | z
        · exact z
        · rw [List.getElem?_eq_none (by simp; omega)] at hk; cases hk
      rw [e] at hk
      cases hk
      have e2 : k = σ.length := by omega
      rw [e2]; exact F
  · by_cases q : k < σ.length
    · exact (D4 k q hn).ext E
    · have e2 : k = σ.length := by simp at hk; omega
      rw [e2]; exact Un
theorem WDen.put (D : WDen Z ρ nb σ h) (W : Wr h h' (nb.1 + k) sl v) (F : CellOk Z ρ h' (nb.1 + k) o) : WDen Z ρ nb (σ.set k o) h' := by
  obtain ⟨D1, D2, D3, D4⟩ := D
  refine ⟨by rw [W.size, D1]; simp, ⟨by simp; exact D2.1, fun a c h1 h2 => ?_⟩, fun j o' hj => ?_, fun j hj hn => (D4 j (by simpa using hj) hn).wr W⟩
  · obtain ⟨c', q1, -, -, -, q5, -⟩ := wr_at W (D2.2 a c h1 h2)
    rw [q1, q5 (fun e => by rw [e] at h1; exact absurd h1 (Nat.not_lt.mpr (Nat.le_add_right _ _)))]
  by_cases q : j = k
  · subst q
    rw [List.getElem?_set] at hj
    simp only [if_true] at hj
    split at hj
    · cases hj; exact F
    · cases hj
  · rw [List.getElem?_set_ne (Ne.symm q)] at hj
    exact (D3 j o' hj).other W fun e => q (Nat.add_left_cancel e)
theorem WDen.lt (D : WDen Z ρ nb σ h) (hk : σ[k]? = some o) : k < 1000 := by
  have := (List.getElem?_eq_some_iff.mp hk).1
  have := D.2.1.1
  omega
theorem ArrOk.size {ty : FieldType} {vs : List Value} {cl : Cell} (e : cl.slots.toList = vs.map (gv ρ)) : cl.slots.size = vs.length := by
  have := congrArg List.length e
  simpa using this
theorem ArrOk.at {vs : List Value} {cl : Cell} (e : cl.slots.toList = vs.map (gv ρ)) {i : Nat} {w : Value} (hw : vs[i]? = some w) : cl.slots[i]? = some (gv ρ w) := by
  rw [← Array.getElem?_toList, e, List.getElem?_map, hw]; rfl
theorem ArrOk.set {ty : FieldType} {vs : List Value} {cl : Cell} (A : Arr Z h a cl ty) (e : cl.slots.toList = vs.map (gv ρ)) (hO : ∀ C, ty = .object C → Ovr Z cl.cls C) (hf : ∀ v ∈ vs, fits ty v = true) {i : Nat} {w : Value} (W : Wr h h' a i (gv ρ w)) (hw : fits ty w = true) : ArrOk Z ρ h' a ty (vs.set i w) := by
  refine ⟨cl.setSlot i (gv ρ w), A.same W, ?_, hO, fun y hy => ?_⟩
  · show (cl.slots.setIfInBounds i (gv ρ w)).toList = _
    rw [Array.toList_setIfInBounds, e, List.map_set]
  · rcases List.mem_or_eq_of_mem_set hy with q | q
    · exact hf y q
    · rw [q]; exact hw
end Heaps
abbrev WMC := (State × (Nat → Nat) × Nat × List Nat) × (String × ByteArray × String × Option FieldType × Nat) × (Nat × Nat × Nat × Nat × List Nat × Nat)
abbrev WMC.Z (G : WMC) : State := G.1.1
abbrev WMC.ρ (G : WMC) : Nat → Nat := G.1.2.1
abbrev WMC.n0 (G : WMC) : Nat := G.1.2.2.1
abbrev WMC.nb (G : WMC) : Nat × List Nat := G.1.2.2
abbrev WMC.hd (G : WMC) : List Nat := G.1.2.2.2
abbrev WMC.own (G : WMC) : String := G.2.1.1
abbrev WMC.bytes (G : WMC) : ByteArray := G.2.1.2.1
abbrev WMC.nm (G : WMC) : String := G.2.1.2.2.1
abbrev WMC.ret (G : WMC) : Option FieldType := G.2.1.2.2.2.1
abbrev WMC.ml (G : WMC) : Nat := G.2.1.2.2.2.2
abbrev WMC.j0 (G : WMC) : Nat := G.2.2.1
abbrev WMC.u0 (G : WMC) : Nat := G.2.2.2.1
abbrev WMC.fr (G : WMC) : Nat := G.2.2.2.2.1
abbrev WMC.lo (G : WMC) : Nat := G.2.2.2.2.2.1
abbrev WMC.en (G : WMC) : List Nat := G.2.2.2.2.2.2.1
abbrev WMC.mr (G : WMC) : Nat := G.2.2.2.2.2.2.2
abbrev mkE (en : List Addr) (mr : Nat) (m : MethodId) (pc : Nat) (ls : Array Slot) (st : List Value) : JFrame := { method := m, pc := pc, locals := ls, stack := st, locked := none, entered := en, monitorRoom := mr }
abbrev WCfg := Nat × List Slot × List Value × WHp × Nat
def frm (G : WMC) (m : MethodId) (A : WCfg) : JFrame := mkE (G.en.map G.ρ) G.mr m A.1 (gL G.ρ A.2.1) (gS G.ρ A.2.2.1)
def WCtx (G : WMC) (p : Program) (R : Room) (s : State) (m : MethodId) (meth : Method) (c : Code) : Prop :=
  p.tables.exec = Jvm.exec ∧ c.code = G.bytes ∧ G.Z.Warmed39 s.vm ∧ s.vm.findClass G.own = some m.cls ∧ meth.name = G.nm ∧ meth.sig.returnType = G.ret ∧ c.maxLocals = G.ml ∧ s.heap.size = G.n0 + G.j0 ∧ (∀ k, k < 1000 → G.ρ k = G.n0 + k) ∧ (∀ i j, G.ρ i = G.ρ j → i = j) ∧ G.fr ≤ R.frames ∧ G.lo ≤ R.locals ∧ meth.locks = false
def WHere (G : WMC) (p : Program) (l : Launch) (e : Env) (R : Room) (s : State) (m : MethodId) (args : Array Value) (below : List Frame) (meth : Method) (c : Code) (σ : WHp) (u : Nat) (T : State) : Prop :=
  ∃ locs ce sl, σ.length = G.j0 + ce ∧ u = G.u0 + sl ∧ Stand p l e R s m args below meth c T locs ce sl ∧ WDen G.Z G.ρ G.nb σ T.heap ∧ Fr G.n0 locs
def WStep (G : WMC) (A B : WCfg) : Prop :=
  A.2.2.2.1.length ≤ B.2.2.2.1.length ∧ A.2.2.2.2 ≤ B.2.2.2.2 ∧
  ∀ (p : Program) (l : Launch) (e : Env) (R : Room) (s : State) (m : MethodId) (args : Array Value) (below : List Frame) (meth : Method) (c : Code),
    WCtx G p R s m meth c → B.2.2.2.1.length ≤ G.j0 + R.cells → B.2.2.2.2 ≤ G.u0 + R.slots →
    ∀ T, WHere G p l e R s m args below meth c A.2.2.2.1 A.2.2.2.2 T →
      ∃ T', WHere G p l e R s m args below meth c B.2.2.2.1 B.2.2.2.2 T' ∧
        ∀ target, Steps p.tables e below (T'.setTop (frm G m B)) target → Steps p.tables e below (T.setTop (frm G m A)) target
def WRun (G : WMC) (A : WCfg) (v : Option Value) (σ' : WHp) (u' : Nat) : Prop :=
  A.2.2.2.1.length ≤ σ'.length ∧ A.2.2.2.2 ≤ u' ∧ (G.ret = none → v = none) ∧
  ∀ (p : Program) (l : Launch) (e : Env) (R : Room) (s : State) (m : MethodId) (args : Array Value) (below : List Frame) (meth : Method) (c : Code),
    WCtx G p R s m meth c → σ'.length ≤ G.j0 + R.cells → u' ≤ G.u0 + R.slots →
    ∀ T, WHere G p l e R s m args below meth c A.2.2.2.1 A.2.2.2.2 T →
      ∃ T', WHere G p l e R s m args below meth c σ' u' T' ∧
        ∀ fs, (∀ (f : JFrame) (acts : List Action), f.method = m → f.locked = none → f.entered = [] → (doReturn e (T'.setTop f) acts (v.map (gv G.ρ))).1 = T'.setFrames fs) →
          Steps p.tables e below (T.setTop (frm G m A)) (T'.setFrames fs)
def WGo (G : WMC) (A : WCfg) (Q : Option Value → WHp → Nat → Prop) : Prop := ∃ v σ' u', Q v σ' u' ∧ WRun G A v σ' u'
def AtI (bytes : ByteArray) (pc : Nat) (i : Instr) (len nx : Nat) : Prop := decode bytes pc = .ok (i, len) ∧ pc + len = nx
def AtJ (bytes : ByteArray) (pc : Nat) (f : Int → Instr) (nx tgt : Nat) : Prop := ∃ o : Int, decode bytes pc = .ok (f o, 3) ∧ pc + 3 = nx ∧ 0 ≤ (pc : Int) + o ∧ ((pc : Int) + o).toNat = tgt
section Walk
variable {G : WMC} {A B C : WCfg} {Q Q' : Option Value → WHp → Nat → Prop}
theorem WStep.refl (A : WCfg) : WStep G A A := ⟨Nat.le_refl _, Nat.le_refl _, fun _ _ _ _ _ _ _ _ _ _ _ _ _ T hT => ⟨T, hT, fun _ k => k⟩⟩
theorem WStep.trans (h1 : WStep G A B) (h2 : WStep G B C) : WStep G A C := by
  obtain ⟨a1, a2, a3⟩ := h1
  obtain ⟨b1, b2, b3⟩ := h2
  refine ⟨Nat.le_trans a1 b1, Nat.le_trans a2 b2, fun p l e R s m args below meth c hC hc hs T hT => ?_⟩
  obtain ⟨T1, hT1, k1⟩ := a3 p l e R s m args below meth c hC (Nat.le_trans b1 hc) (Nat.le_trans b2 hs) T hT
  obtain ⟨T2, hT2, k2⟩ := b3 p l e R s m args below meth c hC hc hs T1 hT1
  exact ⟨T2, hT2, fun t k => k1 t (k2 t k)⟩
theorem WRun.s {v : Option Value} {σ' : WHp} {u' : Nat} (h1 : WStep G A B) (h2 : WRun G B v σ' u') : WRun G A v σ' u' := by
  obtain ⟨a1, a2, a3⟩ := h1
  obtain ⟨b1, b2, b0, b3⟩ := h2
  refine ⟨Nat.le_trans a1 b1, Nat.le_trans a2 b2, b0, fun p l e R s m args below meth c hC hc hs T hT => ?_⟩
  obtain ⟨T1, hT1, k1⟩ := a3 p l e R s m args below meth c hC (Nat.le_trans b1 hc) (Nat.le_trans b2 hs) T hT
  obtain ⟨T2, hT2, k2⟩ := b3 p l e R s m args below meth c hC hc hs T1 hT1
  exact ⟨T2, hT2, fun fs h => k1 _ (k2 fs h)⟩
theorem WGo.s (h1 : WStep G A B) (h2 : WGo G B Q) : WGo G A Q := by
  obtain ⟨v, σ', u', q, r⟩ := h2
  exact ⟨v, σ', u', q, r.s h1⟩
theorem WGo.mono (h1 : WGo G A Q) (h : ∀ v σ' u', Q v σ' u' → Q' v σ' u') : WGo G A Q' := by
  obtain ⟨v, σ', u', q, r⟩ := h1
  exact ⟨v, σ', u', h _ _ _ q, r⟩
theorem WStep.pure {pc nx : Nat} {L L' : List Slot} {S S' : List Value} {σ : WHp} {u : Nat}
    (h : ∀ {p : Program} {e : Env} {below : List Frame} {T target : State} {m : MethodId} {c : Code}, At T m c below → p.tables.exec = Jvm.exec → c.code = G.bytes → (∀ i j, G.ρ i = G.ρ j → i = j) →
      Steps p.tables e below (T.setTop (mkE (G.en.map G.ρ) G.mr m nx (gL G.ρ L') (gS G.ρ S'))) target → Steps p.tables e below (T.setTop (mkE (G.en.map G.ρ) G.mr m pc (gL G.ρ L) (gS G.ρ S))) target) :
    WStep G (pc, L, S, σ, u) (nx, L', S', σ, u) := by
  refine ⟨Nat.le_refl _, Nat.le_refl _, fun p l e R s m args below meth c hC hc hs T hT => ⟨T, hT, fun target k => ?_⟩⟩
  obtain ⟨locs, ce, sl, h1, h2, X, D, N⟩ := hT
  exact h X.here hC.1 hC.2.1 hC.2.2.2.2.2.2.2.2.2.1 k
def WCo (G : WMC) (A : WCfg) (R : WCfg → Prop) : Prop := ∃ B, R B ∧ WStep G A B
theorem WCo.s {R : WCfg → Prop} (h1 : WStep G A B) (h2 : WCo G B R) : WCo G A R := by
  obtain ⟨C, q, r⟩ := h2
  exact ⟨C, q, h1.trans r⟩
theorem WCo.here {R : WCfg → Prop} (h : R A) : WCo G A R := ⟨A, h, WStep.refl A⟩
theorem frm_plain {m : MethodId} (h : G.2.2.2.2.2.2 = ([], 0)) : frm G m A = mkF m A.1 (gL G.ρ A.2.1) (gS G.ρ A.2.2.1) := by
  have h1 : G.en = [] := congrArg (·.1) h
  have h2 : G.mr = 0 := congrArg (·.2) h
  unfold frm
  rw [h1, h2]
  rfl
end Walk
end Jvm.Sy
namespace Jvm.Sy
open Jvm Jvm.ClassFile Sem Op Lib Jvm.Free Jvm.Stand Jvm.LawKit Jvm.RoadKit Bundle
section Pure
variable {G : WMC} {pc nx tgt u : Nat} {L L' : List Slot} {S : List Value} {σ : WHp}
theorem WStep.iload {k : Nat} {x : Int32} (d : AtI G.bytes pc (.iload k) 2 nx) (hl : L[k]? = some (.val (.int x))) : WStep G (pc, L, S, σ, u) (nx, L, .int x :: S, σ, u) := by
  obtain ⟨d, rfl⟩ := d
  exact WStep.pure fun hA hx hby _ k => XS.iload hA hx rfl (hb hby d) (gL_val hl) k
theorem WStep.iloadN {k : Fin 4} {x : Int32} (d : AtI G.bytes pc (.iload_n k) 1 nx) (hl : L[k.val]? = some (.val (.int x))) : WStep G (pc, L, S, σ, u) (nx, L, .int x :: S, σ, u) := by
  obtain ⟨d, rfl⟩ := d
  exact WStep.pure fun hA hx hby _ k => XS.iloadN hA hx rfl (hb hby d) (gL_val hl) k
theorem WStep.lloadN {k : Fin 4} {x : Int64} (d : AtI G.bytes pc (.lload_n k) 1 nx) (hl : L[k.val]? = some (.val (.long x))) : WStep G (pc, L, S, σ, u) (nx, L, .long x :: S, σ, u) := by
  obtain ⟨d, rfl⟩ := d
  exact WStep.pure fun hA hx hby _ k => XS.lloadN hA hx rfl (hb hby d) (gL_val hl) k
theorem WStep.aload {k : Nat} {x : Value} (d : AtI G.bytes pc (.aload k) 2 nx) (hl : L[k]? = some (.val x)) (hr : x.isRef = true) : WStep G (pc, L, S, σ, u) (nx, L, x :: S, σ, u) := by
  obtain ⟨d, rfl⟩ := d
  exact WStep.pure fun hA hx hby _ k => XS.aload hA hx rfl (hb hby d) (gL_val hl) (isRef_gv.trans hr) k
theorem WStep.aloadN {k : Fin 4} {x : Value} (d : AtI G.bytes pc (.aload_n k) 1 nx) (hl : L[k.val]? = some (.val x)) (hr : x.isRef = true) : WStep G (pc, L, S, σ, u) (nx, L, x :: S, σ, u) := by
  obtain ⟨d, rfl⟩ := d
  exact WStep.pure fun hA hx hby _ k => XS.aloadN hA hx rfl (hb hby d) (gL_val hl) (isRef_gv.trans hr) k
theorem WStep.istore {k : Nat} {x : Int32} (d : AtI G.bytes pc (.istore k) 2 nx) (hl : storeLocals (gL G.ρ L) k (.int x) = some (gL G.ρ L')) : WStep G (pc, L, .int x :: S, σ, u) (nx, L', S, σ, u) := by
  obtain ⟨d, rfl⟩ := d
  exact WStep.pure fun hA hx hby _ k => XS.istore hA hx rfl (hb hby d) rfl hl k
theorem WStep.astore {k : Nat} {x : Value} (d : AtI G.bytes pc (.astore k) 2 nx) (hr : x.isRef = true) (hl : storeLocals (gL G.ρ L) k (gv G.ρ x) = some (gL G.ρ L')) : WStep G (pc, L, x :: S, σ, u) (nx, L', S, σ, u) := by
  obtain ⟨d, rfl⟩ := d
  exact WStep.pure fun hA hx hby _ k => XS.astore hA hx rfl (hb hby d) rfl (isRef_gv.trans hr) hl k
theorem WStep.astoreN {k : Fin 4} {x : Value} (d : AtI G.bytes pc (.astore_n k) 1 nx) (hr : x.isRef = true) (hl : storeLocals (gL G.ρ L) k.val (gv G.ρ x) = some (gL G.ρ L')) : WStep G (pc, L, x :: S, σ, u) (nx, L', S, σ, u) := by
  obtain ⟨d, rfl⟩ := d
  exact WStep.pure fun hA hx hby _ k => XS.astoreN hA hx rfl (hb hby d) rfl (isRef_gv.trans hr) hl k
theorem WStep.iconst {i : Int} (z : Int32) (d : AtI G.bytes pc (.iconst i) 1 nx) (hz : Int32.ofInt i = z) : WStep G (pc, L, S, σ, u) (nx, L, .int z :: S, σ, u) := by
  obtain ⟨d, rfl⟩ := d
  exact WStep.pure fun hA hx hby _ k => by subst hz; exact XS.iconst hA hx rfl (hb hby d) k
theorem WStep.bipush {i : Int} (z : Int32) (d : AtI G.bytes pc (.bipush i) 2 nx) (hz : (Int8.ofInt i).toInt32 = z) : WStep G (pc, L, S, σ, u) (nx, L, .int z :: S, σ, u) := by
  obtain ⟨d, rfl⟩ := d
  exact WStep.pure fun hA hx hby _ k => by subst hz; exact XS.bipush hA hx rfl (hb hby d) k
theorem WStep.aconstNull (d : AtI G.bytes pc .aconst_null 1 nx) : WStep G (pc, L, S, σ, u) (nx, L, .null :: S, σ, u) := by
  obtain ⟨d, rfl⟩ := d
  exact WStep.pure fun hA hx hby _ k => XS.aconstNull hA hx rfl (hb hby d) k
theorem WStep.iadd {x y : Int32} (d : AtI G.bytes pc .iadd 1 nx) : WStep G (pc, L, .int y :: .int x :: S, σ, u) (nx, L, .int (x + y) :: S, σ, u) := by
  obtain ⟨d, rfl⟩ := d
  exact WStep.pure fun hA hx hby _ k => XS.iadd hA hx rfl (hb hby d) rfl k
theorem WStep.isub {x y : Int32} (d : AtI G.bytes pc .isub 1 nx) : WStep G (pc, L, .int y :: .int x :: S, σ, u) (nx, L, .int (x - y) :: S, σ, u) := by
  obtain ⟨d, rfl⟩ := d
  exact WStep.pure fun hA hx hby _ k => XS.isub hA hx rfl (hb hby d) rfl k
theorem WStep.iand {x y : Int32} (d : AtI G.bytes pc .iand 1 nx) : WStep G (pc, L, .int y :: .int x :: S, σ, u) (nx, L, .int (x &&& y) :: S, σ, u) := by
  obtain ⟨d, rfl⟩ := d
  exact WStep.pure fun hA hx hby _ k => XS.iand hA hx rfl (hb hby d) rfl k
theorem WStep.irem {x y : Int32} (d : AtI G.bytes pc .irem 1 nx) (hy : y ≠ 0) : WStep G (pc, L, .int y :: .int x :: S, σ, u) (nx, L, .int (x % y) :: S, σ, u) := by
  obtain ⟨d, rfl⟩ := d
  have q : x - x / y * y = x % y := irem_eq_mod x y
  exact WStep.pure fun hA hx hby _ k => XS.irem hA hx rfl (hb hby d) rfl hy (by rw [q]; exact k)
theorem WStep.iushr {x : Int32} {y : Int32} (d : AtI G.bytes pc .iushr 1 nx) : WStep G (pc, L, .int y :: .int x :: S, σ, u) (nx, L, .int ((x.toUInt32 >>> (y &&& 31).toUInt32).toInt32) :: S, σ, u) := by
  obtain ⟨d, rfl⟩ := d
  exact WStep.pure fun hA hx hby _ k => XS.iushr hA hx rfl (hb hby d) rfl k
theorem WStep.i2l {x : Int32} (d : AtI G.bytes pc .i2l 1 nx) : WStep G (pc, L, .int x :: S, σ, u) (nx, L, .long (x.toInt64) :: S, σ, u) := by
  obtain ⟨d, rfl⟩ := d
  exact WStep.pure fun hA hx hby _ k => XS.i2l hA hx rfl (hb hby d) rfl k
theorem WStep.lcmp {x y : Int64} (d : AtI G.bytes pc .lcmp 1 nx) : WStep G (pc, L, .long y :: .long x :: S, σ, u) (nx, L, .int (lcmpW x y) :: S, σ, u) := by
  obtain ⟨d, rfl⟩ := d
  exact WStep.pure fun hA hx hby _ k => XS.lcmp hA hx rfl (hb hby d) rfl k
theorem WStep.dup {x : Value} (d : AtI G.bytes pc .dup 1 nx) (hc : x.category = 1) : WStep G (pc, L, x :: S, σ, u) (nx, L, x :: x :: S, σ, u) := by
  obtain ⟨d, rfl⟩ := d
  exact WStep.pure fun hA hx hby _ k => XS.dup hA hx rfl (hb hby d) rfl (cat_gv.trans hc) k
theorem WStep.pop {x : Value} (d : AtI G.bytes pc .pop 1 nx) (hc : x.category = 1) : WStep G (pc, L, x :: S, σ, u) (nx, L, S, σ, u) := by
  obtain ⟨d, rfl⟩ := d
  exact WStep.pure fun hA hx hby _ k => XS.pop hA hx rfl (hb hby d) rfl (cat_gv.trans hc) k
theorem WStep.goto (d : AtJ G.bytes pc .goto nx tgt) : WStep G (pc, L, S, σ, u) (tgt, L, S, σ, u) := by
  obtain ⟨o, d, rfl, h0, h1⟩ := d
  exact WStep.pure fun hA hx hby _ k => XS.goto hA hx rfl (pc0 := pc) (pc' := tgt) rfl (hb hby d) h0 h1 k
theorem WStep.icmpT {cd : ClassFile.Cond} {x y : Int32} (d : AtJ G.bytes pc (.if_icmp cd) nx tgt) (h : if_icmp.holds cd x y = true) : WStep G (pc, L, .int y :: .int x :: S, σ, u) (tgt, L, S, σ, u) := by
  obtain ⟨o, d, rfl, h0, h1⟩ := d
  exact WStep.pure fun hA hx hby _ k => XS.icmpYes hA hx rfl (pc0 := pc) (pc' := tgt) rfl (hb hby d) rfl h h0 h1 k
theorem WStep.icmpF {cd : ClassFile.Cond} {x y : Int32} (d : AtJ G.bytes pc (.if_icmp cd) nx tgt) (h : if_icmp.holds cd x y = false) : WStep G (pc, L, .int y :: .int x :: S, σ, u) (nx, L, S, σ, u) := by
  obtain ⟨o, d, rfl, h0, h1⟩ := d
  exact WStep.pure fun hA hx hby _ k => XS.icmpNo hA hx rfl (hb hby d) rfl h k
theorem WStep.ifT {cd : ClassFile.Cond} {x : Int32} (d : AtJ G.bytes pc (.ifCond cd) nx tgt) (h : if_icmp.holds cd x 0 = true) : WStep G (pc, L, .int x :: S, σ, u) (tgt, L, S, σ, u) := by
  obtain ⟨o, d, rfl, h0, h1⟩ := d
  exact WStep.pure fun hA hx hby _ k => XS.ifYes hA hx rfl (pc0 := pc) (pc' := tgt) rfl (hb hby d) rfl ((if0 _ _).trans h) h0 h1 k
theorem WStep.ifF {cd : ClassFile.Cond} {x : Int32} (d : AtJ G.bytes pc (.ifCond cd) nx tgt) (h : if_icmp.holds cd x 0 = false) : WStep G (pc, L, .int x :: S, σ, u) (nx, L, S, σ, u) := by
  obtain ⟨o, d, rfl, h0, h1⟩ := d
  exact WStep.pure fun hA hx hby _ k => XS.ifNo hA hx rfl (hb hby d) rfl ((if0 _ _).trans h) k
end Pure
section Forks
variable {G : WMC} {pc nx tgt u : Nat} {L : List Slot} {S : List Value} {σ : WHp} {Q : Option Value → WHp → Nat → Prop}
theorem WGo.lt {x y : Int32} (d : AtJ G.bytes pc (.if_icmp .lt) nx tgt) (h1 : x < y → WGo G (tgt, L, S, σ, u) Q) (h2 : ¬ x < y → WGo G (nx, L, S, σ, u) Q) : WGo G (pc, L, .int y :: .int x :: S, σ, u) Q := by
  by_cases h : x < y
  · exact (h1 h).s (WStep.icmpT d (tlt h).1)
  · exact (h2 h).s (WStep.icmpF d (flt h).1)
theorem WGo.ge {x y : Int32} (d : AtJ G.bytes pc (.if_icmp .ge) nx tgt) (h1 : ¬ x < y → WGo G (tgt, L, S, σ, u) Q) (h2 : x < y → WGo G (nx, L, S, σ, u) Q) : WGo G (pc, L, .int y :: .int x :: S, σ, u) Q := by
  by_cases h : x < y
  · exact (h2 h).s (WStep.icmpF d (tlt h).2.1)
  · exact (h1 h).s (WStep.icmpT d (flt h).2.1)
theorem WGo.ge0 {x : Int32} (d : AtJ G.bytes pc (.ifCond .ge) nx tgt) (h1 : ¬ x < 0 → WGo G (tgt, L, S, σ, u) Q) (h2 : x < 0 → WGo G (nx, L, S, σ, u) Q) : WGo G (pc, L, .int x :: S, σ, u) Q := by
  by_cases h : x < 0
  · exact (h2 h).s (WStep.ifF d (tlt h).2.1)
  · exact (h1 h).s (WStep.ifT d (flt h).2.1)
theorem WGo.geL {x y : Int64} (d : AtJ G.bytes pc (.ifCond .ge) nx tgt) (h1 : ¬ x < y → WGo G (tgt, L, S, σ, u) Q) (h2 : x < y → WGo G (nx, L, S, σ, u) Q) : WGo G (pc, L, .int (lcmpW x y) :: S, σ, u) Q := by
  exact WGo.ge0 d (fun h => h1 fun q => h ((lw_lt x y).mpr q)) (fun h => h2 ((lw_lt x y).mp h))
theorem WGo.eq {x y : Int32} (d : AtJ G.bytes pc (.if_icmp .eq) nx tgt) (h1 : x = y → WGo G (tgt, L, S, σ, u) Q) (h2 : ¬ x = y → WGo G (nx, L, S, σ, u) Q) : WGo G (pc, L, .int y :: .int x :: S, σ, u) Q := by
  by_cases h : x = y
  · exact (h1 h).s (WStep.icmpT d (teq h).1)
  · exact (h2 h).s (WStep.icmpF d (feq h).1)
theorem WGo.eq0 {x : Int32} (d : AtJ G.bytes pc (.ifCond .eq) nx tgt) (h1 : x = 0 → WGo G (tgt, L, S, σ, u) Q) (h2 : ¬ x = 0 → WGo G (nx, L, S, σ, u) Q) : WGo G (pc, L, .int x :: S, σ, u) Q := by
  by_cases h : x = 0
  · exact (h1 h).s (WStep.ifT d (teq h).1)
  · exact (h2 h).s (WStep.ifF d (feq h).1)
theorem WGo.ne {x y : Int32} (d : AtJ G.bytes pc (.if_icmp .ne) nx tgt) (h1 : ¬ x = y → WGo G (tgt, L, S, σ, u) Q) (h2 : x = y → WGo G (nx, L, S, σ, u) Q) : WGo G (pc, L, .int y :: .int x :: S, σ, u) Q := by
  by_cases h : x = y
  · exact (h2 h).s (WStep.icmpF d (teq h).2)
  · exact (h1 h).s (WStep.icmpT d (feq h).2)
theorem WGo.ne0 {x : Int32} (d : AtJ G.bytes pc (.ifCond .ne) nx tgt) (h1 : ¬ x = 0 → WGo G (tgt, L, S, σ, u) Q) (h2 : x = 0 → WGo G (nx, L, S, σ, u) Q) : WGo G (pc, L, .int x :: S, σ, u) Q := by
  by_cases h : x = 0
  · exact (h2 h).s (WStep.ifF d (teq h).2)
  · exact (h1 h).s (WStep.ifT d (feq h).2)
theorem WGo.neL {x y : Int64} (d : AtJ G.bytes pc (.ifCond .ne) nx tgt) (h1 : ¬ x = y → WGo G (tgt, L, S, σ, u) Q) (h2 : x = y → WGo G (nx, L, S, σ, u) Q) : WGo G (pc, L, .int (lcmpW x y) :: S, σ, u) Q := by
  exact WGo.ne0 d (fun h => h1 fun q => h ((lw_eq x y).mpr q)) (fun h => h2 ((lw_eq x y).mp h))
end Forks
section ForksC
variable {G : WMC} {pc nx tgt u : Nat} {L : List Slot} {S : List Value} {σ : WHp} {Q : WCfg → Prop}
theorem WCo.lt {x y : Int32} (d : AtJ G.bytes pc (.if_icmp .lt) nx tgt) (h1 : x < y → WCo G (tgt, L, S, σ, u) Q) (h2 : ¬ x < y → WCo G (nx, L, S, σ, u) Q) : WCo G (pc, L, .int y :: .int x :: S, σ, u) Q := by
  by_cases h : x < y
  · exact (h1 h).s (WStep.icmpT d (tlt h).1)
  · exact (h2 h).s (WStep.icmpF d (flt h).1)
theorem WCo.ge {x y : Int32} (d : AtJ G.bytes pc (.if_icmp .ge) nx tgt) (h1 : ¬ x < y → WCo G (tgt, L, S, σ, u) Q) (h2 : x < y → WCo G (nx, L, S, σ, u) Q) : WCo G (pc, L, .int y :: .int x :: S, σ, u) Q := by
  by_cases h : x < y
  · exact (h2 h).s (WStep.icmpF d (tlt h).2.1)
  · exact (h1 h).s (WStep.icmpT d (flt h).2.1)
theorem WCo.ge0 {x : Int32} (d : AtJ G.bytes pc (.ifCond .ge) nx tgt) (h1 : ¬ x < 0 → WCo G (tgt, L, S, σ, u) Q) (h2 : x < 0 → WCo G (nx, L, S, σ, u) Q) : WCo G (pc, L, .int x :: S, σ, u) Q := by
  by_cases h : x < 0
  · exact (h2 h).s (WStep.ifF d (tlt h).2.1)
  · exact (h1 h).s (WStep.ifT d (flt h).2.1)
theorem WCo.geL {x y : Int64} (d : AtJ G.bytes pc (.ifCond .ge) nx tgt) (h1 : ¬ x < y → WCo G (tgt, L, S, σ, u) Q) (h2 : x < y → WCo G (nx, L, S, σ, u) Q) : WCo G (pc, L, .int (lcmpW x y) :: S, σ, u) Q := by
  exact WCo.ge0 d (fun h => h1 fun q => h ((lw_lt x y).mpr q)) (fun h => h2 ((lw_lt x y).mp h))
theorem WCo.eq {x y : Int32} (d : AtJ G.bytes pc (.if_icmp .eq) nx tgt) (h1 : x = y → WCo G (tgt, L, S, σ, u) Q) (h2 : ¬ x = y → WCo G (nx, L, S, σ, u) Q) : WCo G (pc, L, .int y :: .int x :: S, σ, u) Q := by
  by_cases h : x = y
  · exact (h1 h).s (WStep.icmpT d (teq h).1)
  · exact (h2 h).s (WStep.icmpF d (feq h).1)
theorem WCo.eq0 {x : Int32} (d : AtJ G.bytes pc (.ifCond .eq) nx tgt) (h1 : x = 0 → WCo G (tgt, L, S, σ, u) Q) (h2 : ¬ x = 0 → WCo G (nx, L, S, σ, u) Q) : WCo G (pc, L, .int x :: S, σ, u) Q := by
  by_cases h : x = 0
  · exact (h1 h).s (WStep.ifT d (teq h).1)
  · exact (h2 h).s (WStep.ifF d (feq h).1)
theorem WCo.ne {x y : Int32} (d : AtJ G.bytes pc (.if_icmp .ne) nx tgt) (h1 : ¬ x = y → WCo G (tgt, L, S, σ, u) Q) (h2 : x = y → WCo G (nx, L, S, σ, u) Q) : WCo G (pc, L, .int y :: .int x :: S, σ, u) Q := by
  by_cases h : x = y
  · exact (h2 h).s (WStep.icmpF d (teq h).2)
  · exact (h1 h).s (WStep.icmpT d (feq h).2)
theorem WCo.ne0 {x : Int32} (d : AtJ G.bytes pc (.ifCond .ne) nx tgt) (h1 : ¬ x = 0 → WCo G (tgt, L, S, σ, u) Q) (h2 : x = 0 → WCo G (nx, L, S, σ, u) Q) : WCo G (pc, L, .int x :: S, σ, u) Q := by
  by_cases h : x = 0
  · exact (h2 h).s (WStep.ifF d (teq h).2)
  · exact (h1 h).s (WStep.ifT d (feq h).2)
theorem WCo.neL {x y : Int64} (d : AtJ G.bytes pc (.ifCond .ne) nx tgt) (h1 : ¬ x = y → WCo G (tgt, L, S, σ, u) Q) (h2 : x = y → WCo G (nx, L, S, σ, u) Q) : WCo G (pc, L, .int (lcmpW x y) :: S, σ, u) Q := by
  exact WCo.ne0 d (fun h => h1 fun q => h ((lw_eq x y).mpr q)) (fun h => h2 ((lw_eq x y).mp h))
end ForksC
end Jvm.Sy
namespace Jvm.Sy
open Jvm Jvm.ClassFile Sem Op Lib Jvm.Free Jvm.Stand Jvm.LawKit Jvm.RoadKit Bundle
def entL : List Value → List Slot
  | [] => []
  | v :: r => if v.category = 2 then .val v :: .second :: entL r else .val v :: entL r
def entryL (args : List Value) (maxL : Nat) : List Slot := entL args ++ List.replicate (maxL - (entL args).length) .unset
theorem fill_eq {ρ : Nat → Nat} : ∀ (args : List Value) (acc : Array Slot), (gS ρ args).foldl (fun acc v => if v.category = 2 then (acc.push (.val v)).push .second else acc.push (.val v)) acc = acc ++ ((entL args).map (gs ρ)).toArray
  | [], acc => by simp [gS, entL]
  | v :: r, acc => by
    have ih := fill_eq (ρ := ρ) r
    simp only [gS, List.map_cons, List.foldl_cons, cat_gv] at ih ⊢
    rw [ih]
    by_cases q : v.category = 2
    · simp [entL, q, gs]
    · simp [entL, q, gs]
theorem entry_eq {ρ : Nat → Nat} (args : List Value) (maxL : Nat) : argsToLocals (gS ρ args).toArray maxL = gL ρ (entryL args maxL) := by
  have h := fill_eq (ρ := ρ) args #[]
  simp only [argsToLocals, List.foldl_toArray', List.size_toArray] at *
  rw [h]
  simp [gL, entryL, gs]
theorem entryF_eq {ρ : Nat → Nat} (m : MethodId) (args : List Value) (maxL : Nat) : entryFrame m (gS ρ args).toArray maxL = mkF m 0 (gL ρ (entryL args maxL)) [] := by
  show ({ method := m, pc := 0, locals := argsToLocals _ maxL, stack := [], locked := none } : JFrame) = _
  rw [entry_eq]
section Ret
variable {G : WMC} {pc nx u : Nat} {L : List Slot} {S : List Value} {σ : WHp} {Q : Option Value → WHp → Nat → Prop}
theorem WRun.of {v : Option Value} {A : WCfg} (h0 : G.ret = none → v = none)
    (h : ∀ {p : Program} {l : Launch} {e : Env} {R : Room} {s : State} {m : MethodId} {args : Array Value} {below : List Frame} {meth : Method} {c : Code} {T : State} {locs : List Loc} {ce sl : Nat}, WCtx G p R s m meth c → Stand p l e R s m args below meth c T locs ce sl →
      ∀ fs, (∀ (f : JFrame) (acts : List Action), f.method = m → f.locked = none → f.entered = [] → (doReturn e (T.setTop f) acts (v.map (gv G.ρ))).1 = T.setFrames fs) → Steps p.tables e below (T.setTop (frm G m A)) (T.setFrames fs)) :
    WRun G A v A.2.2.2.1 A.2.2.2.2 := by
  refine ⟨Nat.le_refl _, Nat.le_refl _, h0, fun p l e R s m args below meth c hC hc hs T hT => ⟨T, hT, fun fs hr => ?_⟩⟩
  obtain ⟨locs, ce, sl, h1, h2, X, D, N⟩ := hT
  exact h hC X fs hr
theorem WGo.ireturn (t : FieldType) {z : Int32} (d : AtI G.bytes pc .ireturn 1 nx) (hret : G.ret = some t) (ht : t = .int ∨ t = .boolean ∨ t = .byte ∨ t = .char ∨ t = .short) (q : Q (some (narrow t (.int z))) σ u) (hem : G.2.2.2.2.2.2 = ([], 0) := by rfl) : WGo G (pc, L, .int z :: S, σ, u) Q := by
  refine ⟨_, _, _, q, WRun.of (A := (pc, L, .int z :: S, σ, u)) (fun h => by rw [hret] at h; cases h) fun hC X fs hr => ?_⟩
  rw [frm_plain hem]
  have hm := hC.2.2.2.2.2.1.trans hret
  rcases ht with rfl | ht
  · exact retOut X hC.1 hm rfl (Or.inl ⟨rfl, Or.inl rfl, _, rfl⟩) (hb hC.2.1 d.1) hr
  · have hn : narrow t (.int z) = .int (nar t z) := by rcases ht with rfl | rfl | rfl | rfl <;> rfl
    rw [hn] at hr
    exact retN X hC.1 hm ht (hb hC.2.1 d.1) hr
theorem WGo.areturn (t : FieldType) {z : Value} (d : AtI G.bytes pc .areturn 1 nx) (hret : G.ret = some t) (ht : t.isReference = true) (hz : z.isRef = true) (q : Q (some z) σ u) (hem : G.2.2.2.2.2.2 = ([], 0) := by rfl) : WGo G (pc, L, z :: S, σ, u) Q := by
  refine ⟨_, _, _, q, WRun.of (A := (pc, L, z :: S, σ, u)) (fun h => by rw [hret] at h; cases h) fun hC X fs hr => ?_⟩
  rw [frm_plain hem]
  refine retOut X hC.1 (hC.2.2.2.2.2.1.trans hret) ?_ (Or.inr (Or.inr (Or.inr (Or.inr ⟨rfl, ht, isRef_gv.trans hz⟩)))) (hb hC.2.1 d.1) hr
  cases t <;> first | rfl | cases ht
theorem WGo.vreturn (d : AtI G.bytes pc .return_ 1 nx) (hret : G.ret = none) (q : Q none σ u) (hem : G.2.2.2.2.2.2 = ([], 0) := by rfl) : WGo G (pc, L, [], σ, u) Q := by
  refine ⟨_, _, _, q, WRun.of (A := (pc, L, [], σ, u)) (fun _ => rfl) fun hC X fs hr => ?_⟩
  rw [frm_plain hem]
  exact X.returnOut hC.1 (hC.2.2.2.2.2.1.trans hret) (hb hC.2.1 d.1) hr
end Ret
theorem met_of {l : Launch} {G : WMC} {y : MethodName} {argsL : List Value} {σ σ' : WHp} {u u' : Nat} {v : Option Value} {ws : List Jvm.Cond} {h : Heap}
    (hy1 : G.own = y.cls) (hy2 : G.nm = y.name) (hj : G.j0 = σ.length) (hu : G.u0 = u) (hpl : plainFor y = true) (hem : G.2.2.2.2.2.2 = ([], 0)) (hρ : ∀ k, k < 1000 → G.ρ k = G.n0 + k) (hinj : ∀ i j, G.ρ i = G.ρ j → i = j)
    (H : WRun G (0, entryL argsL G.ml, [], σ, u) v σ' u') (D : WDen G.Z G.ρ G.nb σ h) (RM : Room) (hR1 : G.fr ≤ RM.frames) (hR2 : σ'.length - σ.length ≤ RM.cells) (hR3 : u' - u ≤ RM.slots) (hR4 : G.lo ≤ RM.locals) :
    MetFree l y (head1 (Jvm.Cond.code y G.bytes G.ml G.ret :: ws) RM) (fun a U => a = (gS G.ρ argsL).toArray ∧ G.Z.Warmed39 U.vm ∧ U.heap = h) (fun _ _ _ _ _ => True)
      (fun _ U o U' => ∃ w L, o = .returned w ∧ (w = v.map (gv G.ρ) ∧ Fr G.n0 L ∧ WDen G.Z G.ρ G.nb σ' U'.heap) ∧ FrameEnd U o U' L (σ'.length - σ.length) (u' - u)) := by
  refine MetFree.of_bodySF hpl hisR ?_
  intro p e s m args below meth c s₁ Bd hml0 hP hK
  obtain ⟨rfl, hZ, hh⟩ := hP
  have X0 : Stand p l e RM s m (gS G.ρ argsL).toArray below meth c s₁ [] 0 0 := Stand.of_body Bd
  have e0 : s₁.heap = h := by rw [← hh, Bd.state]; rfl
  obtain ⟨a1, a2, a0, a3⟩ := H
  have a1' : σ.length ≤ σ'.length := a1
  have a2' : u ≤ u' := a2
  obtain ⟨T', ⟨locs, ce, sl, q1, q2, X, D', N⟩, st⟩ := a3 p l e RM s m _ below meth c ⟨Bd.exec, Bd.bytes, hZ, by rw [hy1]; exact findClass_of_methodNamed Bd.named, (name_of_methodNamed Bd.named Bd.method).1.trans hy2.symm, Bd.returns, hml0, by rw [hh, hj]; exact D.1, hρ, hinj, hR1, hR4, Bd.notSynchronized⟩ (by omega) (by omega) s₁ ⟨[], 0, 0, hj.symm, hu.symm, X0, by rw [e0]; exact D, Fr.nil _⟩
  obtain ⟨fs, hr, hrun, hended, hW, hsame⟩ := X.leave (v := v.map (gv G.ρ)) (fun hn => by rw [a0 (Bd.returns ▸ hn)]; rfl)
  refine ⟨_, _, ?_, hrun, hended, _, _, rfl, ⟨rfl, N, D'⟩, ⟨_, rfl⟩, hW, hsame.mono (by omega) (by omega)⟩
  rw [entryF_eq]
  have := st fs hr
  rw [frm_plain hem] at this
  exact this
theorem hisW {y : MethodName} {bytes : ByteArray} {maxL : Nat} {ret : Option FieldType} {hs : List (Nat × Nat × Nat × Nat)} {ws : List Jvm.Cond} {rm : Room} : ∀ args (s : State) m, (head1 (Jvm.Cond.codeWith y bytes maxL ret hs :: ws) rm).pre.before args s = true → s.methodNamed? y = some m →
    ∃ meth c, s.vm.method? m = some meth ∧ meth.code = some c ∧ c.code = bytes ∧ c.maxLocals = maxL ∧ meth.sig.returnType = ret ∧ meth.locks = false := fun args s m hh hn => by
  obtain ⟨m', meth, c, h0, h1, h2, h3, h4, -, h5, h6, -⟩ := Cond.codeWith_spec (atoms_spec (ws := Jvm.Cond.codeWith y bytes maxL ret hs :: ws) hh _ (List.mem_cons_self ..))
  cases hn.symm.trans h0
  exact ⟨meth, c, h1, h2, h3, h4, h5, h6⟩
theorem met_ofW {hs : List (Nat × Nat × Nat × Nat)} {l : Launch} {G : WMC} {y : MethodName} {argsL : List Value} {σ σ' : WHp} {u u' : Nat} {v : Option Value} {ws : List Jvm.Cond} {h : Heap}
    (hy1 : G.own = y.cls) (hy2 : G.nm = y.name) (hj : G.j0 = σ.length) (hu : G.u0 = u) (hpl : plainFor y = true) (hem : G.2.2.2.2.2.2 = ([], 0)) (hρ : ∀ k, k < 1000 → G.ρ k = G.n0 + k) (hinj : ∀ i j, G.ρ i = G.ρ j → i = j)
    (H : WRun G (0, entryL argsL G.ml, [], σ, u) v σ' u') (D : WDen G.Z G.ρ G.nb σ h) (RM : Room) (hR1 : G.fr ≤ RM.frames) (hR2 : σ'.length - σ.length ≤ RM.cells) (hR3 : u' - u ≤ RM.slots) (hR4 : G.lo ≤ RM.locals) :
    MetFree l y (head1 (Jvm.Cond.codeWith y G.bytes G.ml G.ret hs :: ws) RM) (fun a U => a = (gS G.ρ argsL).toArray ∧ G.Z.Warmed39 U.vm ∧ U.heap = h) (fun _ _ _ _ _ => True)
      (fun _ U o U' => ∃ w L, o = .returned w ∧ (w = v.map (gv G.ρ) ∧ Fr G.n0 L ∧ WDen G.Z G.ρ G.nb σ' U'.heap) ∧ FrameEnd U o U' L (σ'.length - σ.length) (u' - u)) := by
  refine MetFree.of_bodySF hpl hisW ?_
  intro p e s m args below meth c s₁ Bd hml0 hP hK
  obtain ⟨rfl, hZ, hh⟩ := hP
  have X0 : Stand p l e RM s m (gS G.ρ argsL).toArray below meth c s₁ [] 0 0 := Stand.of_body Bd
  have e0 : s₁.heap = h := by rw [← hh, Bd.state]; rfl
  obtain ⟨a1, a2, a0, a3⟩ := H
  have a1' : σ.length ≤ σ'.length := a1
  have a2' : u ≤ u' := a2
  obtain ⟨T', ⟨locs, ce, sl, q1, q2, X, D', N⟩, st⟩ := a3 p l e RM s m _ below meth c ⟨Bd.exec, Bd.bytes, hZ, by rw [hy1]; exact findClass_of_methodNamed Bd.named, (name_of_methodNamed Bd.named Bd.method).1.trans hy2.symm, Bd.returns, hml0, by rw [hh, hj]; exact D.1, hρ, hinj, hR1, hR4, Bd.notSynchronized⟩ (by omega) (by omega) s₁ ⟨[], 0, 0, hj.symm, hu.symm, X0, by rw [e0]; exact D, Fr.nil _⟩
  obtain ⟨fs, hr, hrun, hended, hW, hsame⟩ := X.leave (v := v.map (gv G.ρ)) (fun hn => by rw [a0 (Bd.returns ▸ hn)]; rfl)
  refine ⟨_, _, ?_, hrun, hended, _, _, rfl, ⟨rfl, N, D'⟩, ⟨_, rfl⟩, hW, hsame.mono (by omega) (by omega)⟩
  rw [entryF_eq]
  have := st fs hr
  rw [frm_plain hem] at this
  exact this
def WCallee (Z : State) (a0 : Array Value) (y : MethodName) (Gc : WMC) (n : Nat) : Prop :=
  plainFor y = true ∧ (y.cls ≠ "java/lang/invoke/MethodHandle" ∧ y.cls ≠ "java/lang/invoke/VarHandle") ∧ Gc.own = y.cls ∧ Gc.nm = y.name ∧ (Gc.Z = Z ∧ Gc.2.2.2.2.2.2 = ([], 0)) ∧ (Jvm.Cond.initialized y.cls).before a0 Z = true ∧ (Jvm.Cond.code y Gc.bytes Gc.ml Gc.ret).before a0 Z = true ∧ (∀ sig, parseMethodDescriptor y.desc = some sig → n = sig.parameters.length)
theorem backFor {p : Program} {l : Launch} {e : Env} {R : Room} {s : State} {args : Array Value} {below : List Frame} {Gc : WMC} {y : MethodName} {a0 : Array Value} {argsL : List Value} {σ σ' : WHp} {u u' W n : Nat} {v : Option Value} {h : Heap}
    (C : WCallee Gc.Z a0 y Gc n) (hj : Gc.j0 = σ.length) (hu : Gc.u0 = u) (hρ : ∀ k, k < 1000 → Gc.ρ k = Gc.n0 + k) (hinj : ∀ i j, Gc.ρ i = Gc.ρ j → i = j)
    (H : WRun Gc (0, entryL argsL Gc.ml, [], σ, u) v σ' u') (D : WDen Gc.Z Gc.ρ Gc.nb σ h) (hZ : Gc.Z.Warmed39 s.vm) (hf : Gc.fr + 1 ≤ R.frames) (hl : W + (Gc.ml + 11) + Gc.lo ≤ R.locals) :
    Back l R p e below s args y 3 W (fun A a => a = (gS Gc.ρ argsL).toArray ∧ A.U.heap = h ∧ A.cells + (σ'.length - σ.length) ≤ R.cells ∧ A.slots + (u' - u) ≤ R.slots)
      (fun A _ w B => ∃ L, (w = v.map (gv Gc.ρ) ∧ Fr Gc.n0 L ∧ WDen Gc.Z Gc.ρ Gc.nb σ' B.U.heap) ∧ B.locs = A.locs ++ L ∧ B.cells = A.cells + (σ'.length - σ.length) ∧ B.slots = A.slots + (u' - u)) :=
  backOf (rm := { frames := Gc.fr, cells := σ'.length - σ.length, slots := u' - u, locals := Gc.lo }) (Q := fun w h' L => w = v.map (gv Gc.ρ) ∧ Fr Gc.n0 L ∧ WDen Gc.Z Gc.ρ Gc.nb σ' h') (met_of C.2.2.1 C.2.2.2.1 hj hu C.1 C.2.2.2.2.1.2 hρ hinj H D _ (Nat.le_refl _) (Nat.le_refl _) (Nat.le_refl _) (Nat.le_refl _)) hZ C.2.2.2.2.2.2.1 C.2.2.2.2.2.1 hf hl
def WCalleeW (Z : State) (a0 : Array Value) (y : MethodName) (Gc : WMC) (hs : List (Nat × Nat × Nat × Nat)) (n : Nat) : Prop :=
  plainFor y = true ∧ (y.cls ≠ "java/lang/invoke/MethodHandle" ∧ y.cls ≠ "java/lang/invoke/VarHandle") ∧ Gc.own = y.cls ∧ Gc.nm = y.name ∧ (Gc.Z = Z ∧ Gc.2.2.2.2.2.2 = ([], 0)) ∧ (Jvm.Cond.initialized y.cls).before a0 Z = true ∧ (Jvm.Cond.codeWith y Gc.bytes Gc.ml Gc.ret hs).before a0 Z = true ∧ (∀ sig, parseMethodDescriptor y.desc = some sig → n = sig.parameters.length)
theorem backOfW {p : Program} {l : Launch} {e : Env} {R : Room} {s Z : State} {args a0 : Array Value} {below : List Frame} {h : Heap} {hs : List (Nat × Nat × Nat × Nat)} {y : MethodName} {bytes : ByteArray} {maxL : Nat} {ret : Option FieldType} {rm : Room} {len W : Nat} {as' : Array Value} {Q : Option Value → Heap → List Loc → Prop}
    (hM : MetFree l y (head1 [Jvm.Cond.codeWith y bytes maxL ret hs] rm) (fun a U => a = as' ∧ Z.Warmed39 U.vm ∧ U.heap = h) (fun _ _ _ _ _ => True) (fun _ U o U' => ∃ v L, o = .returned v ∧ Q v U'.heap L ∧ FrameEnd U o U' L rm.cells rm.slots))
    (hZ : Z.Warmed39 s.vm) (wc : (Jvm.Cond.codeWith y bytes maxL ret hs).before a0 Z = true) (wz : (Jvm.Cond.initialized y.cls).before a0 Z = true) (hf : rm.frames + 1 ≤ R.frames) (hl : W + (maxL + 11) + rm.locals ≤ R.locals) :
    Back l R p e below s args y len W (fun A a => a = as' ∧ A.U.heap = h ∧ A.cells + rm.cells ≤ R.cells ∧ A.slots + rm.slots ≤ R.slots)
      (fun A _ v B => ∃ L, Q v B.U.heap L ∧ B.locs = A.locs ++ L ∧ B.cells = A.cells + rm.cells ∧ B.slots = A.slots + rm.slots) :=
  Back.of_freeWith (handlers := hs) (bytes := bytes) (maxL := maxL) (ret := ret) (E := fun _ _ o t L k n => k = rm.cells ∧ n = rm.slots ∧ ∃ v, o = .returned v ∧ Q v t.heap L) hM hf hl
    (fun m meth c A a Y hp => have hU : Z.Warmed39 A.U.vm := wtrans hZ Y.warmed
      ⟨by show (Jvm.Cond.and _ .tt).before a A.U = true; rw [Cond.before_and, mv hU wc]; rfl, mv hU wc, mv hU wz, hp.2.2.1, hp.2.2.2⟩)
    (fun m meth c A a g mk Y hp => ⟨hp.1, wtrans hZ Y.warmed, hp.2.1⟩) (fun _ _ _ _ _ _ _ _ _ => trivial)
    (fun _ _ _ _ ⟨v, L, h1, h2, h3⟩ => ⟨L, _, _, h3, rfl, rfl, v, h1, h2⟩)
    (fun m meth c A a g mk v t L k n Y hp _ _ ⟨e1, e2, v', e3, e4⟩ => by cases e3; subst e1 e2; exact ⟨L, e4, rfl, rfl, rfl⟩)
theorem backForW {hs : List (Nat × Nat × Nat × Nat)} {p : Program} {l : Launch} {e : Env} {R : Room} {s : State} {args : Array Value} {below : List Frame} {Gc : WMC} {y : MethodName} {a0 : Array Value} {argsL : List Value} {σ σ' : WHp} {u u' W n : Nat} {v : Option Value} {h : Heap}
    (C : WCalleeW Gc.Z a0 y Gc hs n) (hj : Gc.j0 = σ.length) (hu : Gc.u0 = u) (hρ : ∀ k, k < 1000 → Gc.ρ k = Gc.n0 + k) (hinj : ∀ i j, Gc.ρ i = Gc.ρ j → i = j)
    (H : WRun Gc (0, entryL argsL Gc.ml, [], σ, u) v σ' u') (D : WDen Gc.Z Gc.ρ Gc.nb σ h) (hZ : Gc.Z.Warmed39 s.vm) (hf : Gc.fr + 1 ≤ R.frames) (hl : W + (Gc.ml + 11) + Gc.lo ≤ R.locals) :
    Back l R p e below s args y 3 W (fun A a => a = (gS Gc.ρ argsL).toArray ∧ A.U.heap = h ∧ A.cells + (σ'.length - σ.length) ≤ R.cells ∧ A.slots + (u' - u) ≤ R.slots)
      (fun A _ w B => ∃ L, (w = v.map (gv Gc.ρ) ∧ Fr Gc.n0 L ∧ WDen Gc.Z Gc.ρ Gc.nb σ' B.U.heap) ∧ B.locs = A.locs ++ L ∧ B.cells = A.cells + (σ'.length - σ.length) ∧ B.slots = A.slots + (u' - u)) :=
  backOfW (rm := { frames := Gc.fr, cells := σ'.length - σ.length, slots := u' - u, locals := Gc.lo }) (Q := fun w h' L => w = v.map (gv Gc.ρ) ∧ Fr Gc.n0 L ∧ WDen Gc.Z Gc.ρ Gc.nb σ' h') (met_ofW C.2.2.1 C.2.2.2.1 hj hu C.1 C.2.2.2.2.1.2 hρ hinj H D _ (Nat.le_refl _) (Nat.le_refl _) (Nat.le_refl _) (Nat.le_refl _)) hZ C.2.2.2.2.2.2.1 C.2.2.2.2.2.1 hf hl
theorem toL {ρ : Nat → Nat} (v : Option Value) (S : List Value) : gS ρ (v.toList ++ S) = (v.map (gv ρ)).toList ++ gS ρ S := by cases v <;> rfl
section Calls
variable {G Gc : WMC} {pc nx u idx n : Nat} {L : List Slot} {S Sf argsL : List Value} {σ : WHp} {Q Qc : Option Value → WHp → Nat → Prop} {RR : WCfg → Prop} {y : MethodName} {a0 : Array Value}
theorem WGo.callS (d : AtI G.bytes pc (.invokestatic idx) 3 nx) (C : WCallee G.Z a0 y Gc n) (wl : (Jvm.Cond.methodLink G.own idx y).before a0 G.Z = true) (ws : (Jvm.Cond.static y).before a0 G.Z = true)
    (H : WGo Gc (0, entryL argsL Gc.ml, [], σ, u) Qc) (hG : Gc.1 = G.1) (hj : Gc.j0 = σ.length) (hu : Gc.u0 = u) (hn : argsL.length = n) (hS : Sf = argsL.reverse ++ S) (hL : L.length = G.ml) (hf : Gc.fr + 1 ≤ G.fr) (hl : 2 * G.mr + (S.map Value.category).sum + (Gc.ml + 11) + Gc.lo ≤ G.lo)
    (K : ∀ v σ' u', Qc v σ' u' → WGo G (nx, L, v.toList ++ S, σ', u') Q) : WGo G (pc, L, Sf, σ, u) Q := by
  obtain ⟨v, σ', u', q, r⟩ := H
  refine (K v σ' u' q).s ?_
  have m1 : σ.length ≤ σ'.length := r.1
  have m2 : u ≤ u' := r.2.1
  refine ⟨m1, m2, fun p l e R s m args below meth c hC hc hs T hT => ?_⟩
  obtain ⟨hx, hby, hZ, hown, hnm, hret, hml, hs0, hρ, hinj, hfr, hlo, hlk⟩ := hC
  obtain ⟨locs, ce, sl, h1, h2, X, D, N⟩ := hT
  have eZ : Gc.Z = G.Z := congrArg (·.1) hG
  have eρ : Gc.ρ = G.ρ := congrArg (·.2.1) hG
  have en : Gc.n0 = G.n0 := congrArg (·.2.2.1) hG
  have enb : Gc.nb = G.nb := congrArg (·.2.2) hG
  have h1' : σ.length = G.j0 + ce := h1
  have h2' : u = G.u0 + sl := h2
  have hc' : σ'.length ≤ G.j0 + R.cells := hc
  have hs' : u' ≤ G.u0 + R.slots := hs
  have Bk := backFor (p := p) (l := l) (e := e) (R := R) (s := s) (args := args) (below := below) (W := 2 * G.mr + (S.map Value.category).sum) (eZ ▸ C) hj hu (by rw [eρ, en]; exact hρ) (by rw [eρ]; exact hinj) r (by rw [eZ, eρ, enb]; exact D) (by rw [eZ]; exact hZ) (Nat.le_trans hf hfr) (Nat.le_trans hl hlo)
  obtain ⟨C1, C2, C3, C4, C5, C6, C7, C8⟩ := C
  rw [eρ, enb, en, eZ] at Bk
  obtain ⟨w, vm1, ⟨T', L', k', n'⟩, -, X', ⟨Lc, ⟨hw', N', D'⟩, l', y', z'⟩, st⟩ := Jvm.LawKit.callS X hx (y := y) hown (mvT hZ wl) (mvT hZ ws) (mvT hZ C6) (mvT hZ C7) C2 Bk (g := frm G m (pc, L, Sf, σ, u)) rfl (by show (gL _ L).size = _; rw [gL_size, hL, hml]) (argsL := gS G.ρ argsL) (rest := gS G.ρ S)
    (fun sig hsig => by rw [← C8 sig hsig, ← hn]; simp [gS]) (by show gS _ Sf = _; rw [hS]; simp [gS]) (by rw [sum_gS]; exact Nat.le_refl _) (hb hby d.1) (fun _ _ => ⟨rfl, rfl, by show ce + _ ≤ _; omega, by show sl + _ ≤ _; omega⟩)
  dsimp only [Pt.U, Pt.locs, Pt.cells, Pt.slots] at X' l' y' z' st D'
  subst l' y' z' hw'
  refine ⟨T', ⟨_, _, _, ?_, ?_, X', D', N.app N'⟩, fun t k => st t ?_⟩
  · show σ'.length = _; omega
  · show u' = _; omega
  · rw [← toL]
    have := d.2
    subst this
    exact k
theorem WGo.callI {k : Nat} (d : AtI G.bytes pc (.invokespecial idx) 3 nx) (C : WCallee G.Z a0 y Gc n) (hi : y.name = "<init>") (hr : Gc.ret = none) (wl : (Jvm.Cond.methodLink G.own idx y).before a0 G.Z = true) (ws : (Jvm.Cond.instanceMethod y).before a0 G.Z = true) (hk : k < 1000)
    (H : WGo Gc (0, entryL (.ref k :: argsL) Gc.ml, [], σ, u) Qc) (hG : Gc.1 = G.1) (hj : Gc.j0 = σ.length) (hu : Gc.u0 = u) (hn : argsL.length = n) (hS : Sf = argsL.reverse ++ .ref k :: S) (hL : L.length = G.ml) (hf : Gc.fr + 1 ≤ G.fr) (hl : 2 * G.mr + (S.map Value.category).sum + (Gc.ml + 11) + Gc.lo ≤ G.lo)
    (K : ∀ v σ' u', Qc v σ' u' → WGo G (nx, L, v.toList ++ S, σ', u') Q) : WGo G (pc, L, Sf, σ, u) Q := by
  obtain ⟨v, σ', u', q, r⟩ := H
  refine (K v σ' u' q).s ?_
  have m1 : σ.length ≤ σ'.length := r.1
  have m2 : u ≤ u' := r.2.1
  refine ⟨m1, m2, fun p l e R s m args below meth c hC hc hs T hT => ?_⟩
  obtain ⟨hx, hby, hZ, hown, hnm, hret, hml, hs0, hρ, hinj, hfr, hlo, hlk⟩ := hC
  obtain ⟨locs, ce, sl, h1, h2, X, D, N⟩ := hT
  have eZ : Gc.Z = G.Z := congrArg (·.1) hG
  have eρ : Gc.ρ = G.ρ := congrArg (·.2.1) hG
  have en : Gc.n0 = G.n0 := congrArg (·.2.2.1) hG
  have enb : Gc.nb = G.nb := congrArg (·.2.2) hG
  have h1' : σ.length = G.j0 + ce := h1
  have h2' : u = G.u0 + sl := h2
  have hc' : σ'.length ≤ G.j0 + R.cells := hc
  have hs' : u' ≤ G.u0 + R.slots := hs
  have Bk := backFor (p := p) (l := l) (e := e) (R := R) (s := s) (args := args) (below := below) (W := 2 * G.mr + (S.map Value.category).sum) (eZ ▸ C) hj hu (by rw [eρ, en]; exact hρ) (by rw [eρ]; exact hinj) r (by rw [eZ, eρ, enb]; exact D) (by rw [eZ]; exact hZ) (Nat.le_trans hf hfr) (Nat.le_trans hl hlo)
  obtain ⟨C1, C2, C3, C4, C5, C6, C7, C8⟩ := C
  rw [hr] at C7
  rw [eρ, enb, en, eZ] at Bk
  obtain ⟨w, vm1, ⟨T', L', k', n'⟩, -, X', ⟨Lc, ⟨hw', N', D'⟩, l', y', z'⟩, st⟩ := X.specialBack hx (y := y) hi hown (mvT hZ wl) (mvT hZ ws) (mvT hZ C7) C2 Bk (g := frm G m (pc, L, Sf, σ, u)) rfl (by show (gL _ L).size = _; rw [gL_size, hL, hml]) (Steps.refl _) (a := G.ρ k) (argsL := gS G.ρ argsL) (rest := gS G.ρ S)
    (fun sig hsig => by rw [← C8 sig hsig, ← hn]; simp [gS]) (by show gS _ Sf = _; rw [hS]; simp [gS, gv]) (by rw [sum_gS]; exact Nat.le_refl _) (hb hby d.1) (fun _ _ => ⟨rfl, rfl, by show ce + _ ≤ _; omega, by show sl + _ ≤ _; omega⟩)
  dsimp only [Pt.U, Pt.locs, Pt.cells, Pt.slots] at X' l' y' z' st D'
  subst l' y' z' hw'
  refine ⟨T', ⟨_, _, _, ?_, ?_, X', D', N.app N'⟩, fun t k => st.trans ?_⟩
  · show σ'.length = _; omega
  · show u' = _; omega
  · rw [← toL]
    have := d.2
    subst this
    exact k
theorem WGo.callV {k : Nat} {Cn : String} {fs : List (WKey × Value)} {z : MethodName} (d : AtI G.bytes pc (.invokevirtual idx) 3 nx) (C : WCallee G.Z a0 y Gc n) (hz : z.desc = y.desc ∧ (z.cls ≠ "java/lang/invoke/MethodHandle" ∧ z.cls ≠ "java/lang/invoke/VarHandle")) (wl : (Jvm.Cond.methodLink G.own idx z).before a0 G.Z = true) (wd : (Jvm.Cond.declares z).before a0 G.Z = true) (hnf : ∀ s, G.Z.Warmed39 s.vm → NotFace s z) (wsel : (Jvm.Cond.selects Cn z y).before a0 G.Z = true) (ws : (Jvm.Cond.instanceMethod y).before a0 G.Z = true) (hk : σ[k]? = some (.inr (Cn, fs)))
    (H : WGo Gc (0, entryL (.ref k :: argsL) Gc.ml, [], σ, u) Qc) (hG : Gc.1 = G.1) (hj : Gc.j0 = σ.length) (hu : Gc.u0 = u) (hn : argsL.length = n) (hS : Sf = argsL.reverse ++ .ref k :: S) (hL : L.length = G.ml) (hf : Gc.fr + 1 ≤ G.fr) (hl : 2 * G.mr + (S.map Value.category).sum + (Gc.ml + 11) + Gc.lo ≤ G.lo)
    (K : ∀ v σ' u', Qc v σ' u' → WGo G (nx, L, v.toList ++ S, σ', u') Q) : WGo G (pc, L, Sf, σ, u) Q := by
  obtain ⟨v, σ', u', q, r⟩ := H
  refine (K v σ' u' q).s ?_
  have m1 : σ.length ≤ σ'.length := r.1
  have m2 : u ≤ u' := r.2.1
  refine ⟨m1, m2, fun p l e R s m args below meth c hC hc hs T hT => ?_⟩
  obtain ⟨hx, hby, hZ, hown, hnm, hret, hml, hs0, hρ, hinj, hfr, hlo, hlk⟩ := hC
  obtain ⟨locs, ce, sl, h1, h2, X, D, N⟩ := hT
  have eZ : Gc.Z = G.Z := congrArg (·.1) hG
  have eρ : Gc.ρ = G.ρ := congrArg (·.2.1) hG
  have en : Gc.n0 = G.n0 := congrArg (·.2.2.1) hG
  have enb : Gc.nb = G.nb := congrArg (·.2.2) hG
  have h1' : σ.length = G.j0 + ce := h1
  have h2' : u = G.u0 + sl := h2
  have hc' : σ'.length ≤ G.j0 + R.cells := hc
  have hs' : u' ≤ G.u0 + R.slots := hs
  have Bk := backFor (p := p) (l := l) (e := e) (R := R) (s := s) (args := args) (below := below) (W := 2 * G.mr + (S.map Value.category).sum) (eZ ▸ C) hj hu (by rw [eρ, en]; exact hρ) (by rw [eρ]; exact hinj) r (by rw [eZ, eρ, enb]; exact D) (by rw [eZ]; exact hZ) (Nat.le_trans hf hfr) (Nat.le_trans hl hlo)
  obtain ⟨C1, C2, C3, C4, C5, C6, C7, C8⟩ := C
  rw [eρ, enb, en, eZ] at Bk
  have hE : Exa G.Z T.heap (G.n0 + k) Cn := (D.2.2.1 k _ hk).1
  rw [← hρ k (D.lt hk)] at hE
  obtain ⟨cq, kq, qa, qb, qc⟩ := isOf hZ rfl hE
  obtain ⟨w, vm1, ⟨T', L', k', n'⟩, -, X', ⟨Lc, ⟨hw', N', D'⟩, l', y', z'⟩, st⟩ := X.virtualBack hx (y := z) (z := y) hown (mvT hZ wl) (mvT hZ wd) (hnf s hZ) (mvT hZ wsel) (mvT hZ ws) hz.2 Bk qa qc (g := frm G m (pc, L, Sf, σ, u)) rfl (by show (gL _ L).size = _; rw [gL_size, hL, hml]) (Steps.refl _) (argsL := gS G.ρ argsL) (rest := gS G.ρ S)
    (fun sig hsig => by rw [hz.1] at hsig; rw [← C8 sig hsig, ← hn]; simp [gS]) (by show gS _ Sf = _; rw [hS]; simp [gS, gv]) (by rw [sum_gS]; exact Nat.le_refl _) (hb hby d.1) (fun _ _ => ⟨rfl, rfl, by show ce + _ ≤ _; omega, by show sl + _ ≤ _; omega⟩)
  dsimp only [Pt.U, Pt.locs, Pt.cells, Pt.slots] at X' l' y' z' st D'
  subst l' y' z' hw'
  refine ⟨T', ⟨_, _, _, ?_, ?_, X', D', N.app N'⟩, fun t k => st.trans ?_⟩
  · show σ'.length = _; omega
  · show u' = _; omega
  · rw [← toL]
    have := d.2
    subst this
    exact k
theorem WGo.callVW {hs : List (Nat × Nat × Nat × Nat)} {k : Nat} {Cn : String} {fs : List (WKey × Value)} {z : MethodName} (d : AtI G.bytes pc (.invokevirtual idx) 3 nx) (C : WCalleeW G.Z a0 y Gc hs n) (hz : z.desc = y.desc ∧ (z.cls ≠ "java/lang/invoke/MethodHandle" ∧ z.cls ≠ "java/lang/invoke/VarHandle")) (wl : (Jvm.Cond.methodLink G.own idx z).before a0 G.Z = true) (wd : (Jvm.Cond.declares z).before a0 G.Z = true) (hnf : ∀ s, G.Z.Warmed39 s.vm → NotFace s z) (wsel : (Jvm.Cond.selects Cn z y).before a0 G.Z = true) (ws : (Jvm.Cond.instanceMethod y).before a0 G.Z = true) (hk : σ[k]? = some (.inr (Cn, fs)))
    (H : WGo Gc (0, entryL (.ref k :: argsL) Gc.ml, [], σ, u) Qc) (hG : Gc.1 = G.1) (hj : Gc.j0 = σ.length) (hu : Gc.u0 = u) (hn : argsL.length = n) (hS : Sf = argsL.reverse ++ .ref k :: S) (hL : L.length = G.ml) (hf : Gc.fr + 1 ≤ G.fr) (hl : 2 * G.mr + (S.map Value.category).sum + (Gc.ml + 11) + Gc.lo ≤ G.lo)
    (K : ∀ v σ' u', Qc v σ' u' → WGo G (nx, L, v.toList ++ S, σ', u') Q) : WGo G (pc, L, Sf, σ, u) Q := by
  obtain ⟨v, σ', u', q, r⟩ := H
  refine (K v σ' u' q).s ?_
  have m1 : σ.length ≤ σ'.length := r.1
  have m2 : u ≤ u' := r.2.1
  refine ⟨m1, m2, fun p l e R s m args below meth c hC hc hs1 T hT => ?_⟩
  obtain ⟨hx, hby, hZ, hown, hnm, hret, hml, hs0, hρ, hinj, hfr, hlo, hlk⟩ := hC
  obtain ⟨locs, ce, sl, h1, h2, X, D, N⟩ := hT
  have eZ : Gc.Z = G.Z := congrArg (·.1) hG
  have eρ : Gc.ρ = G.ρ := congrArg (·.2.1) hG
  have en : Gc.n0 = G.n0 := congrArg (·.2.2.1) hG
  have enb : Gc.nb = G.nb := congrArg (·.2.2) hG
  have h1' : σ.length = G.j0 + ce := h1
  have h2' : u = G.u0 + sl := h2
  have hc' : σ'.length ≤ G.j0 + R.cells := hc
  have hs' : u' ≤ G.u0 + R.slots := hs1
  have Bk := backForW (p := p) (l := l) (e := e) (R := R) (s := s) (args := args) (below := below) (W := 2 * G.mr + (S.map Value.category).sum) (eZ ▸ C) hj hu (by rw [eρ, en]; exact hρ) (by rw [eρ]; exact hinj) r (by rw [eZ, eρ, enb]; exact D) (by rw [eZ]; exact hZ) (Nat.le_trans hf hfr) (Nat.le_trans hl hlo)
  obtain ⟨C1, C2, C3, C4, C5, C6, C7, C8⟩ := C
  rw [eρ, enb, en, eZ] at Bk
  have hE : Exa G.Z T.heap (G.n0 + k) Cn := (D.2.2.1 k _ hk).1
  rw [← hρ k (D.lt hk)] at hE
  obtain ⟨cq, kq, qa, qb, qc⟩ := isOf hZ rfl hE
  obtain ⟨w, vm1, ⟨T', L', k', n'⟩, -, X', ⟨Lc, ⟨hw', N', D'⟩, l', y', z'⟩, st⟩ := X.virtualBack hx (y := z) (z := y) hown (mvT hZ wl) (mvT hZ wd) (hnf s hZ) (mvT hZ wsel) (mvT hZ ws) hz.2 Bk qa qc (g := frm G m (pc, L, Sf, σ, u)) rfl (by show (gL _ L).size = _; rw [gL_size, hL, hml]) (Steps.refl _) (argsL := gS G.ρ argsL) (rest := gS G.ρ S)
    (fun sig hsig => by rw [hz.1] at hsig; rw [← C8 sig hsig, ← hn]; simp [gS]) (by show gS _ Sf = _; rw [hS]; simp [gS, gv]) (by rw [sum_gS]; exact Nat.le_refl _) (hb hby d.1) (fun _ _ => ⟨rfl, rfl, by show ce + _ ≤ _; omega, by show sl + _ ≤ _; omega⟩)
  dsimp only [Pt.U, Pt.locs, Pt.cells, Pt.slots] at X' l' y' z' st D'
  subst l' y' z' hw'
  refine ⟨T', ⟨_, _, _, ?_, ?_, X', D', N.app N'⟩, fun t k => st.trans ?_⟩
  · show σ'.length = _; omega
  · show u' = _; omega
  · rw [← toL]
    have := d.2
    subst this
    exact k
theorem WCo.callS (d : AtI G.bytes pc (.invokestatic idx) 3 nx) (C : WCallee G.Z a0 y Gc n) (wl : (Jvm.Cond.methodLink G.own idx y).before a0 G.Z = true) (ws : (Jvm.Cond.static y).before a0 G.Z = true)
    (H : WGo Gc (0, entryL argsL Gc.ml, [], σ, u) Qc) (hG : Gc.1 = G.1) (hj : Gc.j0 = σ.length) (hu : Gc.u0 = u) (hn : argsL.length = n) (hS : Sf = argsL.reverse ++ S) (hL : L.length = G.ml) (hf : Gc.fr + 1 ≤ G.fr) (hl : 2 * G.mr + (S.map Value.category).sum + (Gc.ml + 11) + Gc.lo ≤ G.lo)
    (K : ∀ v σ' u', Qc v σ' u' → WCo G (nx, L, v.toList ++ S, σ', u') RR) : WCo G (pc, L, Sf, σ, u) RR := by
  obtain ⟨v, σ', u', q, r⟩ := H
  refine (K v σ' u' q).s ?_
  have m1 : σ.length ≤ σ'.length := r.1
  have m2 : u ≤ u' := r.2.1
  refine ⟨m1, m2, fun p l e R s m args below meth c hC hc hs T hT => ?_⟩
  obtain ⟨hx, hby, hZ, hown, hnm, hret, hml, hs0, hρ, hinj, hfr, hlo, hlk⟩ := hC
  obtain ⟨locs, ce, sl, h1, h2, X, D, N⟩ := hT
  have eZ : Gc.Z = G.Z := congrArg (·.1) hG
  have eρ : Gc.ρ = G.ρ := congrArg (·.2.1) hG
  have en : Gc.n0 = G.n0 := congrArg (·.2.2.1) hG
  have enb : Gc.nb = G.nb := congrArg (·.2.2) hG
  have h1' : σ.length = G.j0 + ce := h1
  have h2' : u = G.u0 + sl := h2
  have hc' : σ'.length ≤ G.j0 + R.cells := hc
  have hs' : u' ≤ G.u0 + R.slots := hs
  have Bk := backFor (p := p) (l := l) (e := e) (R := R) (s := s) (args := args) (below := below) (W := 2 * G.mr + (S.map Value.category).sum) (eZ ▸ C) hj hu (by rw [eρ, en]; exact hρ) (by rw [eρ]; exact hinj) r (by rw [eZ, eρ, enb]; exact D) (by rw [eZ]; exact hZ) (Nat.le_trans hf hfr) (Nat.le_trans hl hlo)
  obtain ⟨C1, C2, C3, C4, C5, C6, C7, C8⟩ := C
  rw [eρ, enb, en, eZ] at Bk
  obtain ⟨w, vm1, ⟨T', L', k', n'⟩, -, X', ⟨Lc, ⟨hw', N', D'⟩, l', y', z'⟩, st⟩ := Jvm.LawKit.callS X hx (y := y) hown (mvT hZ wl) (mvT hZ ws) (mvT hZ C6) (mvT hZ C7) C2 Bk (g := frm G m (pc, L, Sf, σ, u)) rfl (by show (gL _ L).size = _; rw [gL_size, hL, hml]) (argsL := gS G.ρ argsL) (rest := gS G.ρ S)
    (fun sig hsig => by rw [← C8 sig hsig, ← hn]; simp [gS]) (by show gS _ Sf = _; rw [hS]; simp [gS]) (by rw [sum_gS]; exact Nat.le_refl _) (hb hby d.1) (fun _ _ => ⟨rfl, rfl, by show ce + _ ≤ _; omega, by show sl + _ ≤ _; omega⟩)
  dsimp only [Pt.U, Pt.locs, Pt.cells, Pt.slots] at X' l' y' z' st D'
  subst l' y' z' hw'
  refine ⟨T', ⟨_, _, _, ?_, ?_, X', D', N.app N'⟩, fun t k => st t ?_⟩
  · show σ'.length = _; omega
  · show u' = _; omega
  · rw [← toL]
    have := d.2
    subst this
    exact k
theorem WCo.callI {k : Nat} (d : AtI G.bytes pc (.invokespecial idx) 3 nx) (C : WCallee G.Z a0 y Gc n) (hi : y.name = "<init>") (hr : Gc.ret = none) (wl : (Jvm.Cond.methodLink G.own idx y).before a0 G.Z = true) (ws : (Jvm.Cond.instanceMethod y).before a0 G.Z = true) (hk : k < 1000)
    (H : WGo Gc (0, entryL (.ref k :: argsL) Gc.ml, [], σ, u) Qc) (hG : Gc.1 = G.1) (hj : Gc.j0 = σ.length) (hu : Gc.u0 = u) (hn : argsL.length = n) (hS : Sf = argsL.reverse ++ .ref k :: S) (hL : L.length = G.ml) (hf : Gc.fr + 1 ≤ G.fr) (hl : 2 * G.mr + (S.map Value.category).sum + (Gc.ml + 11) + Gc.lo ≤ G.lo)
    (K : ∀ v σ' u', Qc v σ' u' → WCo G (nx, L, v.toList ++ S, σ', u') RR) : WCo G (pc, L, Sf, σ, u) RR := by
  obtain ⟨v, σ', u', q, r⟩ := H
  refine (K v σ' u' q).s ?_
  have m1 : σ.length ≤ σ'.length := r.1
  have m2 : u ≤ u' := r.2.1
  refine ⟨m1, m2, fun p l e R s m args below meth c hC hc hs T hT => ?_⟩
  obtain ⟨hx, hby, hZ, hown, hnm, hret, hml, hs0, hρ, hinj, hfr, hlo, hlk⟩ := hC
  obtain ⟨locs, ce, sl, h1, h2, X, D, N⟩ := hT
  have eZ : Gc.Z = G.Z := congrArg (·.1) hG
  have eρ : Gc.ρ = G.ρ := congrArg (·.2.1) hG
  have en : Gc.n0 = G.n0 := congrArg (·.2.2.1) hG
  have enb : Gc.nb = G.nb := congrArg (·.2.2) hG
  have h1' : σ.length = G.j0 + ce := h1
  have h2' : u = G.u0 + sl := h2
  have hc' : σ'.length ≤ G.j0 + R.cells := hc
  have hs' : u' ≤ G.u0 + R.slots := hs
  have Bk := backFor (p := p) (l := l) (e := e) (R := R) (s := s) (args := args) (below := below) (W := 2 * G.mr + (S.map Value.category).sum) (eZ ▸ C) hj hu (by rw [eρ, en]; exact hρ) (by rw [eρ]; exact hinj) r (by rw [eZ, eρ, enb]; exact D) (by rw [eZ]; exact hZ) (Nat.le_trans hf hfr) (Nat.le_trans hl hlo)
  obtain ⟨C1, C2, C3, C4, C5, C6, C7, C8⟩ := C
  rw [hr] at C7
  rw [eρ, enb, en, eZ] at Bk
  obtain ⟨w, vm1, ⟨T', L', k', n'⟩, -, X', ⟨Lc, ⟨hw', N', D'⟩, l', y', z'⟩, st⟩ := X.specialBack hx (y := y) hi hown (mvT hZ wl) (mvT hZ ws) (mvT hZ C7) C2 Bk (g := frm G m (pc, L, Sf, σ, u)) rfl (by show (gL _ L).size = _; rw [gL_size, hL, hml]) (Steps.refl _) (a := G.ρ k) (argsL := gS G.ρ argsL) (rest := gS G.ρ S)
    (fun sig hsig => by rw [← C8 sig hsig, ← hn]; simp [gS]) (by show gS _ Sf = _; rw [hS]; simp [gS, gv]) (by rw [sum_gS]; exact Nat.le_refl _) (hb hby d.1) (fun _ _ => ⟨rfl, rfl, by show ce + _ ≤ _; omega, by show sl + _ ≤ _; omega⟩)
  dsimp only [Pt.U, Pt.locs, Pt.cells, Pt.slots] at X' l' y' z' st D'
  subst l' y' z' hw'
  refine ⟨T', ⟨_, _, _, ?_, ?_, X', D', N.app N'⟩, fun t k => st.trans ?_⟩
  · show σ'.length = _; omega
  · show u' = _; omega
  · rw [← toL]
    have := d.2
    subst this
    exact k
theorem selP {Z : State} {y : MethodName} {a0 : Array Value} {n : Nat} (wi : (Jvm.Cond.instantiable y.cls n).before a0 Z = true) (ws : (Jvm.Cond.instanceMethod y).before a0 Z = true) (wp : (Jvm.Cond.privateMethod y).before a0 Z = true) (hy : y.cls ≠ "java/lang/invoke/MethodHandle" ∧ y.cls ≠ "java/lang/invoke/VarHandle") : (Jvm.Cond.selects y.cls y y).before a0 Z = true := by
  obtain ⟨c, k, h1, h2, -, h4, -⟩ := Cond.instantiable_spec wi
  rw [Bool.or_eq_false_iff] at h4
  exact selects_self_of_private h1 h2 h4.1 (Cond.privateMethod_at wp) ws hy
theorem WGo.callP {k : Nat} {Cn : String} {fs : List (WKey × Value)} (d : AtI G.bytes pc (.invokevirtual idx) 3 nx) (C : WCallee G.Z a0 y Gc n) (wl : (Jvm.Cond.methodLink G.own idx y).before a0 G.Z = true) (ws : (Jvm.Cond.instanceMethod y).before a0 G.Z = true) (wsel : (Jvm.Cond.selects y.cls y y).before a0 G.Z = true) (wp : (Jvm.Cond.privateMethod y).before a0 G.Z = true) (hk : σ[k]? = some (.inr (Cn, fs)))
    (H : WGo Gc (0, entryL (.ref k :: argsL) Gc.ml, [], σ, u) Qc) (hG : Gc.1 = G.1) (hj : Gc.j0 = σ.length) (hu : Gc.u0 = u) (hn : argsL.length = n) (hS : Sf = argsL.reverse ++ .ref k :: S) (hL : L.length = G.ml) (hf : Gc.fr + 1 ≤ G.fr) (hl : 2 * G.mr + (S.map Value.category).sum + (Gc.ml + 11) + Gc.lo ≤ G.lo)
    (K : ∀ v σ' u', Qc v σ' u' → WGo G (nx, L, v.toList ++ S, σ', u') Q) : WGo G (pc, L, Sf, σ, u) Q := by
  obtain ⟨v, σ', u', q, r⟩ := H
  refine (K v σ' u' q).s ?_
  have m1 : σ.length ≤ σ'.length := r.1
  have m2 : u ≤ u' := r.2.1
  refine ⟨m1, m2, fun p l e R s m args below meth c hC hc hs T hT => ?_⟩
  obtain ⟨hx, hby, hZ, hown, hnm, hret, hml, hs0, hρ, hinj, hfr, hlo, hlk⟩ := hC
  obtain ⟨locs, ce, sl, h1, h2, X, D, N⟩ := hT
  have eZ : Gc.Z = G.Z := congrArg (·.1) hG
  have eρ : Gc.ρ = G.ρ := congrArg (·.2.1) hG
  have en : Gc.n0 = G.n0 := congrArg (·.2.2.1) hG
  have enb : Gc.nb = G.nb := congrArg (·.2.2) hG
  have h1' : σ.length = G.j0 + ce := h1
  have h2' : u = G.u0 + sl := h2
  have hc' : σ'.length ≤ G.j0 + R.cells := hc
  have hs' : u' ≤ G.u0 + R.slots := hs
  have Bk := backFor (p := p) (l := l) (e := e) (R := R) (s := s) (args := args) (below := below) (W := 2 * G.mr + (S.map Value.category).sum) (eZ ▸ C) hj hu (by rw [eρ, en]; exact hρ) (by rw [eρ]; exact hinj) r (by rw [eZ, eρ, enb]; exact D) (by rw [eZ]; exact hZ) (Nat.le_trans hf hfr) (Nat.le_trans hl hlo)
  obtain ⟨C1, C2, C3, C4, C5, C6, C7, C8⟩ := C
  rw [eρ, enb, en, eZ] at Bk
  have hE : Exa G.Z T.heap (G.n0 + k) Cn := (D.2.2.1 k _ hk).1
  rw [← hρ k (D.lt hk)] at hE
  obtain ⟨cq, e1, e2⟩ := hE.cell
  obtain ⟨w, vm1, ⟨T', L', k', n'⟩, -, X', ⟨Lc, ⟨hw', N', D'⟩, l', y', z'⟩, st⟩ := X.privateBack hx (y := y) hown (mvT hZ wl) (mvT hZ ws) (mvT hZ wsel) (Cond.privateMethod_at (mvP hZ wp (args := #[]))) (mvT hZ C7) C2 Bk (g := frm G m (pc, L, Sf, σ, u)) rfl (by show (gL _ L).size = _; rw [gL_size, hL, hml]) (Steps.refl _) (a := G.ρ k) e1 e2 (argsL := gS G.ρ argsL) (rest := gS G.ρ S)
    (fun sig hsig => by rw [← C8 sig hsig, ← hn]; simp [gS]) (by show gS _ Sf = _; rw [hS]; simp [gS, gv]) (by rw [sum_gS]; exact Nat.le_refl _) (hb hby d.1) (fun _ _ => ⟨rfl, rfl, by show ce + _ ≤ _; omega, by show sl + _ ≤ _; omega⟩)
  dsimp only [Pt.U, Pt.locs, Pt.cells, Pt.slots] at X' l' y' z' st D'
  subst l' y' z' hw'
  refine ⟨T', ⟨_, _, _, ?_, ?_, X', D', N.app N'⟩, fun t k => st.trans ?_⟩
  · show σ'.length = _; omega
  · show u' = _; omega
  · rw [← toL]
    have := d.2
    subst this
    exact k
end Calls
end Jvm.Sy
namespace Jvm.Sy
open Jvm Jvm.ClassFile Sem Op Lib Jvm.Free Jvm.Stand Jvm.LawKit Jvm.RoadKit Bundle
def LaidAll (Z : State) (a0 : Array Value) (C : String) : List (WKey × Value) → Prop
  | [] => True
  | f :: r => (Laid Z a0 C f.1.1 f.1.2.1 f.1.2.2 ∧ ∃ ty, parseFieldDescriptor f.1.2.2 = some ty ∧ f.2 = defaultValue ty) ∧ LaidAll Z a0 C r
theorem LaidAll.at {Z : State} {a0 : Array Value} {C : String} : ∀ {fs : List (WKey × Value)}, LaidAll Z a0 C fs → ∀ {i : Nat} {f : WKey × Value}, fs[i]? = some f → Laid Z a0 C f.1.1 f.1.2.1 f.1.2.2 ∧ ∃ ty, parseFieldDescriptor f.1.2.2 = some ty ∧ f.2 = defaultValue ty
  | [], _, i, f, h => by simp at h
  | g :: r, H, 0, f, h => by simp at h; subst h; exact H.1
  | g :: r, H, i + 1, f, h => LaidAll.at H.2 (i := i) (by simpa using h)
section HeapOps
variable {G : WMC} {pc nx tgt u idx k i n : Nat} {L : List Slot} {S : List Value} {σ : WHp} {a0 : Array Value} {v w : Value} {j : Int32} {vs : List Value} {ty : FieldType} {fs : List (WKey × Value)} {C O nm dd K : String}
theorem WStep.ldc {z : Int32} (d : AtI G.bytes pc (.ldc idx) 2 nx) (wd : (Jvm.Cond.constant G.own idx z).before a0 G.Z = true) : WStep G (pc, L, S, σ, u) (nx, L, .int z :: S, σ, u) := by
  refine ⟨Nat.le_refl _, Nat.le_refl _, fun p l e R s m args below meth c hC hc hs T hT => ?_⟩
  obtain ⟨hx, hby, hZ, hown, hnm, hret, hml, hs0, hρ, hinj, hfr, hlo, hlk⟩ := hC
  obtain ⟨locs, ce, sl, h1, h2, X, D, N⟩ := hT
  obtain ⟨d, rfl⟩ := d
  exact ⟨T, ⟨locs, ce, sl, h1, h2, X, D, N⟩, X.ldcInt hx hown (mvT hZ wd) (g := frm G m (pc, L, S, σ, u)) rfl (hb hby d)⟩
theorem WStep.ldc2 {z : Int64} (d : AtI G.bytes pc (.ldc2_w idx) 3 nx) (wd : (Jvm.Cond.constantLong G.own idx z).before a0 G.Z = true) : WStep G (pc, L, S, σ, u) (nx, L, .long z :: S, σ, u) := by
  refine ⟨Nat.le_refl _, Nat.le_refl _, fun p l e R s m args below meth c hC hc hs T hT => ?_⟩
  obtain ⟨hx, hby, hZ, hown, hnm, hret, hml, hs0, hρ, hinj, hfr, hlo, hlk⟩ := hC
  obtain ⟨locs, ce, sl, h1, h2, X, D, N⟩ := hT
  obtain ⟨d, rfl⟩ := d
  exact ⟨T, ⟨locs, ce, sl, h1, h2, X, D, N⟩, X.ldc2Long hx hown (mvT hZ wd) (g := frm G m (pc, L, S, σ, u)) rfl (hb hby d)⟩
theorem WStep.initO (d : AtI G.bytes pc (.invokespecial idx) 3 nx) (w1 : (Jvm.Cond.methodLink G.own idx Lib.objectInit).before a0 G.Z = true) (w2 : (Jvm.Cond.instanceMethod Lib.objectInit).before a0 G.Z = true) (w3 : (Jvm.Cond.code Lib.objectInit ⟨#[0xb1]⟩ 1 none).before a0 G.Z = true)
    (hL : L.length = G.ml) (hf : 1 ≤ G.fr) (hl : 2 * G.mr + (S.map Value.category).sum + 12 ≤ G.lo) : WStep G (pc, L, .ref k :: S, σ, u) (nx, L, S, σ, u) := by
  refine ⟨Nat.le_refl _, Nat.le_refl _, fun p l e R s m args below meth c hC hc hs T hT => ?_⟩
  obtain ⟨hx, hby, hZ, hown, hnm, hret, hml, hs0, hρ, hinj, hfr, hlo, hlk⟩ := hC
  obtain ⟨locs, ce, sl, h1, h2, X, D, N⟩ := hT
  obtain ⟨d, rfl⟩ := d
  obtain ⟨T', X', e', st⟩ := RoadKit.initO X hx hZ hown w1 w2 w3 rfl (g := frm G m (pc, L, .ref k :: S, σ, u)) rfl (by show (gL _ L).size = _; rw [gL_size, hL, hml]) rfl (hb hby d) (Nat.le_trans hf hfr) (W := 2 * G.mr + (S.map Value.category).sum) (by have := sum_gS (ρ := G.ρ) S; unfold gS at this; rw [this]; exact Nat.le_refl _) (Nat.le_trans hl hlo)
  exact ⟨T', ⟨locs, ce, sl, h1, h2, X', by rw [e']; exact D, N⟩, st⟩
theorem WStep.getF (i : Nat) (d : AtI G.bytes pc (.getfield idx) 3 nx) (wd : (Jvm.Cond.fieldLink G.own idx O nm dd).before a0 G.Z = true) (hk : σ[k]? = some (.inr (C, fs))) (hi : fs[i]? = some ((O, nm, dd), v)) : WStep G (pc, L, .ref k :: S, σ, u) (nx, L, v :: S, σ, u) := by
  refine ⟨Nat.le_refl _, Nat.le_refl _, fun p l e R s m args below meth c hC hc hs T hT => ?_⟩
  obtain ⟨hx, hby, hZ, hown, hnm, hret, hml, hs0, hρ, hinj, hfr, hlo, hlk⟩ := hC
  obtain ⟨locs, ce, sl, h1, h2, X, D, N⟩ := hT
  obtain ⟨d, rfl⟩ := d
  have hko : ObjOk G.Z G.ρ T.heap (G.n0 + k) C fs := D.2.2.1 k _ hk
  have F := hko.2.1 i _ _ _ _ hi
  rw [← hρ k (D.lt hk)] at F
  obtain ⟨T', X', e', st⟩ := RoadKit.getF X hx hZ hown (host := "") (Or.inl wd) Via.refl rfl F (g := frm G m (pc, L, .ref k :: S, σ, u)) rfl rfl (hb hby d)
  exact ⟨T', ⟨locs, ce, sl, h1, h2, X', by rw [e']; exact D, N⟩, st⟩
theorem WStep.putF (i : Nat) (v' : Value) (d : AtI G.bytes pc (.putfield idx) 3 nx) (wd : (Jvm.Cond.fieldLink G.own idx O nm dd).before a0 G.Z = true) (hk : σ[k]? = some (.inr (C, fs))) (hi : fs[i]? = some ((O, nm, dd), w))
    (hlay : (Jvm.Cond.lays C O nm dd).before a0 G.Z = true ∨ ((Jvm.Cond.laysFinal C O nm dd).before a0 G.Z = true ∧ G.own = O ∧ G.nm = "<init>")) (wi : (Jvm.Cond.instantiable C n).before a0 G.Z = true) (hty : parseFieldDescriptor dd = some ty) (hn : narrow ty v = v') (hf : fits ty v' = true) :
    WStep G (pc, L, v :: .ref k :: S, σ, u) (nx, L, S, σ.set k (.inr (C, fs.set i ((O, nm, dd), v'))), u) := by
  refine ⟨by simp, Nat.le_refl _, fun p l e R s m args below meth c hC hc hs T hT => ?_⟩
  obtain ⟨hx, hby, hZ, hown, hnm, hret, hml, hs0, hρ, hinj, hfr, hlo, hlk⟩ := hC
  obtain ⟨locs, ce, sl, h1, h2, X, D, N⟩ := hT
  obtain ⟨d, rfl⟩ := d
  have hko : ObjOk G.Z G.ρ T.heap (G.n0 + k) C fs := D.2.2.1 k _ hk
  obtain ⟨E, Fs, hNe⟩ := hko
  have F := Fs i _ _ _ _ hi
  have hρk := hρ k (D.lt hk)
  obtain ⟨T', h', X', e', W, st⟩ := putFN X hx hZ hown (v := gv G.ρ v) (v' := gv G.ρ v') wd Via.refl rfl F E (hlay.imp id fun q => ⟨q.1, q.2.1, hnm.trans q.2.2⟩) wi hty (by rw [narrow_gv, hn]) (by rw [fits_gv, hf]) (g := frm G m (pc, L, v :: .ref k :: S, σ, u)) rfl (by show gv _ v :: Value.ref (G.ρ k) :: _ = _; rw [hρk]) (hb hby d)
  subst e'
  refine ⟨T', ⟨_, ce, sl, by simpa using h1, h2, X', D.put W ?_, N.app fun y hy => by cases List.mem_singleton.mp hy; exact Nat.le_add_right _ _⟩, st⟩
  have hlt := (List.getElem?_eq_some_iff.mp hi).1
  refine ⟨E.wr W, fun i' O' n' d' y hy => ?_, fun i1 i2 k1 k2 v1 v2 ne q1 q2 => ?_⟩
  · by_cases q : i' = i
    · subst q
      rw [List.getElem?_set_self hlt] at hy
      cases hy
      exact F.same W
    · rw [List.getElem?_set_ne (Ne.symm q)] at hy
      have hne : RoadKit.slotOf G.Z O' n' d' ≠ RoadKit.slotOf G.Z O nm dd := hNe i' i (O', n', d') (O, nm, dd) y w q hy hi
      exact (Fs i' O' n' d' y hy).other W (Or.inr hne)
  · have key : ∀ {i' : Nat} {k' : WKey} {v' : Value}, (fs.set i ((O, nm, dd), v'))[i']? = some (k', v1) → ∃ v'', fs[i']? = some (k', v'') := by
      intro i' k' v' hh
      by_cases q : i' = i
      · subst q
        rw [List.getElem?_set_self hlt] at hh
        cases hh
        exact ⟨_, hi⟩
      · rw [List.getElem?_set_ne (fun z => q z.symm)] at hh
        exact ⟨_, hh⟩
    have key2 : ∀ {i' : Nat} {k' : WKey} {v' : Value}, (fs.set i ((O, nm, dd), v'))[i']? = some (k', v2) → ∃ v'', fs[i']? = some (k', v'') := by
      intro i' k' v' hh
      by_cases q : i' = i
      · subst q
        rw [List.getElem?_set_self hlt] at hh
        cases hh
        exact ⟨_, hi⟩
      · rw [List.getElem?_set_ne (fun z => q z.symm)] at hh
        exact ⟨_, hh⟩
    obtain ⟨_, r1⟩ := key q1
    obtain ⟨_, r2⟩ := key2 q2
    exact hNe i1 i2 _ _ _ _ ne r1 r2
theorem WStep.newO (fs : List (WKey × Value)) (d : AtI G.bytes pc (.new idx) 3 nx) (w1 : (Jvm.Cond.classLink G.own idx C).before a0 G.Z = true) (w2 : (Jvm.Cond.instantiable C n).before a0 G.Z = true) (w3 : (Jvm.Cond.initialized C).before a0 G.Z = true)
    (hfs : LaidAll G.Z a0 C fs) (hnd : (fs.map fun f => f.1.2.1).Nodup) (hlen : σ.length = k) (hk : k < 1000) : WStep G (pc, L, S, σ, u) (nx, L, .ref k :: S, σ ++ [.inr (C, fs)], u + n) := by
  refine ⟨by simp, Nat.le_add_right _ _, fun p l e R s m args below meth c hC hc hs T hT => ?_⟩
  obtain ⟨hx, hby, hZ, hown, hnm, hret, hml, hs0, hρ, hinj, hfr, hlo, hlk⟩ := hC
  obtain ⟨locs, ce, sl, h1, h2, X, D, N⟩ := hT
  obtain ⟨d, rfl⟩ := d
  subst hlen
  have h1' : σ.length = G.j0 + ce := h1
  have h2' : u = G.u0 + sl := h2
  have hc' : σ.length + 1 ≤ G.j0 + R.cells := by simpa using hc
  have hs' : u + n ≤ G.u0 + R.slots := hs
  have eS : T.heap.size = G.n0 + σ.length := D.1
  obtain ⟨T', h', X', e', E, A, Dv, Un, st⟩ := RoadKit.newO X hx hZ hown w1 w2 w3 rfl (g := frm G m (pc, L, S, σ, u)) rfl (hb hby d) (by omega) (by omega)
  subst e'
  have hsz : T'.heap.size = T.heap.size + 1 := by
    have a1 := X'.heapSize
    have a2 : T.heap.size < T'.heap.size := A.lt
    have a3 : s.heap.size = G.n0 + G.j0 := hs0
    omega
  rw [eS] at A Dv Un
  have eρ : G.ρ σ.length = T.heap.size := by rw [hρ _ hk, eS]
  refine ⟨T', ⟨locs, ce + 1, sl + n, by simp; omega, by show u + n = _; omega, X', D.push E hsz hk ⟨A, fun i O' n' d' y hy => ?_, fun i1 i2 k1 k2 v1 v2 ne q1 q2 => ?_⟩ ?_, N⟩, fun t kt => st t ?_⟩
  · obtain ⟨LL, ty, p1, p2⟩ := hfs.at hy
    have := Dv LL p1
    dsimp only at p2
    rw [p2, dv_gv]
    exact this
  · obtain ⟨LL, ty, p1, p2⟩ := hfs.at q1
    obtain ⟨LL', ty', p1', p2'⟩ := hfs.at q2
    refine slot_ne LL LL' (fun e => ne ?_) p1 p1'
    have b1 := (List.getElem?_eq_some_iff.mp q1).1
    have b2 := (List.getElem?_eq_some_iff.mp q2).1
    refine (List.getElem?_inj (l := fs.map fun f => f.1.2.1) (i := i1) (j := i2) (by simpa using b1) hnd).mp ?_
    rw [List.getElem?_map, List.getElem?_map, q1, q2]
    exact congrArg some e
  · exact Un
  · rw [← eρ]; exact kt
theorem WStep.acmp {cd : ACond} {x y : Value} (same : Bool) (pc' : Nat) (d : AtJ G.bytes pc (.if_acmp cd) nx tgt) (h1 : x.isRef = true) (h2 : y.isRef = true) (hq : decide (x = y) = same) (hp : pc' = if acV cd same = true then tgt else nx) : WStep G (pc, L, y :: x :: S, σ, u) (pc', L, S, σ, u) := by
  refine ⟨Nat.le_refl _, Nat.le_refl _, fun p l e R s m args below meth c hC hc hs T hT => ⟨T, hT, fun t kt => ?_⟩⟩
  obtain ⟨hx, hby, hZ, hown, hnm, hret, hml, hs0, hρ, hinj, hfr, hlo, hlk⟩ := hC
  obtain ⟨locs, ce, sl, z1, z2, X, D, N⟩ := hT
  obtain ⟨o, d, e1, h0, e2⟩ := d
  refine RoadKit.acmp (g := frm G m (pc, L, y :: x :: S, σ, u)) X hx rfl (isRef_gv.trans h1) (isRef_gv.trans h2) (pc0 := pc) (pc' := pc') (same := same) rfl (hb hby d) rfl ?_ h0 (by rw [hp, e1, e2]) kt
  rw [← hq]
  by_cases q : x = y
  · simp [q]
  · simp only [q, decide_false, decide_eq_false_iff_not]
    exact fun z => q (gv_inj hinj z)
end HeapOps
end Jvm.Sy
namespace Jvm.Sy
open Jvm Jvm.ClassFile Sem Op Lib Jvm.Free Jvm.Stand Jvm.LawKit Jvm.RoadKit Bundle
theorem WDen.remon {Z : State} {ρ : Nat → Nat} {n0 k : Nat} {hd hd' : List Nat} {σ : WHp} {h : Heap} {cl : Cell} {q : String × List (WKey × Value)} (D : WDen Z ρ (n0, hd) σ h) (hc : h[n0 + k]? = some cl) (mo : Monitor) (hk : σ[k]? = some (.inr q))
    (hU : ∀ j, j ∉ hd' → j ≠ k → j ∉ hd) (hUk : k ∉ hd' → cl.vm = .none ∧ mo = {}) : WDen Z ρ (n0, hd') σ (h.setIfInBounds (n0 + k) { cl with monitor := mo }) := by
  obtain ⟨D1, D2, D3, D4⟩ := D
  have M : Mon h (h.setIfInBounds (n0 + k) { cl with monitor := mo }) := mon_set hc mo
  have hlt := (Array.getElem?_eq_some_iff.mp hc).1
  refine ⟨M.size.trans D1, ⟨D2.1, fun a c h1 h2 => ?_⟩, fun j o hj => ?_, fun j hj hn => ?_⟩
  · have h1' : a < n0 := h1
    have hne : n0 + k ≠ a := fun e => by rw [← e] at h1'; exact absurd h1' (Nat.not_lt.mpr (Nat.le_add_right _ _))
    rw [Array.getElem?_setIfInBounds_ne hne]
    exact D2.2 a c h1 h2
  · rcases o with ⟨ty, vs⟩ | ⟨C, fs⟩
    · obtain ⟨cl', A, r⟩ := D3 j _ hj
      have hne : ¬ j = k := fun e => by rw [e, hk] at hj; cases hj
      have hne' : n0 + k ≠ n0 + j := by omega
      exact ⟨cl', ⟨by rw [Array.getElem?_setIfInBounds_ne hne']; exact A.1, A.2⟩, r⟩
    · obtain ⟨F1, F2, F3⟩ := D3 j _ hj
      exact ⟨F1.mon M, fun i O n d v y => (F2 i O n d v y).mon M, F3⟩
  · by_cases e : j = k
    · subst e
      exact ⟨{ cl with monitor := mo }, by simp [hlt], (hUk hn).1, (hUk hn).2⟩
    · obtain ⟨c, h1, r⟩ := D4 j hj (hU j hn e)
      have hne' : n0 + k ≠ n0 + j := by omega
      exact ⟨c, by rw [Array.getElem?_setIfInBounds_ne hne']; exact h1, r⟩
abbrev WMC.lk (G : WMC) (k r : Nat) : WMC := ((G.1.1, G.1.2.1, G.1.2.2.1, k :: G.1.2.2.2), G.2.1, (G.j0, G.u0, G.fr, G.lo, k :: G.en, r))
abbrev WMC.rm (G : WMC) (r : Nat) : WMC := (G.1, G.2.1, (G.j0, G.u0, G.fr, G.lo, G.en, r))
def WStep2 (G G' : WMC) (A B : WCfg) : Prop :=
  A.2.2.2.1.length ≤ B.2.2.2.1.length ∧ A.2.2.2.2 ≤ B.2.2.2.2 ∧
  ∀ (p : Program) (l : Launch) (e : Env) (R : Room) (s : State) (m : MethodId) (args : Array Value) (below : List Frame) (meth : Method) (c : Code),
    WCtx G p R s m meth c → B.2.2.2.1.length ≤ G.j0 + R.cells → B.2.2.2.2 ≤ G.u0 + R.slots →
    ∀ T, WHere G p l e R s m args below meth c A.2.2.2.1 A.2.2.2.2 T →
      ∃ T', WHere G p l e R s m args below meth c B.2.2.2.1 B.2.2.2.2 T' ∧
        ∀ target, Steps p.tables e below (T'.setTop (frm G' m B)) target → Steps p.tables e below (T.setTop (frm G m A)) target
section Sync
variable {G : WMC} {A B C : WCfg} {Q : Option Value → WHp → Nat → Prop} {r r' : Nat}
theorem WStep2.pre (h1 : WStep G A B) (h2 : WStep2 G (G.rm r) B C) : WStep2 G (G.rm r) A C := by
  obtain ⟨a1, a2, a3⟩ := h1
  obtain ⟨b1, b2, b3⟩ := h2
  refine ⟨Nat.le_trans a1 b1, Nat.le_trans a2 b2, fun p l e R s m args below meth c hC hc hs T hT => ?_⟩
  obtain ⟨T1, hT1, k1⟩ := a3 p l e R s m args below meth c hC (Nat.le_trans b1 hc) (Nat.le_trans b2 hs) T hT
  obtain ⟨T2, hT2, k2⟩ := b3 p l e R s m args below meth c hC hc hs T1 hT1
  exact ⟨T2, hT2, fun t k => k1 t (k2 t k)⟩
theorem WStep2.post (h1 : WStep2 G (G.rm r) A B) (h2 : WStep (G.rm r) B C) : WStep2 G (G.rm r) A C := by
  obtain ⟨a1, a2, a3⟩ := h1
  obtain ⟨b1, b2, b3⟩ := h2
  refine ⟨Nat.le_trans a1 b1, Nat.le_trans a2 b2, fun p l e R s m args below meth c hC hc hs T hT => ?_⟩
  obtain ⟨T1, hT1, k1⟩ := a3 p l e R s m args below meth c hC (Nat.le_trans b1 hc) (Nat.le_trans b2 hs) T hT
  obtain ⟨T2, hT2, k2⟩ := b3 p l e R s m args below meth c hC hc hs T1 hT1
  exact ⟨T2, hT2, fun t k => k1 t (k2 t k)⟩
theorem WGo.s2 (h1 : WStep2 G (G.rm r) A B) (h2 : WGo (G.rm r) B Q) : WGo G A Q := by
  obtain ⟨v, σ', u', q, b1, b2, b0, b3⟩ := h2
  obtain ⟨a1, a2, a3⟩ := h1
  refine ⟨v, σ', u', q, Nat.le_trans a1 b1, Nat.le_trans a2 b2, b0, fun p l e R s m args below meth c hC hc hs T hT => ?_⟩
  obtain ⟨T1, hT1, k1⟩ := a3 p l e R s m args below meth c hC (Nat.le_trans b1 hc) (Nat.le_trans b2 hs) T hT
  obtain ⟨T2, hT2, k2⟩ := b3 p l e R s m args below meth c hC hc hs T1 hT1
  exact ⟨T2, hT2, fun fs h => k1 _ (k2 fs h)⟩
theorem left_free {cell : Cell} {t : ThreadId} {c2 : Cell} (hm : cell.monitor = {}) (e : c2 = { cell.withEntry t with slots := c2.slots }) : c2.left = { c2 with monitor := {} } := by
  generalize c2.slots = sl at e
  subst e
  have hent : cell.enterable t := Or.inl ⟨by rw [hm], by rw [hm]⟩
  rw [Cell.left_withSlots, Cell.left_withEntry' hent]
  obtain ⟨cls, slots, mo, hash, vm⟩ := cell
  simp only at hm
  subst hm
  rfl
theorem WStep2.sync {k r1 pc nx pc' nx' u u' : Nat} {L L' : List Slot} {S S' : List Value} {σ σ' : WHp} {q q' : String × List (WKey × Value)}
    (d1 : AtI G.bytes pc .monitorenter 1 nx) (d2 : AtI G.bytes pc' .monitorexit 1 nx') (hL : L.length = G.ml) (hk : σ[k]? = some (.inr q)) (hk' : σ'[k]? = some (.inr q')) (hkj : k < G.j0) (hkh : k ∉ G.hd) (hnm : G.nm ≠ "<clinit>")
    (hr1 : max G.mr (G.en.length + 1) = r1) (hr : max r G.en.length = r) (hroom : 2 * r1 + (S.map Value.category).sum ≤ G.lo)
    (inner : WStep2 (G.lk k r1) ((G.lk k r1).rm r) (nx, L, S, σ, u) (pc', L', .ref k :: S', σ', u')) :
    WStep2 G (G.rm r) (pc, L, .ref k :: S, σ, u) (nx', L', S', σ', u') := by
  obtain ⟨i1, i2, i3⟩ := inner
  refine ⟨i1, i2, fun p l e R s m args below meth c hC hc hs T hT => ?_⟩
  obtain ⟨hx, hby, hZ, hown, hnm', hret, hml, hs0, hρ, hinj, hfr, hlo, hlk⟩ := hC
  obtain ⟨locs, ce, sl, q1, q2, X, D, N⟩ := hT
  obtain ⟨d1, rfl⟩ := d1
  obtain ⟨d2, rfl⟩ := d2
  have hρk := hρ k (D.lt hk)
  have hlt : G.n0 + k < s.heap.size := by rw [hs0]; omega
  obtain ⟨cell, hcell⟩ : ∃ cell, s.heap[G.n0 + k]? = some cell := ⟨_, Array.getElem?_eq_getElem hlt⟩
  obtain ⟨cellT, hcT, ecT, -⟩ := X.cellAt hcell
  have hσ : k < σ.length := (List.getElem?_eq_some_iff.mp hk).1
  obtain ⟨cu, u1, u2, u3⟩ : Unt T.heap (G.n0 + k) := D.2.2.2 k hσ hkh
  cases hcT.symm.trans u1
  have hmono : cell.monitor = {} := (show cellT.monitor = cell.monitor from congrArg (·.monitor) ecT) ▸ u3
  have hvm : cell.vm = .none := (show cellT.vm = cell.vm from congrArg (·.vm) ecT) ▸ u2
  have hcur : T.cur = s.cur := X.cur_eq
  have hsync : meth.isSynchronized = false := by
    have hl2 := hlk
    simp only [Method.locks, hnm', Bool.and_eq_false_iff, bne_eq_false_iff_eq] at hl2
    rcases hl2 with h | h
    · exact h
    · exact absurd h hnm
  have e1 : ({ enteredFrame (frm G m (pc, L, .ref k :: S, σ, u)) (G.n0 + k) (gS G.ρ S) with pc := pc + 1 } : JFrame) = frm (G.lk k r1) m (pc + 1, L, S, σ, u) := by
    simp [enteredFrame, frm, hr1]
    show (G.n0 + k) :: List.map G.ρ G.en = G.ρ k :: List.map G.ρ G.en
    rw [hρk]
  obtain ⟨X1, st1⟩ := X.monitorenterAt hx (g := frm G m (pc, L, .ref k :: S, σ, u)) rfl (by show (gL _ L).size = _; rw [gL_size, hL, hml]) (a := G.n0 + k) (rest := gS G.ρ S) (by show Value.ref (G.ρ k) :: _ = _; rw [hρk]; rfl) (hb hby d1) hcell hcT (Or.inl (by rw [u3])) hsync
    (by rw [sum_gS]; refine Nat.le_trans ?_ (Nat.le_trans hroom hlo); refine Nat.add_le_add_right (Nat.mul_le_mul_left 2 ?_) _; simp [enteredFrame, frm]; omega)
  have D1 : WDen G.Z G.ρ (G.n0, k :: G.hd) σ (T.setCell (G.n0 + k) (cellT.withEntry T.cur)).heap :=
    WDen.remon (hd := G.hd) D hcT _ hk (fun j h1 _ h3 => h1 (List.mem_cons_of_mem _ h3)) (fun h => absurd (List.mem_cons_self ..) h)
  obtain ⟨T2, ⟨locs2, ce2, sl2, q1', q2', X2, D2, N2⟩, st2⟩ := i3 p l e R (s.setCell (G.n0 + k) (cell.withEntry T.cur)) m args below meth c
    ⟨hx, hby, hZ, hown, hnm', hret, hml, by show (s.heap.setIfInBounds _ _).size = _; rw [Array.size_setIfInBounds]; exact hs0, hρ, hinj, hfr, hlo, hlk⟩ hc hs _ ⟨locs, ce, sl, q1, q2, X1, D1, N⟩
  have hs1 : (s.setCell (G.n0 + k) (cell.withEntry T.cur)).heap[G.n0 + k]? = some (cell.withEntry T.cur) := by
    show (s.heap.setIfInBounds _ _)[_]? = _
    simp [hlt]
  obtain ⟨c2, hc2, ec2, -⟩ := X2.cellAt hs1
  have hcur2 : T2.cur = T.cur := X2.cur_eq.trans hcur.symm
  have hent : cell.enterable T.cur := Or.inl ⟨by rw [hmono], by rw [hmono]⟩
  have ho2 : c2.monitor.owner = some T2.cur := by
    rw [hcur2]
    exact congrArg (·.monitor.owner) ec2
  have hvm2 : c2.vm = .none := (show c2.vm = cell.vm from congrArg (·.vm) ec2).trans hvm
  have e3 : ({ exitedFrame (frm ((G.lk k r1).rm r) m (pc', L', .ref k :: S', σ', u')) (G.en.map G.ρ) (gS G.ρ S') with pc := pc' + 1 } : JFrame) = frm (G.rm r) m (pc' + 1, L', S', σ', u') := by
    simp [exitedFrame, frm, hr]
  obtain ⟨X3, st3⟩ := X2.monitorexitAt hx (g := frm ((G.lk k r1).rm r) m (pc', L', .ref k :: S', σ', u')) rfl (rest := gS G.ρ S') (more := G.en.map G.ρ) (by show Value.ref (G.ρ k) :: _ = _; rw [hρk]; rfl) (hb hby d2) hcell hent hc2 ho2 (by show G.ρ k :: _ = _; rw [hρk])
  rw [left_free hmono ec2] at X3 st3
  refine ⟨_, ⟨locs2, ce2, sl2, q1', q2', X3, WDen.remon (hd := k :: G.hd) (hd' := G.hd) D2 hc2 {} hk' (fun j h1 h2 h3 => (List.mem_cons.mp h3).elim h2 h1) (fun _ => ⟨hvm2, rfl⟩), N2⟩, fun target kt => st1 _ ?_⟩
  show Steps p.tables e below (State.setTop _ ({ enteredFrame (frm G m (pc, L, .ref k :: S, σ, u)) (G.n0 + k) (gS G.ρ S) with pc := pc + 1 } : JFrame)) target
  rw [e1]
  refine st2 _ (st3 _ ?_)
  show Steps p.tables e below (State.setTop _ ({ exitedFrame (frm ((G.lk k r1).rm r) m (pc', L', .ref k :: S', σ', u')) (G.en.map G.ρ) (gS G.ρ S') with pc := pc' + 1 } : JFrame)) target
  rw [e3]
  exact kt
theorem WGo.ireturnM (t : FieldType) {z : Int32} {pc nx u : Nat} {L : List Slot} {S : List Value} {σ : WHp} (d : AtI G.bytes pc .ireturn 1 nx) (hret : G.ret = some t) (ht : t = .boolean ∨ t = .byte ∨ t = .char ∨ t = .short) (hen : G.en = []) (q : Q (some (narrow t (.int z))) σ u) : WGo G (pc, L, .int z :: S, σ, u) Q := by
  refine ⟨_, _, _, q, WRun.of (A := (pc, L, .int z :: S, σ, u)) (fun h => by rw [hret] at h; cases h) fun {p l e R s m args below meth c T locs ce sl} hC X fs hr => ?_⟩
  have hm := hC.2.2.2.2.2.1.trans hret
  have hm' : T.vm.method? m = some meth := X.method'
  have hn : narrow t (.int z) = .int (nar t z) := by rcases ht with rfl | rfl | rfl | rfl <;> rfl
  rw [hn] at hr
  have hr' : ∀ (f : JFrame) (acts : List Action), f.method = m → f.locked = none → f.entered = [] → (doReturn e (T.setTop f) acts (some (.int (nar t z)))).1 = T.setFrames fs := hr
  have hd : decode c.code pc = .ok (.ireturn, 1) := hb hC.2.1 d.1
  have hx := hC.1
  unfold frm
  rw [hen]
  show Steps p.tables e below (T.setTop { method := m, pc := pc, locals := gL G.ρ L, stack := .int z :: gS G.ρ S, locked := none, entered := [], monitorRoom := G.mr }) _
  rcases ht with rfl | rfl | rfl | rfl
  all_goals
    jvm_step X.here [X.here.top, hx, hd, hm', hm, hn]
    first | (intro acts; rw [hr' _ acts rfl rfl rfl]) | rw [hr' _ _ rfl rfl rfl]
    exact Steps.refl _
end Sync
end Jvm.Sy
namespace Jvm.Sy
open Jvm Jvm.ClassFile Sem Op Lib Jvm.Free Jvm.Stand Jvm.LawKit Jvm.RoadKit Bundle
theorem WGo.callIR {G Gc : WMC} {pc nx u idx n : Nat} {L : List Slot} {S Sf argsL : List Value} {σ : WHp} {Q Qc : Option Value → WHp → Nat → Prop} {y : MethodName} {a0 : Array Value} {k : Nat} (d : AtI G.bytes pc (.invokespecial idx) 3 nx) (C : WCallee G.Z a0 y Gc n) (hi : y.name = "<init>") (hr : Gc.ret = none) (wl : (Jvm.Cond.methodRef G.own idx y).before a0 G.Z = true) (ws : (Jvm.Cond.instanceMethod y).before a0 G.Z = true) (hk : k < 1000)
    (H : WGo Gc (0, entryL (.ref k :: argsL) Gc.ml, [], σ, u) Qc) (hG : Gc.1 = G.1) (hj : Gc.j0 = σ.length) (hu : Gc.u0 = u) (hn : argsL.length = n) (hS : Sf = argsL.reverse ++ .ref k :: S) (hL : L.length = G.ml) (hf : Gc.fr + 1 ≤ G.fr) (hl : 2 * G.mr + (S.map Value.category).sum + (Gc.ml + 11) + Gc.lo ≤ G.lo)
    (K : ∀ v σ' u', Qc v σ' u' → WGo G (nx, L, v.toList ++ S, σ', u') Q) : WGo G (pc, L, Sf, σ, u) Q := by
  obtain ⟨v, σ', u', q, r⟩ := H
  refine (K v σ' u' q).s ?_
  have m1 : σ.length ≤ σ'.length := r.1
  have m2 : u ≤ u' := r.2.1
  refine ⟨m1, m2, fun p l e R s m args below meth c hC hc hs T hT => ?_⟩
  obtain ⟨hx, hby, hZ, hown, hnm, hret, hml, hs0, hρ, hinj, hfr, hlo, hlk⟩ := hC
  obtain ⟨locs, ce, sl, h1, h2, X, D, N⟩ := hT
  have eZ : Gc.Z = G.Z := congrArg (·.1) hG
  have eρ : Gc.ρ = G.ρ := congrArg (·.2.1) hG
  have en : Gc.n0 = G.n0 := congrArg (·.2.2.1) hG
  have enb : Gc.nb = G.nb := congrArg (·.2.2) hG
  have h1' : σ.length = G.j0 + ce := h1
  have h2' : u = G.u0 + sl := h2
  have hc' : σ'.length ≤ G.j0 + R.cells := hc
  have hs' : u' ≤ G.u0 + R.slots := hs
  have Bk := backFor (p := p) (l := l) (e := e) (R := R) (s := s) (args := args) (below := below) (W := 2 * G.mr + (S.map Value.category).sum) (eZ ▸ C) hj hu (by rw [eρ, en]; exact hρ) (by rw [eρ]; exact hinj) r (by rw [eZ, eρ, enb]; exact D) (by rw [eZ]; exact hZ) (Nat.le_trans hf hfr) (Nat.le_trans hl hlo)
  obtain ⟨C1, C2, C3, C4, C5, C6, C7, C8⟩ := C
  rw [hr] at C7
  rw [eρ, enb, en, eZ] at Bk
  have SC : SCall p l e R s m args below meth c idx y := SCall.of_ready hx hi (mvT hZ ws) (mvT hZ C7) (fun U r0 hW hnr => by
    have hZU : G.Z.Warmed39 U.vm := wtrans hZ hW
    have hnZ : G.Z.methodNamed? y = some r0 := by
      have q0 : (G.Z.setVm s.vm).methodNamed? y = some r0 := hnr
      rw [State.methodNamed?_setVm hZ.alike] at q0
      exact q0
    have hnU : (G.Z.setVm U.vm).methodNamed? y = some r0 := by rw [State.methodNamed?_setVm hZU.alike]; exact hnZ
    have hp := Cond.methodRef_warmed39 hZU hnZ C2 wl
    obtain ⟨m', c', q1, q2, q3, q4⟩ := Cond.methodRef_named e (s := G.Z.setVm U.vm) (cur := m.cls) (by show U.vm.findClass _ = _; rw [hW.alike.findClass]; exact hown) hp
    cases (State.methodFound?_of_named hnU C2).symm.trans q1
    cases (findClass_of_methodNamed hnU).symm.trans q3
    exact ⟨q4, q2⟩)
  obtain ⟨w, vm1, ⟨T', L', k', n'⟩, -, X', ⟨Lc, ⟨hw', N', D'⟩, l', y', z'⟩, st⟩ := SC X Bk (g := frm G m (pc, L, Sf, σ, u)) rfl (by show (gL _ L).size = _; rw [gL_size, hL, hml]) (Steps.refl _) (a := G.ρ k) (argsL := gS G.ρ argsL) (rest := gS G.ρ S)
    (fun sig hsig => by rw [← C8 sig hsig, ← hn]; simp [gS]) (by show gS _ Sf = _; rw [hS]; simp [gS, gv]) (by rw [sum_gS]; exact Nat.le_refl _) (hb hby d.1) (fun _ _ => ⟨rfl, rfl, by show ce + _ ≤ _; omega, by show sl + _ ≤ _; omega⟩)
  dsimp only [Pt.U, Pt.locs, Pt.cells, Pt.slots] at X' l' y' z' st D'
  subst l' y' z' hw'
  refine ⟨T', ⟨_, _, _, ?_, ?_, X', D', N.app N'⟩, fun t k => st.trans ?_⟩
  · show σ'.length = _; omega
  · show u' = _; omega
  · rw [← toL]
    have := d.2
    subst this
    exact k
end Jvm.Sy
namespace Jvm.Sy
open Jvm Jvm.RoadKit
abbrev wI (x : Int32) : Slot := .val (.int x)
abbrev wJ (x : Int64) : Slot := .val (.long x)
abbrev wR (k : Nat) : Slot := .val (.ref k)
abbrev wN : Slot := .val .null
abbrev wU : Slot := .unset
abbrev wS : Slot := .second
def QB (P : Prop) (σ : WHp) (u : Nat) (v : Option Value) (σ' : WHp) (u' : Nat) : Prop := (v = some (.int 1) ∧ P ∨ v = some (.int 0) ∧ ¬ P) ∧ σ = σ' ∧ u = u'
theorem QB.yes {P : Prop} {σ : WHp} {u : Nat} (h : P) : QB P σ u (some (.int 1)) σ u := ⟨Or.inl ⟨rfl, h⟩, rfl, rfl⟩
theorem QB.no {P : Prop} {σ : WHp} {u : Nat} (h : ¬ P) : QB P σ u (some (.int 0)) σ u := ⟨Or.inr ⟨rfl, h⟩, rfl, rfl⟩
end Jvm.Sy
namespace Jvm.Sy
open Jvm Jvm.RoadKit
abbrev lkK : WKey := ("antecede/sets/LazySet$Node", "key", "J")
abbrev lkN : WKey := ("antecede/sets/LazySet$Node", "next", "Lantecede/sets/LazySet$Node;")
abbrev lkM : WKey := ("antecede/sets/LazySet$Node", "marked", "Z")
abbrev lwP : WKey := ("antecede/sets/LazySet$Window", "pred", "Lantecede/sets/LazySet$Node;")
abbrev lwC : WKey := ("antecede/sets/LazySet$Window", "curr", "Lantecede/sets/LazySet$Node;")
abbrev lsH : WKey := ("antecede/sets/LazySet", "head", "Lantecede/sets/LazySet$Node;")
abbrev nd (x : Int64) (v : Value) (m : Int32) : WObj := .inr ("antecede/sets/LazySet$Node", [(lkK, .long x), (lkN, v), (lkM, .int m)])
abbrev win (v w : Value) : WObj := .inr ("antecede/sets/LazySet$Window", [(lwP, v), (lwC, w)])
abbrev lset (v : Value) : WObj := .inr ("antecede/sets/LazySet", [(lsH, v)])
abbrev Nd := Nat × Int64
def ChTo (σ : WHp) : List Nd → Nat → Prop
  | [], _ => True
  | [e], t => σ[e.1]? = some (nd e.2 (.ref t) 0)
  | e :: f :: r, t => σ[e.1]? = some (nd e.2 (.ref f.1) 0) ∧ ChTo σ (f :: r) t
def Ch (σ : WHp) : List Nd → Prop
  | [] => True
  | [e] => ∃ v, v.isRef = true ∧ σ[e.1]? = some (nd e.2 v 0)
  | e :: f :: r => σ[e.1]? = some (nd e.2 (.ref f.1) 0) ∧ Ch σ (f :: r)
theorem Ch.split {σ : WHp} {a : Nd} {Q : List Nd} : ∀ {P : List Nd}, Ch σ (P ++ a :: Q) ↔ ChTo σ P a.1 ∧ Ch σ (a :: Q)
  | [] => by simp [ChTo]
  | [e] => by simp [ChTo, Ch]
  | e :: f :: r => by
    have ih := Ch.split (σ := σ) (a := a) (Q := Q) (P := f :: r)
    simp only [List.cons_append] at ih ⊢
    simp only [Ch, ChTo, ih, and_assoc]
theorem Ch.head {σ : WHp} {a : Nd} : ∀ {Q : List Nd}, Ch σ (a :: Q) → ∃ v, v.isRef = true ∧ σ[a.1]? = some (nd a.2 v 0)
  | [], h => h
  | b :: r, h => ⟨_, rfl, h.1⟩
theorem Ch.congr {σ σ' : WHp} : ∀ {N : List Nd}, (∀ e ∈ N, σ'[e.1]? = σ[e.1]?) → Ch σ N → Ch σ' N
  | [], _, _ => trivial
  | [e], h, c => by
    obtain ⟨v, h1, h2⟩ := c
    exact ⟨v, h1, (h e (by simp)).trans h2⟩
  | e :: f :: r, h, c => ⟨(h e (by simp)).trans c.1, Ch.congr (fun x hx => h x (List.mem_cons_of_mem _ hx)) c.2⟩
theorem ChTo.congr {σ σ' : WHp} {t : Nat} : ∀ {N : List Nd}, (∀ e ∈ N, σ'[e.1]? = σ[e.1]?) → ChTo σ N t → ChTo σ' N t
  | [], _, _ => trivial
  | [e], h, c => (h e (by simp)).trans c
  | e :: f :: r, h, c => ⟨(h e (by simp)).trans c.1, ChTo.congr (fun x hx => h x (List.mem_cons_of_mem _ hx)) c.2⟩
theorem Ch.lt {σ : WHp} : ∀ {N : List Nd}, Ch σ N → ∀ e ∈ N, e.1 < σ.length
  | [], _, e, h => by cases h
  | [a], c, e, h => by
    obtain ⟨v, -, h2⟩ := c
    cases List.mem_singleton.mp h
    exact (List.getElem?_eq_some_iff.mp h2).1
  | a :: f :: r, c, e, h => (List.mem_cons.mp h).elim (fun q => by rw [q]; exact (List.getElem?_eq_some_iff.mp c.1).1) (fun q => Ch.lt c.2 e q)
def Top (it : Int64) : List Nd → Prop
  | [] => False
  | [a] => it < a.2
  | _ :: b :: r => Top it (b :: r)
theorem Top.app {it : Int64} {a : Nd} {Q : List Nd} : ∀ {P : List Nd}, Top it (P ++ a :: Q) ↔ Top it (a :: Q)
  | [] => Iff.rfl
  | [e] => Iff.rfl
  | e :: f :: r => Top.app (P := f :: r)
def Inv (σ : WHp) (N : List Nd) : Prop :=
  σ.length ≤ 100 ∧ σ[0]? = some (lset (.ref 1)) ∧ Ch σ N ∧ (N.Pairwise fun a b => a.2 < b.2) ∧ (N.map (·.1)).Nodup ∧ (∀ it : Int32, Top it.toInt64 N) ∧ ∃ x N', N = (1, x) :: N' ∧ (∀ it : Int32, x < it.toInt64) ∧ N' ≠ []
theorem Inv.len {σ : WHp} {N : List Nd} (I : Inv σ N) : σ.length ≤ 100 := I.1
theorem Inv.obj {σ : WHp} {N : List Nd} (I : Inv σ N) : σ[0]? = some (lset (.ref 1)) := I.2.1
theorem Inv.ch {σ : WHp} {N : List Nd} (I : Inv σ N) : Ch σ N := I.2.2.1
theorem Inv.srt {σ : WHp} {N : List Nd} (I : Inv σ N) : N.Pairwise fun a b => a.2 < b.2 := I.2.2.2.1
theorem Inv.ix {σ : WHp} {N : List Nd} (I : Inv σ N) : (N.map (·.1)).Nodup := I.2.2.2.2.1
theorem Inv.top {σ : WHp} {N : List Nd} (I : Inv σ N) : ∀ it : Int32, Top it.toInt64 N := I.2.2.2.2.2.1
theorem Inv.bot {σ : WHp} {N : List Nd} (I : Inv σ N) : ∃ x N', N = (1, x) :: N' ∧ (∀ it : Int32, x < it.toInt64) ∧ N' ≠ [] := I.2.2.2.2.2.2
def memN (N : List Nd) (z : Int64) : Prop := ∃ e ∈ N, e.2 = z
theorem get_set_ne {σ : WHp} {i j : Nat} {o : WObj} (h : ¬ i = j) : (σ.set i o)[j]? = σ[j]? := List.getElem?_set_ne h
theorem get_set_eq {σ : WHp} {i : Nat} {o o' : WObj} (h : σ[i]? = some o') : (σ.set i o)[i]? = some o := List.getElem?_set_self (List.getElem?_eq_some_iff.mp h).1
theorem get_app {σ : WHp} {i : Nat} {o : WObj} {T : WHp} (h : σ[i]? = some o) : (σ ++ T)[i]? = some o := by
  rw [List.getElem?_append_left (List.getElem?_eq_some_iff.mp h).1]; exact h
theorem hp_new {σ : WHp} {o : WObj} : (σ ++ [o])[σ.length]? = some o := by simp
theorem Inv.ext {σ : WHp} {N : List Nd} (I : Inv σ N) (o : WObj) (h : σ.length + 1 ≤ 100) : Inv (σ ++ [o]) N :=
  ⟨by simpa using h, get_app I.obj, I.ch.congr fun e he => by rw [List.getElem?_append_left (I.ch.lt e he)], I.srt, I.ix, I.top, I.bot⟩
theorem Inv.ne0 {σ : WHp} {N : List Nd} (I : Inv σ N) : ∀ e ∈ N, e.1 ≠ 0 := by
  have h : ∀ {N : List Nd}, Ch σ N → ∀ e ∈ N, e.1 ≠ 0 := by
    intro N
    induction N with
    | nil => intro _ e he; cases he
    | cons a r ih =>
      intro c e he
      obtain ⟨v, -, q⟩ := Ch.head c
      rcases List.mem_cons.mp he with rfl | he
      · intro e0; rw [e0, I.obj] at q; simp at q
      · cases r with
        | nil => cases he
        | cons b r => exact ih c.2 e he
  exact h I.ch
def Cut (N : List Nd) (it : Int64) (P : List Nd) (a b : Nd) (R : List Nd) : Prop := N = P ++ a :: b :: R ∧ a.2 < it ∧ ¬ b.2 < it
theorem Cut.eq {N P R : List Nd} {it : Int64} {a b : Nd} (C : Cut N it P a b R) : N = P ++ a :: b :: R := C.1
theorem Cut.lo {N P R : List Nd} {it : Int64} {a b : Nd} (C : Cut N it P a b R) : a.2 < it := C.2.1
theorem Cut.hi {N P R : List Nd} {it : Int64} {a b : Nd} (C : Cut N it P a b R) : ¬ b.2 < it := C.2.2
theorem Cut.mem {N P R : List Nd} {it : Int64} {a b : Nd} {σ : WHp} (C : Cut N it P a b R) (I : Inv σ N) : memN N it ↔ b.2 = it := by
  constructor
  · rintro ⟨e, he, rfl⟩
    have hs := I.srt
    rw [C.eq] at hs he
    rw [List.pairwise_append] at hs
    obtain ⟨-, h2, h3⟩ := hs
    rw [List.pairwise_cons, List.pairwise_cons] at h2
    obtain ⟨h4, h5, -⟩ := h2
    have hl := C.lo
    have hh := C.hi
    rcases List.mem_append.mp he with q | q
    · have := h3 e q a (by simp)
      simp only [Int64.lt_iff_toInt_lt] at this hl
      omega
    · rcases List.mem_cons.mp q with rfl | q
      · simp only [Int64.lt_iff_toInt_lt] at hl; omega
      · rcases List.mem_cons.mp q with rfl | q
        · rfl
        · have := h5 e q
          exact absurd this hh
  · intro h
    exact ⟨b, by rw [C.eq]; simp, h⟩
theorem mem_three {P R : List Nd} {a b : Nd} {z : Int64} : memN (P ++ a :: b :: R) z ↔ memN (P ++ [a]) z ∨ b.2 = z ∨ memN R z := by
  constructor
  · rintro ⟨e, he, h⟩
    rcases List.mem_append.mp he with q | q
    · exact Or.inl ⟨e, by simp [q], h⟩
    · rcases List.mem_cons.mp q with rfl | q
      · exact Or.inl ⟨e, by simp, h⟩
      · rcases List.mem_cons.mp q with rfl | q
        · exact Or.inr (Or.inl h)
        · exact Or.inr (Or.inr ⟨e, q, h⟩)
  · rintro (⟨e, he, h⟩ | h | ⟨e, he, h⟩)
    · refine ⟨e, ?_, h⟩
      rcases List.mem_append.mp he with q | q
      · simp [q]
      · simp [List.mem_singleton.mp q]
    · exact ⟨b, by simp, h⟩
    · exact ⟨e, by simp [he], h⟩
theorem Inv.insert {σ : WHp} {N P R : List Nd} {it : Int32} {a b : Nd} (I : Inv σ N) (C : Cut N it.toInt64 P a b R) (hne : ¬ b.2 = it.toInt64) (hl : σ.length + 1 ≤ 100) :
    Inv ((σ ++ [nd it.toInt64 (.ref b.1) 0]).set a.1 (nd a.2 (.ref σ.length) 0)) (P ++ a :: (σ.length, it.toInt64) :: b :: R) ∧ ∀ z, memN (P ++ a :: (σ.length, it.toInt64) :: b :: R) z ↔ memN N z ∨ z = it.toInt64 := by
  obtain ⟨i0, i1, i2, i3, i4, i5, i6⟩ := I
  have hlt := i2.lt
  have e := C.eq
  subst e
  have ha : a.1 < σ.length := hlt a (by simp)
  rw [Ch.split] at i2
  obtain ⟨c1, c2, c3⟩ := i2
  rw [List.map_append, List.nodup_append] at i4
  obtain ⟨n1, n2, n3⟩ := i4
  simp only [List.map_cons, List.nodup_cons, List.mem_cons, not_or] at n2 n3
  have hout : ∀ e : Nd, e.1 < σ.length → e.1 ≠ a.1 → ((σ ++ [nd it.toInt64 (.ref b.1) 0]).set a.1 (nd a.2 (.ref σ.length) 0))[e.1]? = σ[e.1]? := fun e h1 h2 => by
    rw [get_set_ne (fun q => h2 q.symm), List.getElem?_append_left h1]
  have hP : ∀ e ∈ P, e.1 ≠ a.1 := fun e he q => n3 e.1 (List.mem_map_of_mem he) a.1 (Or.inl rfl) q
  have hR : ∀ e ∈ b :: R, e.1 ≠ a.1 := fun e he q => by
    rcases List.mem_cons.mp he with rfl | he
    · exact n2.1.1 q.symm
    · exact n2.1.2 (q ▸ List.mem_map_of_mem he)
  have hk : ∀ e ∈ P ++ a :: b :: R, e.1 ≠ σ.length := fun e he q => by have := hlt e he; omega
  refine ⟨⟨by simpa using hl, ?_, ?_, ?_, ?_, fun z => ?_, ?_⟩, fun z => ?_⟩
  · rw [get_set_ne, get_app i1]
    intro q
    obtain ⟨v, -, q2⟩ := Ch.head (σ := σ) (a := a) (Q := b :: R) ⟨c2, c3⟩
    rw [q, i1] at q2
    simp at q2
  · rw [Ch.split]
    refine ⟨c1.congr fun e he => hout e (hlt e (by simp [he])) (hP e he), ?_, ?_, ?_⟩
    · exact List.getElem?_set_self (by simp; omega)
    · show ((σ ++ [nd it.toInt64 (.ref b.1) 0]).set a.1 _)[σ.length]? = _
      rw [get_set_ne (by omega)]
      exact hp_new
    · exact c3.congr fun e he => hout e (hlt e (by simp [List.mem_cons.mp he])) (hR e he)
  · rw [List.pairwise_append] at i3 ⊢
    obtain ⟨p1, p2, p3⟩ := i3
    rw [List.pairwise_cons, List.pairwise_cons] at p2
    obtain ⟨p4, p5, p6⟩ := p2
    have hb : it.toInt64 < b.2 := by
      have := C.hi
      simp only [Int64.lt_iff_toInt_lt, ← Int64.toInt_inj] at this hne ⊢
      omega
    refine ⟨p1, ?_, fun x hx y hy => ?_⟩
    · rw [List.pairwise_cons, List.pairwise_cons, List.pairwise_cons]
      refine ⟨fun y hy => ?_, fun y hy => ?_, p5, p6⟩
      · rcases List.mem_cons.mp hy with rfl | hy
        · exact C.lo
        · exact p4 y hy
      · rcases List.mem_cons.mp hy with rfl | hy
        · exact hb
        · have := p5 y hy
          simp only [Int64.lt_iff_toInt_lt] at this hb ⊢
          omega
    · rcases List.mem_cons.mp hy with rfl | hy
      · exact p3 x hx _ (by simp)
      · rcases List.mem_cons.mp hy with rfl | hy
        · have h1 := p3 x hx a (by simp)
          have h2 := C.lo
          simp only [Int64.lt_iff_toInt_lt] at h1 h2 ⊢
          omega
        · exact p3 x hx y (by simp [List.mem_cons.mp hy])
  · rw [List.map_append, List.nodup_append]
    refine ⟨n1, ?_, fun x hx y hy q => ?_⟩
    · simp only [List.map_cons, List.nodup_cons, List.mem_cons, not_or]
      refine ⟨⟨by omega, n2.1⟩, ⟨fun q => hk b (by simp) q.symm, fun q => ?_⟩, n2.2⟩
      obtain ⟨e, he, q2⟩ := List.mem_map.mp q
      exact hk e (by simp [he]) q2
    · simp only [List.map_cons, List.mem_cons] at hy
      rcases hy with h | h | h
      · exact n3 x hx y (Or.inl h) q
      · obtain ⟨e, he, q2⟩ := List.mem_map.mp hx
        exact hk e (by simp [he]) (by rw [q2, q, h])
      · exact n3 x hx y (Or.inr (by simpa using h)) q
  · have := i5 z
    rw [Top.app] at this ⊢
    exact this
  · obtain ⟨x, N', h1, h2, h3⟩ := i6
    cases P with
    | nil => simp only [List.nil_append, List.cons.injEq] at h1; exact ⟨x, _, by rw [h1.1]; rfl, h2, by simp⟩
    | cons e P => simp only [List.cons_append, List.cons.injEq] at h1; exact ⟨x, _, by rw [h1.1]; rfl, h2, by simp⟩
  · rw [mem_three, mem_three]
    constructor
    · rintro (h | h | ⟨e, he, h⟩)
      · exact Or.inl (Or.inl h)
      · exact Or.inr h.symm
      · rcases List.mem_cons.mp he with rfl | he
        · exact Or.inl (Or.inr (Or.inl h))
        · exact Or.inl (Or.inr (Or.inr ⟨e, he, h⟩))
    · rintro ((h | h | ⟨e, he, h⟩) | h)
      · exact Or.inl h
      · exact Or.inr (Or.inr ⟨b, by simp, h⟩)
      · exact Or.inr (Or.inr ⟨e, by simp [he], h⟩)
      · exact Or.inr (Or.inl h.symm)
theorem Inv.remove {σ : WHp} {N P R : List Nd} {it : Int32} {a b : Nd} {v : Value} (I : Inv σ N) (C : Cut N it.toInt64 P a b R) (heq : b.2 = it.toInt64) (hv : σ[b.1]? = some (nd b.2 v 0)) :
    ∃ c R', R = c :: R' ∧ v = .ref c.1 ∧ Inv ((σ.set b.1 (nd b.2 v 1)).set a.1 (nd a.2 v 0)) (P ++ a :: R) ∧ ∀ z, memN (P ++ a :: R) z ↔ memN N z ∧ ¬ z = it.toInt64 := by
  obtain ⟨i0, i1, i2, i3, i4, i5, i6⟩ := I
  have hlt := i2.lt
  have e := C.eq
  subst e
  cases R with
  | nil =>
    exfalso
    have h := i5 it
    rw [Top.app] at h
    have h2 : it.toInt64 < b.2 := h
    rw [heq, Int64.lt_iff_toInt_lt] at h2
    omega
  | cons c R =>
  have ha : a.1 < σ.length := hlt a (by simp)
  have hb : b.1 < σ.length := hlt b (by simp)
  rw [Ch.split] at i2
  obtain ⟨c1, c2, c3, c4⟩ := i2
  have ev : v = .ref c.1 := by
    rw [hv] at c3
    simpa using c3
  subst ev
  have i4' := i4
  rw [List.map_append, List.nodup_append] at i4
  obtain ⟨n1, n2, n3⟩ := i4
  simp only [List.map_cons, List.nodup_cons, List.mem_cons, not_or] at n2 n3
  have hout : ∀ e : Nd, e.1 ≠ b.1 → e.1 ≠ a.1 → ((σ.set b.1 (nd b.2 (.ref c.1) 1)).set a.1 (nd a.2 (.ref c.1) 0))[e.1]? = σ[e.1]? := fun e h1 h2 => by
    rw [get_set_ne (fun q => h2 q.symm), get_set_ne (fun q => h1 q.symm)]
  have hPa : ∀ e ∈ P, e.1 ≠ a.1 := fun e he q => n3 e.1 (List.mem_map_of_mem he) a.1 (Or.inl rfl) q
  have hPb : ∀ e ∈ P, e.1 ≠ b.1 := fun e he q => n3 e.1 (List.mem_map_of_mem he) b.1 (Or.inr (Or.inl rfl)) q
  have hRa : ∀ e ∈ c :: R, e.1 ≠ a.1 := fun e he q => by
    rcases List.mem_cons.mp he with rfl | he
    · exact n2.1.2.1 q.symm
    · exact n2.1.2.2 (q ▸ List.mem_map_of_mem he)
  have hRb : ∀ e ∈ c :: R, e.1 ≠ b.1 := fun e he q => by
    rcases List.mem_cons.mp he with rfl | he
    · exact n2.2.1.1 q.symm
    · exact n2.2.1.2 (q ▸ List.mem_map_of_mem he)
  have hab : a.1 ≠ b.1 := n2.1.1
  refine ⟨c, R, rfl, rfl, ⟨by simpa using i0, ?_, ?_, ?_, ?_, fun z => ?_, ?_⟩, fun z => ?_⟩
  · rw [get_set_ne, get_set_ne, i1]
    · intro q; rw [q, i1] at c3; simp at c3
    · intro q; rw [q, i1] at c2; simp at c2
  · rw [Ch.split]
    refine ⟨c1.congr fun e he => hout e (hPb e he) (hPa e he), ?_, c4.congr fun e he => hout e (hRb e he) (hRa e he)⟩
    exact List.getElem?_set_self (by simpa using ha)
  · refine i3.sublist ?_
    simp
  · exact i4'.sublist (List.Sublist.map _ (by simp))
  · have := i5 z
    rw [Top.app] at this ⊢
    exact this
  · obtain ⟨x, N', h1, h2, h3⟩ := i6
    cases P with
    | nil => simp only [List.nil_append, List.cons.injEq] at h1; exact ⟨x, _, by rw [h1.1]; rfl, h2, by simp⟩
    | cons e P => simp only [List.cons_append, List.cons.injEq] at h1; exact ⟨x, _, by rw [h1.1]; rfl, h2, by simp⟩
  · have hb' : ∀ e ∈ P ++ a :: c :: R, ¬ e.2 = it.toInt64 := by
      intro e he q
      rw [List.pairwise_append] at i3
      obtain ⟨p1, p2, p3⟩ := i3
      rw [List.pairwise_cons, List.pairwise_cons] at p2
      obtain ⟨p4, p5, p6⟩ := p2
      have hl := C.lo
      rcases List.mem_append.mp he with h | h
      · have := p3 e h a (by simp)
        simp only [Int64.lt_iff_toInt_lt] at this hl
        rw [q] at this; omega
      · rcases List.mem_cons.mp h with rfl | h
        · simp only [Int64.lt_iff_toInt_lt] at hl; rw [q] at hl; omega
        · have := p5 e h
          rw [heq, q, Int64.lt_iff_toInt_lt] at this; omega
    constructor
    · rintro ⟨e, he, rfl⟩
      refine ⟨⟨e, ?_, rfl⟩, hb' e he⟩
      rcases List.mem_append.mp he with h | h
      · simp [h]
      · rcases List.mem_cons.mp h with rfl | h
        · simp
        · simp [List.mem_cons.mp h]
    · rintro ⟨⟨e, he, rfl⟩, hn⟩
      refine ⟨e, ?_, rfl⟩
      rcases List.mem_append.mp he with h | h
      · simp [h]
      · rcases List.mem_cons.mp h with rfl | h
        · simp
        · rcases List.mem_cons.mp h with rfl | h
          · exact absurd heq hn
          · simp [List.mem_cons.mp h]
end Jvm.Sy
namespace Jvm.Sy
open Jvm Jvm.RoadKit
theorem set_new {σ : WHp} {o o' : WObj} : (σ ++ [o]).set σ.length o' = σ ++ [o'] := by simp
theorem i64_inj {a b : Int32} : a.toInt64 = b.toInt64 ↔ a = b := by
  constructor
  · intro h
    have := congrArg Int64.toInt h
    simpa [Int32.toInt_inj] using this
  · intro h; rw [h]
theorem i64_lo (it : Int32) : (-9223372036854775808 : Int64) < it.toInt64 := by
  have := it.le_toInt
  rw [Int64.lt_iff_toInt_lt, Int32.toInt_toInt64]
  have e : (-9223372036854775808 : Int64).toInt = -9223372036854775808 := rfl
  omega
theorem i64_hi (it : Int32) : it.toInt64 < (9223372036854775807 : Int64) := by
  have := it.toInt_lt
  rw [Int64.lt_iff_toInt_lt, Int32.toInt_toInt64]
  have e : (9223372036854775807 : Int64).toInt = 9223372036854775807 := rfl
  omega
abbrev N0 : List Nd := [(1, -9223372036854775808), (2, 9223372036854775807)]
theorem inv0 : Inv [lset (.ref 1), nd (-9223372036854775808) (.ref 2) 0, nd 9223372036854775807 .null 0] N0 :=
  ⟨by decide, rfl, ⟨rfl, .null, rfl, rfl⟩, by decide, by decide, fun it => i64_hi it, ⟨_, _, rfl, i64_lo, by simp⟩⟩
theorem mem0 (q : Int32) : ¬ memN N0 q.toInt64 := by
  rintro ⟨e, he, h⟩
  simp only [N0, List.mem_cons, List.not_mem_nil, or_false] at he
  rcases he with rfl | rfl
  · have := i64_lo q; rw [← h, Int64.lt_iff_toInt_lt] at this; exact absurd this (Int.lt_irrefl _)
  · have := i64_hi q; rw [← h, Int64.lt_iff_toInt_lt] at this; exact absurd this (Int.lt_irrefl _)
end Jvm.Sy


namespace Jvm.Pilot.@@N@@
open Jvm Jvm.ClassFile Sem Op Lib Jvm.Free Jvm.Stand Jvm.LawKit Jvm.RoadKit Bundle Jvm.Sy Jvm.Pilot.@@N@@.Jvm.D
theorem wd {Z : State} {a0 : Array Value} (hw : ∀ d ∈ tables_1, d.before a0 Z = true) (i : Nat) {d : Jvm.Cond} (h : tables_1[i]? = some d) : d.before a0 Z = true := hw d (List.mem_of_getElem? h)
abbrev lkK : WKey := ("antecede/sets/LazySet$Node", "key", "J")
abbrev lkN : WKey := ("antecede/sets/LazySet$Node", "next", "Lantecede/sets/LazySet$Node;")
abbrev lkM : WKey := ("antecede/sets/LazySet$Node", "marked", "Z")
abbrev lwP : WKey := ("antecede/sets/LazySet$Window", "pred", "Lantecede/sets/LazySet$Node;")
abbrev lwC : WKey := ("antecede/sets/LazySet$Window", "curr", "Lantecede/sets/LazySet$Node;")
abbrev lsH : WKey := ("antecede/sets/LazySet", "head", "Lantecede/sets/LazySet$Node;")
abbrev cn0 : String := "antecede/sets/LazySet"
abbrev cn1 : String := "antecede/sets/LazySet$Node"

abbrev g13 (Z : State) (ρ : Nat → Nat) (n0 : Nat × List Nat) (j0 u0 : Nat) : WMC := ((Z, ρ, n0), ("antecede/sets/LazySet", prog_83_method_4_code, "contains", (some .boolean), 3), (j0, u0, 0, 0, [], 0))
theorem a13_0 : AtI prog_83_method_4_code 0 (.aload_n 0) 1 1 := ⟨by decide +kernel, rfl⟩
theorem a13_1 : AtI prog_83_method_4_code 1 (.getfield 18) 3 4 := ⟨by decide +kernel, rfl⟩
theorem a13_4 : AtI prog_83_method_4_code 4 (.astore_n 2) 1 5 := ⟨by decide +kernel, rfl⟩
theorem a13_5 : AtI prog_83_method_4_code 5 (.aload_n 2) 1 6 := ⟨by decide +kernel, rfl⟩
theorem a13_6 : AtI prog_83_method_4_code 6 (.getfield 41) 3 9 := ⟨by decide +kernel, rfl⟩
theorem a13_9 : AtI prog_83_method_4_code 9 (.iload_n 1) 1 10 := ⟨by decide +kernel, rfl⟩
theorem a13_10 : AtI prog_83_method_4_code 10 (.i2l) 1 11 := ⟨by decide +kernel, rfl⟩
theorem a13_11 : AtI prog_83_method_4_code 11 (.lcmp) 1 12 := ⟨by decide +kernel, rfl⟩
theorem a13_12 : AtJ prog_83_method_4_code 12 (.ifCond .ge) 15 23 := ⟨11, by decide +kernel, rfl, by decide, rfl⟩
theorem a13_15 : AtI prog_83_method_4_code 15 (.aload_n 2) 1 16 := ⟨by decide +kernel, rfl⟩
theorem a13_16 : AtI prog_83_method_4_code 16 (.getfield 45) 3 19 := ⟨by decide +kernel, rfl⟩
theorem a13_19 : AtI prog_83_method_4_code 19 (.astore_n 2) 1 20 := ⟨by decide +kernel, rfl⟩
theorem a13_20 : AtJ prog_83_method_4_code 20 (.goto) 23 5 := ⟨(-15), by decide +kernel, rfl, by decide, rfl⟩
theorem a13_23 : AtI prog_83_method_4_code 23 (.aload_n 2) 1 24 := ⟨by decide +kernel, rfl⟩
theorem a13_24 : AtI prog_83_method_4_code 24 (.getfield 41) 3 27 := ⟨by decide +kernel, rfl⟩
theorem a13_27 : AtI prog_83_method_4_code 27 (.iload_n 1) 1 28 := ⟨by decide +kernel, rfl⟩
theorem a13_28 : AtI prog_83_method_4_code 28 (.i2l) 1 29 := ⟨by decide +kernel, rfl⟩
theorem a13_29 : AtI prog_83_method_4_code 29 (.lcmp) 1 30 := ⟨by decide +kernel, rfl⟩
theorem a13_30 : AtJ prog_83_method_4_code 30 (.ifCond .ne) 33 44 := ⟨14, by decide +kernel, rfl, by decide, rfl⟩
theorem a13_33 : AtI prog_83_method_4_code 33 (.aload_n 2) 1 34 := ⟨by decide +kernel, rfl⟩
theorem a13_34 : AtI prog_83_method_4_code 34 (.getfield 48) 3 37 := ⟨by decide +kernel, rfl⟩
theorem a13_37 : AtJ prog_83_method_4_code 37 (.ifCond .ne) 40 44 := ⟨7, by decide +kernel, rfl, by decide, rfl⟩
theorem a13_40 : AtI prog_83_method_4_code 40 (.iconst 1) 1 41 := ⟨by decide +kernel, rfl⟩
theorem a13_41 : AtJ prog_83_method_4_code 41 (.goto) 44 45 := ⟨4, by decide +kernel, rfl, by decide, rfl⟩
theorem a13_44 : AtI prog_83_method_4_code 44 (.iconst 0) 1 45 := ⟨by decide +kernel, rfl⟩
theorem a13_45 : AtI prog_83_method_4_code 45 (.ireturn) 1 46 := ⟨by decide +kernel, rfl⟩
theorem pd13 : parseMethodDescriptor "(I)Z" = some ⟨[.int], some .boolean⟩ := by decide +kernel
theorem pl13 : plainFor (⟨"antecede/sets/LazySet", "contains", "(I)Z"⟩ : MethodName) = true := plainFor_of_name (by first | (simp [plainName, overriddenIn]; done) | decide +kernel)
theorem ok13 {Z : State} {a0 : Array Value} (hw : ∀ d ∈ tables_1, d.before a0 Z = true) (ρ : Nat → Nat) (n0 : Nat × List Nat) (j0 u0 : Nat) : WCallee Z a0 (⟨"antecede/sets/LazySet", "contains", "(I)Z"⟩ : MethodName) (g13 Z ρ n0 j0 u0) 1 :=
  ⟨pl13, (by decide), rfl, rfl, ⟨rfl, rfl⟩, (wd hw 7 rfl), (wd hw 80 rfl), fun sig h => by cases pd13.symm.trans h; rfl⟩
abbrev g12 (Z : State) (ρ : Nat → Nat) (n0 : Nat × List Nat) (j0 u0 : Nat) : WMC := ((Z, ρ, n0), ("antecede/sets/LazySet", prog_83_method_3_code, "remove", (some .boolean), 10), (j0, u0, 4, 62, [], 0))
theorem a12_0 : AtI prog_83_method_3_code 0 (.aload_n 0) 1 1 := ⟨by decide +kernel, rfl⟩
theorem a12_1 : AtI prog_83_method_3_code 1 (.iload_n 1) 1 2 := ⟨by decide +kernel, rfl⟩
theorem a12_2 : AtI prog_83_method_3_code 2 (.invokevirtual 24) 3 5 := ⟨by decide +kernel, rfl⟩
theorem a12_5 : AtI prog_83_method_3_code 5 (.astore_n 2) 1 6 := ⟨by decide +kernel, rfl⟩
theorem a12_6 : AtI prog_83_method_3_code 6 (.aload_n 2) 1 7 := ⟨by decide +kernel, rfl⟩
theorem a12_7 : AtI prog_83_method_3_code 7 (.invokevirtual 28) 3 10 := ⟨by decide +kernel, rfl⟩
theorem a12_10 : AtI prog_83_method_3_code 10 (.astore_n 3) 1 11 := ⟨by decide +kernel, rfl⟩
theorem a12_11 : AtI prog_83_method_3_code 11 (.aload_n 2) 1 12 := ⟨by decide +kernel, rfl⟩
theorem a12_12 : AtI prog_83_method_3_code 12 (.invokevirtual 34) 3 15 := ⟨by decide +kernel, rfl⟩
theorem a12_15 : AtI prog_83_method_3_code 15 (.astore 4) 2 17 := ⟨by decide +kernel, rfl⟩
theorem a12_17 : AtI prog_83_method_3_code 17 (.aload_n 3) 1 18 := ⟨by decide +kernel, rfl⟩
theorem a12_18 : AtI prog_83_method_3_code 18 (.dup) 1 19 := ⟨by decide +kernel, rfl⟩
theorem a12_19 : AtI prog_83_method_3_code 19 (.astore 5) 2 21 := ⟨by decide +kernel, rfl⟩
theorem a12_21 : AtI prog_83_method_3_code 21 (.monitorenter) 1 22 := ⟨by decide +kernel, rfl⟩
theorem a12_22 : AtI prog_83_method_3_code 22 (.aload 4) 2 24 := ⟨by decide +kernel, rfl⟩
theorem a12_24 : AtI prog_83_method_3_code 24 (.dup) 1 25 := ⟨by decide +kernel, rfl⟩
theorem a12_25 : AtI prog_83_method_3_code 25 (.astore 6) 2 27 := ⟨by decide +kernel, rfl⟩
theorem a12_27 : AtI prog_83_method_3_code 27 (.monitorenter) 1 28 := ⟨by decide +kernel, rfl⟩
theorem a12_28 : AtI prog_83_method_3_code 28 (.aload_n 3) 1 29 := ⟨by decide +kernel, rfl⟩
theorem a12_29 : AtI prog_83_method_3_code 29 (.aload 4) 2 31 := ⟨by decide +kernel, rfl⟩
theorem a12_31 : AtI prog_83_method_3_code 31 (.invokestatic 37) 3 34 := ⟨by decide +kernel, rfl⟩
theorem a12_34 : AtJ prog_83_method_3_code 34 (.ifCond .eq) 37 84 := ⟨50, by decide +kernel, rfl, by decide, rfl⟩
theorem a12_37 : AtI prog_83_method_3_code 37 (.aload 4) 2 39 := ⟨by decide +kernel, rfl⟩
theorem a12_39 : AtI prog_83_method_3_code 39 (.getfield 41) 3 42 := ⟨by decide +kernel, rfl⟩
theorem a12_42 : AtI prog_83_method_3_code 42 (.iload_n 1) 1 43 := ⟨by decide +kernel, rfl⟩
theorem a12_43 : AtI prog_83_method_3_code 43 (.i2l) 1 44 := ⟨by decide +kernel, rfl⟩
theorem a12_44 : AtI prog_83_method_3_code 44 (.lcmp) 1 45 := ⟨by decide +kernel, rfl⟩
theorem a12_45 : AtJ prog_83_method_3_code 45 (.ifCond .ne) 48 52 := ⟨7, by decide +kernel, rfl, by decide, rfl⟩
theorem a12_48 : AtI prog_83_method_3_code 48 (.iconst 1) 1 49 := ⟨by decide +kernel, rfl⟩
theorem a12_49 : AtJ prog_83_method_3_code 49 (.goto) 52 53 := ⟨4, by decide +kernel, rfl, by decide, rfl⟩
theorem a12_52 : AtI prog_83_method_3_code 52 (.iconst 0) 1 53 := ⟨by decide +kernel, rfl⟩
theorem a12_53 : AtI prog_83_method_3_code 53 (.istore 7) 2 55 := ⟨by decide +kernel, rfl⟩
theorem a12_55 : AtI prog_83_method_3_code 55 (.iload 7) 2 57 := ⟨by decide +kernel, rfl⟩
theorem a12_57 : AtJ prog_83_method_3_code 57 (.ifCond .eq) 60 75 := ⟨18, by decide +kernel, rfl, by decide, rfl⟩
theorem a12_60 : AtI prog_83_method_3_code 60 (.aload 4) 2 62 := ⟨by decide +kernel, rfl⟩
theorem a12_62 : AtI prog_83_method_3_code 62 (.iconst 1) 1 63 := ⟨by decide +kernel, rfl⟩
theorem a12_63 : AtI prog_83_method_3_code 63 (.putfield 48) 3 66 := ⟨by decide +kernel, rfl⟩
theorem a12_66 : AtI prog_83_method_3_code 66 (.aload_n 3) 1 67 := ⟨by decide +kernel, rfl⟩
theorem a12_67 : AtI prog_83_method_3_code 67 (.aload 4) 2 69 := ⟨by decide +kernel, rfl⟩
theorem a12_69 : AtI prog_83_method_3_code 69 (.getfield 45) 3 72 := ⟨by decide +kernel, rfl⟩
theorem a12_72 : AtI prog_83_method_3_code 72 (.putfield 45) 3 75 := ⟨by decide +kernel, rfl⟩
theorem a12_75 : AtI prog_83_method_3_code 75 (.iload 7) 2 77 := ⟨by decide +kernel, rfl⟩
theorem a12_77 : AtI prog_83_method_3_code 77 (.aload 6) 2 79 := ⟨by decide +kernel, rfl⟩
theorem a12_79 : AtI prog_83_method_3_code 79 (.monitorexit) 1 80 := ⟨by decide +kernel, rfl⟩
theorem a12_80 : AtI prog_83_method_3_code 80 (.aload 5) 2 82 := ⟨by decide +kernel, rfl⟩
theorem a12_82 : AtI prog_83_method_3_code 82 (.monitorexit) 1 83 := ⟨by decide +kernel, rfl⟩
theorem a12_83 : AtI prog_83_method_3_code 83 (.ireturn) 1 84 := ⟨by decide +kernel, rfl⟩
theorem a12_84 : AtI prog_83_method_3_code 84 (.aload 6) 2 86 := ⟨by decide +kernel, rfl⟩
theorem a12_86 : AtI prog_83_method_3_code 86 (.monitorexit) 1 87 := ⟨by decide +kernel, rfl⟩
theorem a12_87 : AtJ prog_83_method_3_code 87 (.goto) 90 98 := ⟨11, by decide +kernel, rfl, by decide, rfl⟩
theorem a12_98 : AtI prog_83_method_3_code 98 (.aload 5) 2 100 := ⟨by decide +kernel, rfl⟩
theorem a12_100 : AtI prog_83_method_3_code 100 (.monitorexit) 1 101 := ⟨by decide +kernel, rfl⟩
theorem a12_101 : AtJ prog_83_method_3_code 101 (.goto) 104 112 := ⟨11, by decide +kernel, rfl, by decide, rfl⟩
theorem a12_112 : AtJ prog_83_method_3_code 112 (.goto) 115 0 := ⟨(-112), by decide +kernel, rfl, by decide, rfl⟩
theorem pd12 : parseMethodDescriptor "(I)Z" = some ⟨[.int], some .boolean⟩ := by decide +kernel
theorem pl12 : plainFor (⟨"antecede/sets/LazySet", "remove", "(I)Z"⟩ : MethodName) = true := plainFor_of_name (by first | (simp [plainName, overriddenIn]; done) | decide +kernel)
theorem ok12 {Z : State} {a0 : Array Value} (hw : ∀ d ∈ tables_1, d.before a0 Z = true) (ρ : Nat → Nat) (n0 : Nat × List Nat) (j0 u0 : Nat) : WCalleeW Z a0 (⟨"antecede/sets/LazySet", "remove", "(I)Z"⟩ : MethodName) (g12 Z ρ n0 j0 u0) [((28 : Nat), (80 : Nat), (90 : Nat), (0 : Nat)), ((84 : Nat), (87 : Nat), (90 : Nat), (0 : Nat)), ((90 : Nat), (95 : Nat), (90 : Nat), (0 : Nat)), ((22 : Nat), (83 : Nat), (104 : Nat), (0 : Nat)), ((84 : Nat), (101 : Nat), (104 : Nat), (0 : Nat)), ((104 : Nat), (109 : Nat), (104 : Nat), (0 : Nat))] 1 :=
  ⟨pl12, (by decide), rfl, rfl, ⟨rfl, rfl⟩, (wd hw 7 rfl), (wd hw 75 rfl), fun sig h => by cases pd12.symm.trans h; rfl⟩
abbrev g11 (Z : State) (ρ : Nat → Nat) (n0 : Nat × List Nat) (j0 u0 : Nat) : WMC := ((Z, ρ, n0), ("antecede/sets/LazySet", prog_83_method_6_code, "unchanged", (some .boolean), 2), (j0, u0, 0, 0, [], 0))
theorem a11_0 : AtI prog_83_method_6_code 0 (.aload_n 0) 1 1 := ⟨by decide +kernel, rfl⟩
theorem a11_1 : AtI prog_83_method_6_code 1 (.getfield 48) 3 4 := ⟨by decide +kernel, rfl⟩
theorem a11_4 : AtJ prog_83_method_6_code 4 (.ifCond .ne) 7 26 := ⟨22, by decide +kernel, rfl, by decide, rfl⟩
theorem a11_7 : AtI prog_83_method_6_code 7 (.aload_n 1) 1 8 := ⟨by decide +kernel, rfl⟩
theorem a11_8 : AtI prog_83_method_6_code 8 (.getfield 48) 3 11 := ⟨by decide +kernel, rfl⟩
theorem a11_11 : AtJ prog_83_method_6_code 11 (.ifCond .ne) 14 26 := ⟨15, by decide +kernel, rfl, by decide, rfl⟩
theorem a11_14 : AtI prog_83_method_6_code 14 (.aload_n 0) 1 15 := ⟨by decide +kernel, rfl⟩
theorem a11_15 : AtI prog_83_method_6_code 15 (.getfield 45) 3 18 := ⟨by decide +kernel, rfl⟩
theorem a11_18 : AtI prog_83_method_6_code 18 (.aload_n 1) 1 19 := ⟨by decide +kernel, rfl⟩
theorem a11_19 : AtJ prog_83_method_6_code 19 (.if_acmp .ne) 22 26 := ⟨7, by decide +kernel, rfl, by decide, rfl⟩
theorem a11_22 : AtI prog_83_method_6_code 22 (.iconst 1) 1 23 := ⟨by decide +kernel, rfl⟩
theorem a11_23 : AtJ prog_83_method_6_code 23 (.goto) 26 27 := ⟨4, by decide +kernel, rfl, by decide, rfl⟩
theorem a11_26 : AtI prog_83_method_6_code 26 (.iconst 0) 1 27 := ⟨by decide +kernel, rfl⟩
theorem a11_27 : AtI prog_83_method_6_code 27 (.ireturn) 1 28 := ⟨by decide +kernel, rfl⟩
theorem pd11 : parseMethodDescriptor "(Lantecede/sets/LazySet$Node;Lantecede/sets/LazySet$Node;)Z" = some ⟨[(.object "antecede/sets/LazySet$Node"), (.object "antecede/sets/LazySet$Node")], some .boolean⟩ := by decide +kernel
theorem pl11 : plainFor (⟨"antecede/sets/LazySet", "unchanged", "(Lantecede/sets/LazySet$Node;Lantecede/sets/LazySet$Node;)Z"⟩ : MethodName) = true := plainFor_of_name (by first | (simp [plainName, overriddenIn]; done) | decide +kernel)
theorem ok11 {Z : State} {a0 : Array Value} (hw : ∀ d ∈ tables_1, d.before a0 Z = true) (ρ : Nat → Nat) (n0 : Nat × List Nat) (j0 u0 : Nat) : WCallee Z a0 (⟨"antecede/sets/LazySet", "unchanged", "(Lantecede/sets/LazySet$Node;Lantecede/sets/LazySet$Node;)Z"⟩ : MethodName) (g11 Z ρ n0 j0 u0) 2 :=
  ⟨pl11, (by decide), rfl, rfl, ⟨rfl, rfl⟩, (wd hw 7 rfl), (wd hw 68 rfl), fun sig h => by cases pd11.symm.trans h; rfl⟩
abbrev g10 (Z : State) (ρ : Nat → Nat) (n0 : Nat × List Nat) (j0 u0 : Nat) : WMC := ((Z, ρ, n0), ("antecede/sets/LazySet$Window", prog_85_method_6_code, "curr", (some (.object "antecede/sets/LazySet$Node")), 1), (j0, u0, 0, 0, [], 0))
theorem a10_0 : AtI prog_85_method_6_code 0 (.aload_n 0) 1 1 := ⟨by decide +kernel, rfl⟩
theorem a10_1 : AtI prog_85_method_6_code 1 (.getfield 13) 3 4 := ⟨by decide +kernel, rfl⟩
theorem a10_4 : AtI prog_85_method_6_code 4 (.areturn) 1 5 := ⟨by decide +kernel, rfl⟩
theorem pd10 : parseMethodDescriptor "()Lantecede/sets/LazySet$Node;" = some ⟨[], some (.object "antecede/sets/LazySet$Node")⟩ := by decide +kernel
theorem pl10 : plainFor (⟨"antecede/sets/LazySet$Window", "curr", "()Lantecede/sets/LazySet$Node;"⟩ : MethodName) = true := plainFor_of_name (by first | (simp [plainName, overriddenIn]; done) | decide +kernel)
theorem ok10 {Z : State} {a0 : Array Value} (hw : ∀ d ∈ tables_1, d.before a0 Z = true) (ρ : Nat → Nat) (n0 : Nat × List Nat) (j0 u0 : Nat) : WCallee Z a0 (⟨"antecede/sets/LazySet$Window", "curr", "()Lantecede/sets/LazySet$Node;"⟩ : MethodName) (g10 Z ρ n0 j0 u0) 0 :=
  ⟨pl10, (by decide), rfl, rfl, ⟨rfl, rfl⟩, (wd hw 42 rfl), (wd hw 65 rfl), fun sig h => by cases pd10.symm.trans h; rfl⟩
abbrev g9 (Z : State) (ρ : Nat → Nat) (n0 : Nat × List Nat) (j0 u0 : Nat) : WMC := ((Z, ρ, n0), ("antecede/sets/LazySet$Window", prog_85_method_5_code, "pred", (some (.object "antecede/sets/LazySet$Node")), 1), (j0, u0, 0, 0, [], 0))
theorem a9_0 : AtI prog_85_method_5_code 0 (.aload_n 0) 1 1 := ⟨by decide +kernel, rfl⟩
theorem a9_1 : AtI prog_85_method_5_code 1 (.getfield 7) 3 4 := ⟨by decide +kernel, rfl⟩
theorem a9_4 : AtI prog_85_method_5_code 4 (.areturn) 1 5 := ⟨by decide +kernel, rfl⟩
theorem pd9 : parseMethodDescriptor "()Lantecede/sets/LazySet$Node;" = some ⟨[], some (.object "antecede/sets/LazySet$Node")⟩ := by decide +kernel
theorem pl9 : plainFor (⟨"antecede/sets/LazySet$Window", "pred", "()Lantecede/sets/LazySet$Node;"⟩ : MethodName) = true := plainFor_of_name (by first | (simp [plainName, overriddenIn]; done) | decide +kernel)
theorem ok9 {Z : State} {a0 : Array Value} (hw : ∀ d ∈ tables_1, d.before a0 Z = true) (ρ : Nat → Nat) (n0 : Nat × List Nat) (j0 u0 : Nat) : WCallee Z a0 (⟨"antecede/sets/LazySet$Window", "pred", "()Lantecede/sets/LazySet$Node;"⟩ : MethodName) (g9 Z ρ n0 j0 u0) 0 :=
  ⟨pl9, (by decide), rfl, rfl, ⟨rfl, rfl⟩, (wd hw 42 rfl), (wd hw 60 rfl), fun sig h => by cases pd9.symm.trans h; rfl⟩
abbrev g8 (Z : State) (ρ : Nat → Nat) (n0 : Nat × List Nat) (j0 u0 : Nat) : WMC := ((Z, ρ, n0), ("java/lang/Record", jdk_30_method_1_code, "<init>", none, 1), (j0, u0, 1, 12, [], 0))
theorem a8_0 : AtI jdk_30_method_1_code 0 (.aload_n 0) 1 1 := ⟨by decide +kernel, rfl⟩
theorem a8_1 : AtI jdk_30_method_1_code 1 (.invokespecial 1) 3 4 := ⟨by decide +kernel, rfl⟩
theorem a8_4 : AtI jdk_30_method_1_code 4 (.return_) 1 5 := ⟨by decide +kernel, rfl⟩
theorem pd8 : parseMethodDescriptor "()V" = some ⟨[], none⟩ := by decide +kernel
theorem pl8 : plainFor (⟨"java/lang/Record", "<init>", "()V"⟩ : MethodName) = true := plainFor_of_name (by first | (simp [plainName, overriddenIn]; done) | decide +kernel)
theorem ok8 {Z : State} {a0 : Array Value} (hw : ∀ d ∈ tables_1, d.before a0 Z = true) (ρ : Nat → Nat) (n0 : Nat × List Nat) (j0 u0 : Nat) : WCallee Z a0 (⟨"java/lang/Record", "<init>", "()V"⟩ : MethodName) (g8 Z ρ n0 j0 u0) 0 :=
  ⟨pl8, (by decide), rfl, rfl, ⟨rfl, rfl⟩, (wd hw 49 rfl), (wd hw 50 rfl), fun sig h => by cases pd8.symm.trans h; rfl⟩
abbrev g7 (Z : State) (ρ : Nat → Nat) (n0 : Nat × List Nat) (j0 u0 : Nat) : WMC := ((Z, ρ, n0), ("antecede/sets/LazySet$Window", prog_85_method_1_code, "<init>", none, 3), (j0, u0, 2, 24, [], 0))
theorem a7_0 : AtI prog_85_method_1_code 0 (.aload_n 0) 1 1 := ⟨by decide +kernel, rfl⟩
theorem a7_1 : AtI prog_85_method_1_code 1 (.invokespecial 1) 3 4 := ⟨by decide +kernel, rfl⟩
theorem a7_4 : AtI prog_85_method_1_code 4 (.aload_n 0) 1 5 := ⟨by decide +kernel, rfl⟩
theorem a7_5 : AtI prog_85_method_1_code 5 (.aload_n 1) 1 6 := ⟨by decide +kernel, rfl⟩
theorem a7_6 : AtI prog_85_method_1_code 6 (.putfield 7) 3 9 := ⟨by decide +kernel, rfl⟩
theorem a7_9 : AtI prog_85_method_1_code 9 (.aload_n 0) 1 10 := ⟨by decide +kernel, rfl⟩
theorem a7_10 : AtI prog_85_method_1_code 10 (.aload_n 2) 1 11 := ⟨by decide +kernel, rfl⟩
theorem a7_11 : AtI prog_85_method_1_code 11 (.putfield 13) 3 14 := ⟨by decide +kernel, rfl⟩
theorem a7_14 : AtI prog_85_method_1_code 14 (.return_) 1 15 := ⟨by decide +kernel, rfl⟩
theorem pd7 : parseMethodDescriptor "(Lantecede/sets/LazySet$Node;Lantecede/sets/LazySet$Node;)V" = some ⟨[(.object "antecede/sets/LazySet$Node"), (.object "antecede/sets/LazySet$Node")], none⟩ := by decide +kernel
theorem pl7 : plainFor (⟨"antecede/sets/LazySet$Window", "<init>", "(Lantecede/sets/LazySet$Node;Lantecede/sets/LazySet$Node;)V"⟩ : MethodName) = true := plainFor_of_name (by first | (simp [plainName, overriddenIn]; done) | decide +kernel)
theorem ok7 {Z : State} {a0 : Array Value} (hw : ∀ d ∈ tables_1, d.before a0 Z = true) (ρ : Nat → Nat) (n0 : Nat × List Nat) (j0 u0 : Nat) : WCallee Z a0 (⟨"antecede/sets/LazySet$Window", "<init>", "(Lantecede/sets/LazySet$Node;Lantecede/sets/LazySet$Node;)V"⟩ : MethodName) (g7 Z ρ n0 j0 u0) 2 :=
  ⟨pl7, (by decide), rfl, rfl, ⟨rfl, rfl⟩, (wd hw 42 rfl), (wd hw 45 rfl), fun sig h => by cases pd7.symm.trans h; rfl⟩
abbrev g6 (Z : State) (ρ : Nat → Nat) (n0 : Nat × List Nat) (j0 u0 : Nat) : WMC := ((Z, ρ, n0), ("antecede/sets/LazySet", prog_83_method_5_code, "walk", (some (.object "antecede/sets/LazySet$Window")), 4), (j0, u0, 3, 39, [], 0))
theorem a6_0 : AtI prog_83_method_5_code 0 (.aload_n 0) 1 1 := ⟨by decide +kernel, rfl⟩
theorem a6_1 : AtI prog_83_method_5_code 1 (.getfield 18) 3 4 := ⟨by decide +kernel, rfl⟩
theorem a6_4 : AtI prog_83_method_5_code 4 (.astore_n 2) 1 5 := ⟨by decide +kernel, rfl⟩
theorem a6_5 : AtI prog_83_method_5_code 5 (.aload_n 0) 1 6 := ⟨by decide +kernel, rfl⟩
theorem a6_6 : AtI prog_83_method_5_code 6 (.getfield 18) 3 9 := ⟨by decide +kernel, rfl⟩
theorem a6_9 : AtI prog_83_method_5_code 9 (.getfield 45) 3 12 := ⟨by decide +kernel, rfl⟩
theorem a6_12 : AtI prog_83_method_5_code 12 (.astore_n 3) 1 13 := ⟨by decide +kernel, rfl⟩
theorem a6_13 : AtI prog_83_method_5_code 13 (.aload_n 3) 1 14 := ⟨by decide +kernel, rfl⟩
theorem a6_14 : AtI prog_83_method_5_code 14 (.getfield 41) 3 17 := ⟨by decide +kernel, rfl⟩
theorem a6_17 : AtI prog_83_method_5_code 17 (.iload_n 1) 1 18 := ⟨by decide +kernel, rfl⟩
theorem a6_18 : AtI prog_83_method_5_code 18 (.i2l) 1 19 := ⟨by decide +kernel, rfl⟩
theorem a6_19 : AtI prog_83_method_5_code 19 (.lcmp) 1 20 := ⟨by decide +kernel, rfl⟩
theorem a6_20 : AtJ prog_83_method_5_code 20 (.ifCond .ge) 23 33 := ⟨13, by decide +kernel, rfl, by decide, rfl⟩
theorem a6_23 : AtI prog_83_method_5_code 23 (.aload_n 3) 1 24 := ⟨by decide +kernel, rfl⟩
theorem a6_24 : AtI prog_83_method_5_code 24 (.astore_n 2) 1 25 := ⟨by decide +kernel, rfl⟩
theorem a6_25 : AtI prog_83_method_5_code 25 (.aload_n 3) 1 26 := ⟨by decide +kernel, rfl⟩
theorem a6_26 : AtI prog_83_method_5_code 26 (.getfield 45) 3 29 := ⟨by decide +kernel, rfl⟩
theorem a6_29 : AtI prog_83_method_5_code 29 (.astore_n 3) 1 30 := ⟨by decide +kernel, rfl⟩
theorem a6_30 : AtJ prog_83_method_5_code 30 (.goto) 33 13 := ⟨(-17), by decide +kernel, rfl, by decide, rfl⟩
theorem a6_33 : AtI prog_83_method_5_code 33 (.new 29) 3 36 := ⟨by decide +kernel, rfl⟩
theorem a6_36 : AtI prog_83_method_5_code 36 (.dup) 1 37 := ⟨by decide +kernel, rfl⟩
theorem a6_37 : AtI prog_83_method_5_code 37 (.aload_n 2) 1 38 := ⟨by decide +kernel, rfl⟩
theorem a6_38 : AtI prog_83_method_5_code 38 (.aload_n 3) 1 39 := ⟨by decide +kernel, rfl⟩
theorem a6_39 : AtI prog_83_method_5_code 39 (.invokespecial 52) 3 42 := ⟨by decide +kernel, rfl⟩
theorem a6_42 : AtI prog_83_method_5_code 42 (.areturn) 1 43 := ⟨by decide +kernel, rfl⟩
theorem pd6 : parseMethodDescriptor "(I)Lantecede/sets/LazySet$Window;" = some ⟨[.int], some (.object "antecede/sets/LazySet$Window")⟩ := by decide +kernel
theorem pl6 : plainFor (⟨"antecede/sets/LazySet", "walk", "(I)Lantecede/sets/LazySet$Window;"⟩ : MethodName) = true := plainFor_of_name (by first | (simp [plainName, overriddenIn]; done) | decide +kernel)
theorem ok6 {Z : State} {a0 : Array Value} (hw : ∀ d ∈ tables_1, d.before a0 Z = true) (ρ : Nat → Nat) (n0 : Nat × List Nat) (j0 u0 : Nat) : WCallee Z a0 (⟨"antecede/sets/LazySet", "walk", "(I)Lantecede/sets/LazySet$Window;"⟩ : MethodName) (g6 Z ρ n0 j0 u0) 1 :=
  ⟨pl6, (by decide), rfl, rfl, ⟨rfl, rfl⟩, (wd hw 7 rfl), (wd hw 37 rfl), fun sig h => by cases pd6.symm.trans h; rfl⟩
abbrev g5 (Z : State) (ρ : Nat → Nat) (n0 : Nat × List Nat) (j0 u0 : Nat) : WMC := ((Z, ρ, n0), ("antecede/sets/LazySet", prog_83_method_2_code, "add", (some .boolean), 10), (j0, u0, 4, 62, [], 0))
theorem a5_0 : AtI prog_83_method_2_code 0 (.aload_n 0) 1 1 := ⟨by decide +kernel, rfl⟩
theorem a5_1 : AtI prog_83_method_2_code 1 (.iload_n 1) 1 2 := ⟨by decide +kernel, rfl⟩
theorem a5_2 : AtI prog_83_method_2_code 2 (.invokevirtual 24) 3 5 := ⟨by decide +kernel, rfl⟩
theorem a5_5 : AtI prog_83_method_2_code 5 (.astore_n 2) 1 6 := ⟨by decide +kernel, rfl⟩
theorem a5_6 : AtI prog_83_method_2_code 6 (.aload_n 2) 1 7 := ⟨by decide +kernel, rfl⟩
theorem a5_7 : AtI prog_83_method_2_code 7 (.invokevirtual 28) 3 10 := ⟨by decide +kernel, rfl⟩
theorem a5_10 : AtI prog_83_method_2_code 10 (.astore_n 3) 1 11 := ⟨by decide +kernel, rfl⟩
theorem a5_11 : AtI prog_83_method_2_code 11 (.aload_n 2) 1 12 := ⟨by decide +kernel, rfl⟩
theorem a5_12 : AtI prog_83_method_2_code 12 (.invokevirtual 34) 3 15 := ⟨by decide +kernel, rfl⟩
theorem a5_15 : AtI prog_83_method_2_code 15 (.astore 4) 2 17 := ⟨by decide +kernel, rfl⟩
theorem a5_17 : AtI prog_83_method_2_code 17 (.aload_n 3) 1 18 := ⟨by decide +kernel, rfl⟩
theorem a5_18 : AtI prog_83_method_2_code 18 (.dup) 1 19 := ⟨by decide +kernel, rfl⟩
theorem a5_19 : AtI prog_83_method_2_code 19 (.astore 5) 2 21 := ⟨by decide +kernel, rfl⟩
theorem a5_21 : AtI prog_83_method_2_code 21 (.monitorenter) 1 22 := ⟨by decide +kernel, rfl⟩
theorem a5_22 : AtI prog_83_method_2_code 22 (.aload 4) 2 24 := ⟨by decide +kernel, rfl⟩
theorem a5_24 : AtI prog_83_method_2_code 24 (.dup) 1 25 := ⟨by decide +kernel, rfl⟩
theorem a5_25 : AtI prog_83_method_2_code 25 (.astore 6) 2 27 := ⟨by decide +kernel, rfl⟩
theorem a5_27 : AtI prog_83_method_2_code 27 (.monitorenter) 1 28 := ⟨by decide +kernel, rfl⟩
theorem a5_28 : AtI prog_83_method_2_code 28 (.aload_n 3) 1 29 := ⟨by decide +kernel, rfl⟩
theorem a5_29 : AtI prog_83_method_2_code 29 (.aload 4) 2 31 := ⟨by decide +kernel, rfl⟩
theorem a5_31 : AtI prog_83_method_2_code 31 (.invokestatic 37) 3 34 := ⟨by decide +kernel, rfl⟩
theorem a5_34 : AtJ prog_83_method_2_code 34 (.ifCond .eq) 37 84 := ⟨50, by decide +kernel, rfl, by decide, rfl⟩
theorem a5_37 : AtI prog_83_method_2_code 37 (.aload 4) 2 39 := ⟨by decide +kernel, rfl⟩
theorem a5_39 : AtI prog_83_method_2_code 39 (.getfield 41) 3 42 := ⟨by decide +kernel, rfl⟩
theorem a5_42 : AtI prog_83_method_2_code 42 (.iload_n 1) 1 43 := ⟨by decide +kernel, rfl⟩
theorem a5_43 : AtI prog_83_method_2_code 43 (.i2l) 1 44 := ⟨by decide +kernel, rfl⟩
theorem a5_44 : AtI prog_83_method_2_code 44 (.lcmp) 1 45 := ⟨by decide +kernel, rfl⟩
theorem a5_45 : AtJ prog_83_method_2_code 45 (.ifCond .eq) 48 52 := ⟨7, by decide +kernel, rfl, by decide, rfl⟩
theorem a5_48 : AtI prog_83_method_2_code 48 (.iconst 1) 1 49 := ⟨by decide +kernel, rfl⟩
theorem a5_49 : AtJ prog_83_method_2_code 49 (.goto) 52 53 := ⟨4, by decide +kernel, rfl, by decide, rfl⟩
theorem a5_52 : AtI prog_83_method_2_code 52 (.iconst 0) 1 53 := ⟨by decide +kernel, rfl⟩
theorem a5_53 : AtI prog_83_method_2_code 53 (.istore 7) 2 55 := ⟨by decide +kernel, rfl⟩
theorem a5_55 : AtI prog_83_method_2_code 55 (.iload 7) 2 57 := ⟨by decide +kernel, rfl⟩
theorem a5_57 : AtJ prog_83_method_2_code 57 (.ifCond .eq) 60 75 := ⟨18, by decide +kernel, rfl, by decide, rfl⟩
theorem a5_60 : AtI prog_83_method_2_code 60 (.aload_n 3) 1 61 := ⟨by decide +kernel, rfl⟩
theorem a5_61 : AtI prog_83_method_2_code 61 (.new 7) 3 64 := ⟨by decide +kernel, rfl⟩
theorem a5_64 : AtI prog_83_method_2_code 64 (.dup) 1 65 := ⟨by decide +kernel, rfl⟩
theorem a5_65 : AtI prog_83_method_2_code 65 (.iload_n 1) 1 66 := ⟨by decide +kernel, rfl⟩
theorem a5_66 : AtI prog_83_method_2_code 66 (.i2l) 1 67 := ⟨by decide +kernel, rfl⟩
theorem a5_67 : AtI prog_83_method_2_code 67 (.aload 4) 2 69 := ⟨by decide +kernel, rfl⟩
theorem a5_69 : AtI prog_83_method_2_code 69 (.invokespecial 15) 3 72 := ⟨by decide +kernel, rfl⟩
theorem a5_72 : AtI prog_83_method_2_code 72 (.putfield 45) 3 75 := ⟨by decide +kernel, rfl⟩
theorem a5_75 : AtI prog_83_method_2_code 75 (.iload 7) 2 77 := ⟨by decide +kernel, rfl⟩
theorem a5_77 : AtI prog_83_method_2_code 77 (.aload 6) 2 79 := ⟨by decide +kernel, rfl⟩
theorem a5_79 : AtI prog_83_method_2_code 79 (.monitorexit) 1 80 := ⟨by decide +kernel, rfl⟩
theorem a5_80 : AtI prog_83_method_2_code 80 (.aload 5) 2 82 := ⟨by decide +kernel, rfl⟩
theorem a5_82 : AtI prog_83_method_2_code 82 (.monitorexit) 1 83 := ⟨by decide +kernel, rfl⟩
theorem a5_83 : AtI prog_83_method_2_code 83 (.ireturn) 1 84 := ⟨by decide +kernel, rfl⟩
theorem a5_84 : AtI prog_83_method_2_code 84 (.aload 6) 2 86 := ⟨by decide +kernel, rfl⟩
theorem a5_86 : AtI prog_83_method_2_code 86 (.monitorexit) 1 87 := ⟨by decide +kernel, rfl⟩
theorem a5_87 : AtJ prog_83_method_2_code 87 (.goto) 90 98 := ⟨11, by decide +kernel, rfl, by decide, rfl⟩
theorem a5_98 : AtI prog_83_method_2_code 98 (.aload 5) 2 100 := ⟨by decide +kernel, rfl⟩
theorem a5_100 : AtI prog_83_method_2_code 100 (.monitorexit) 1 101 := ⟨by decide +kernel, rfl⟩
theorem a5_101 : AtJ prog_83_method_2_code 101 (.goto) 104 112 := ⟨11, by decide +kernel, rfl, by decide, rfl⟩
theorem a5_112 : AtJ prog_83_method_2_code 112 (.goto) 115 0 := ⟨(-112), by decide +kernel, rfl, by decide, rfl⟩
theorem pd5 : parseMethodDescriptor "(I)Z" = some ⟨[.int], some .boolean⟩ := by decide +kernel
theorem pl5 : plainFor (⟨"antecede/sets/LazySet", "add", "(I)Z"⟩ : MethodName) = true := plainFor_of_name (by first | (simp [plainName, overriddenIn]; done) | decide +kernel)
theorem ok5 {Z : State} {a0 : Array Value} (hw : ∀ d ∈ tables_1, d.before a0 Z = true) (ρ : Nat → Nat) (n0 : Nat × List Nat) (j0 u0 : Nat) : WCalleeW Z a0 (⟨"antecede/sets/LazySet", "add", "(I)Z"⟩ : MethodName) (g5 Z ρ n0 j0 u0) [((28 : Nat), (80 : Nat), (90 : Nat), (0 : Nat)), ((84 : Nat), (87 : Nat), (90 : Nat), (0 : Nat)), ((90 : Nat), (95 : Nat), (90 : Nat), (0 : Nat)), ((22 : Nat), (83 : Nat), (104 : Nat), (0 : Nat)), ((84 : Nat), (101 : Nat), (104 : Nat), (0 : Nat)), ((104 : Nat), (109 : Nat), (104 : Nat), (0 : Nat))] 1 :=
  ⟨pl5, (by decide), rfl, rfl, ⟨rfl, rfl⟩, (wd hw 7 rfl), (wd hw 33 rfl), fun sig h => by cases pd5.symm.trans h; rfl⟩
abbrev g4 (Z : State) (ρ : Nat → Nat) (n0 : Nat × List Nat) (j0 u0 : Nat) : WMC := ((Z, ρ, n0), ("antecede/sets/LazySet$Node", prog_84_method_1_code, "<init>", none, 4), (j0, u0, 1, 12, [], 0))
theorem a4_0 : AtI prog_84_method_1_code 0 (.aload_n 0) 1 1 := ⟨by decide +kernel, rfl⟩
theorem a4_1 : AtI prog_84_method_1_code 1 (.invokespecial 1) 3 4 := ⟨by decide +kernel, rfl⟩
theorem a4_4 : AtI prog_84_method_1_code 4 (.aload_n 0) 1 5 := ⟨by decide +kernel, rfl⟩
theorem a4_5 : AtI prog_84_method_1_code 5 (.lload_n 1) 1 6 := ⟨by decide +kernel, rfl⟩
theorem a4_6 : AtI prog_84_method_1_code 6 (.putfield 7) 3 9 := ⟨by decide +kernel, rfl⟩
theorem a4_9 : AtI prog_84_method_1_code 9 (.aload_n 0) 1 10 := ⟨by decide +kernel, rfl⟩
theorem a4_10 : AtI prog_84_method_1_code 10 (.aload_n 3) 1 11 := ⟨by decide +kernel, rfl⟩
theorem a4_11 : AtI prog_84_method_1_code 11 (.putfield 13) 3 14 := ⟨by decide +kernel, rfl⟩
theorem a4_14 : AtI prog_84_method_1_code 14 (.return_) 1 15 := ⟨by decide +kernel, rfl⟩
theorem pd4 : parseMethodDescriptor "(JLantecede/sets/LazySet$Node;)V" = some ⟨[.long, (.object "antecede/sets/LazySet$Node")], none⟩ := by decide +kernel
theorem pl4 : plainFor (⟨"antecede/sets/LazySet$Node", "<init>", "(JLantecede/sets/LazySet$Node;)V"⟩ : MethodName) = true := plainFor_of_name (by first | (simp [plainName, overriddenIn]; done) | decide +kernel)
theorem ok4 {Z : State} {a0 : Array Value} (hw : ∀ d ∈ tables_1, d.before a0 Z = true) (ρ : Nat → Nat) (n0 : Nat × List Nat) (j0 u0 : Nat) : WCallee Z a0 (⟨"antecede/sets/LazySet$Node", "<init>", "(JLantecede/sets/LazySet$Node;)V"⟩ : MethodName) (g4 Z ρ n0 j0 u0) 2 :=
  ⟨pl4, (by decide), rfl, rfl, ⟨rfl, rfl⟩, (wd hw 16 rfl), (wd hw 21 rfl), fun sig h => by cases pd4.symm.trans h; rfl⟩
abbrev g2 (Z : State) (ρ : Nat → Nat) (n0 : Nat × List Nat) (j0 u0 : Nat) : WMC := ((Z, ρ, n0), ("antecede/sets/LazySet", prog_83_method_1_code, "<init>", none, 1), (j0, u0, 2, 33, [], 0))
theorem a2_0 : AtI prog_83_method_1_code 0 (.aload_n 0) 1 1 := ⟨by decide +kernel, rfl⟩
theorem a2_1 : AtI prog_83_method_1_code 1 (.invokespecial 1) 3 4 := ⟨by decide +kernel, rfl⟩
theorem a2_4 : AtI prog_83_method_1_code 4 (.aload_n 0) 1 5 := ⟨by decide +kernel, rfl⟩
theorem a2_5 : AtI prog_83_method_1_code 5 (.new 7) 3 8 := ⟨by decide +kernel, rfl⟩
theorem a2_8 : AtI prog_83_method_1_code 8 (.dup) 1 9 := ⟨by decide +kernel, rfl⟩
theorem a2_9 : AtI prog_83_method_1_code 9 (.ldc2_w 11) 3 12 := ⟨by decide +kernel, rfl⟩
theorem a2_12 : AtI prog_83_method_1_code 12 (.new 7) 3 15 := ⟨by decide +kernel, rfl⟩
theorem a2_15 : AtI prog_83_method_1_code 15 (.dup) 1 16 := ⟨by decide +kernel, rfl⟩
theorem a2_16 : AtI prog_83_method_1_code 16 (.ldc2_w 13) 3 19 := ⟨by decide +kernel, rfl⟩
theorem a2_19 : AtI prog_83_method_1_code 19 (.aconst_null) 1 20 := ⟨by decide +kernel, rfl⟩
theorem a2_20 : AtI prog_83_method_1_code 20 (.invokespecial 15) 3 23 := ⟨by decide +kernel, rfl⟩
theorem a2_23 : AtI prog_83_method_1_code 23 (.invokespecial 15) 3 26 := ⟨by decide +kernel, rfl⟩
theorem a2_26 : AtI prog_83_method_1_code 26 (.putfield 18) 3 29 := ⟨by decide +kernel, rfl⟩
theorem a2_29 : AtI prog_83_method_1_code 29 (.return_) 1 30 := ⟨by decide +kernel, rfl⟩
theorem pd2 : parseMethodDescriptor "()V" = some ⟨[], none⟩ := by decide +kernel
theorem pl2 : plainFor (⟨"antecede/sets/LazySet", "<init>", "()V"⟩ : MethodName) = true := plainFor_of_name (by first | (simp [plainName, overriddenIn]; done) | decide +kernel)
theorem ok2 {Z : State} {a0 : Array Value} (hw : ∀ d ∈ tables_1, d.before a0 Z = true) (ρ : Nat → Nat) (n0 : Nat × List Nat) (j0 u0 : Nat) : WCallee Z a0 (⟨"antecede/sets/LazySet", "<init>", "()V"⟩ : MethodName) (g2 Z ρ n0 j0 u0) 0 :=
  ⟨pl2, (by decide), rfl, rfl, ⟨rfl, rfl⟩, (wd hw 7 rfl), (wd hw 10 rfl), fun sig h => by cases pd2.symm.trans h; rfl⟩
abbrev g1 (Z : State) (ρ : Nat → Nat) (n0 : Nat × List Nat) (j0 u0 : Nat) : WMC := ((Z, ρ, n0), ("antecede/sets/LazySetContainsPinLaw", method_3_code, "pick", (some .int), 6), (j0, u0, 0, 0, [], 0))
theorem a1_0 : AtI method_3_code 0 (.iload_n 0) 1 1 := ⟨by decide +kernel, rfl⟩
theorem a1_1 : AtJ method_3_code 1 (.ifCond .ne) 4 6 := ⟨5, by decide +kernel, rfl, by decide, rfl⟩
theorem a1_4 : AtI method_3_code 4 (.iload_n 1) 1 5 := ⟨by decide +kernel, rfl⟩
theorem a1_5 : AtI method_3_code 5 (.ireturn) 1 6 := ⟨by decide +kernel, rfl⟩
theorem a1_6 : AtI method_3_code 6 (.iload_n 0) 1 7 := ⟨by decide +kernel, rfl⟩
theorem a1_7 : AtI method_3_code 7 (.iconst 1) 1 8 := ⟨by decide +kernel, rfl⟩
theorem a1_8 : AtJ method_3_code 8 (.if_icmp .ne) 11 13 := ⟨5, by decide +kernel, rfl, by decide, rfl⟩
theorem a1_11 : AtI method_3_code 11 (.iload_n 2) 1 12 := ⟨by decide +kernel, rfl⟩
theorem a1_12 : AtI method_3_code 12 (.ireturn) 1 13 := ⟨by decide +kernel, rfl⟩
theorem a1_13 : AtI method_3_code 13 (.iload_n 0) 1 14 := ⟨by decide +kernel, rfl⟩
theorem a1_14 : AtI method_3_code 14 (.iconst 2) 1 15 := ⟨by decide +kernel, rfl⟩
theorem a1_15 : AtJ method_3_code 15 (.if_icmp .ne) 18 20 := ⟨5, by decide +kernel, rfl, by decide, rfl⟩
theorem a1_18 : AtI method_3_code 18 (.iload_n 3) 1 19 := ⟨by decide +kernel, rfl⟩
theorem a1_19 : AtI method_3_code 19 (.ireturn) 1 20 := ⟨by decide +kernel, rfl⟩
theorem a1_20 : AtI method_3_code 20 (.iload_n 0) 1 21 := ⟨by decide +kernel, rfl⟩
theorem a1_21 : AtI method_3_code 21 (.iconst 3) 1 22 := ⟨by decide +kernel, rfl⟩
theorem a1_22 : AtJ method_3_code 22 (.if_icmp .ne) 25 28 := ⟨6, by decide +kernel, rfl, by decide, rfl⟩
theorem a1_25 : AtI method_3_code 25 (.iload 4) 2 27 := ⟨by decide +kernel, rfl⟩
theorem a1_27 : AtI method_3_code 27 (.ireturn) 1 28 := ⟨by decide +kernel, rfl⟩
theorem a1_28 : AtI method_3_code 28 (.iload_n 0) 1 29 := ⟨by decide +kernel, rfl⟩
theorem a1_29 : AtI method_3_code 29 (.iconst 4) 1 30 := ⟨by decide +kernel, rfl⟩
theorem a1_30 : AtJ method_3_code 30 (.if_icmp .ne) 33 37 := ⟨7, by decide +kernel, rfl, by decide, rfl⟩
theorem a1_33 : AtI method_3_code 33 (.iload_n 1) 1 34 := ⟨by decide +kernel, rfl⟩
theorem a1_34 : AtI method_3_code 34 (.iconst 1) 1 35 := ⟨by decide +kernel, rfl⟩
theorem a1_35 : AtI method_3_code 35 (.iadd) 1 36 := ⟨by decide +kernel, rfl⟩
theorem a1_36 : AtI method_3_code 36 (.ireturn) 1 37 := ⟨by decide +kernel, rfl⟩
theorem a1_37 : AtI method_3_code 37 (.iload_n 0) 1 38 := ⟨by decide +kernel, rfl⟩
theorem a1_38 : AtI method_3_code 38 (.iconst 5) 1 39 := ⟨by decide +kernel, rfl⟩
theorem a1_39 : AtJ method_3_code 39 (.if_icmp .ne) 42 46 := ⟨7, by decide +kernel, rfl, by decide, rfl⟩
theorem a1_42 : AtI method_3_code 42 (.iload_n 1) 1 43 := ⟨by decide +kernel, rfl⟩
theorem a1_43 : AtI method_3_code 43 (.iconst 1) 1 44 := ⟨by decide +kernel, rfl⟩
theorem a1_44 : AtI method_3_code 44 (.isub) 1 45 := ⟨by decide +kernel, rfl⟩
theorem a1_45 : AtI method_3_code 45 (.ireturn) 1 46 := ⟨by decide +kernel, rfl⟩
theorem a1_46 : AtI method_3_code 46 (.iload 5) 2 48 := ⟨by decide +kernel, rfl⟩
theorem a1_48 : AtI method_3_code 48 (.ireturn) 1 49 := ⟨by decide +kernel, rfl⟩
theorem pd1 : parseMethodDescriptor "(IIIIII)I" = some ⟨[.int, .int, .int, .int, .int, .int], some .int⟩ := by decide +kernel
theorem pl1 : plainFor (⟨"antecede/sets/LazySetContainsPinLaw", "pick", "(IIIIII)I"⟩ : MethodName) = true := plainFor_of_name (by first | (simp [plainName, overriddenIn]; done) | decide +kernel)
theorem ok1 {Z : State} {a0 : Array Value} (hw : ∀ d ∈ tables_1, d.before a0 Z = true) (ρ : Nat → Nat) (n0 : Nat × List Nat) (j0 u0 : Nat) : WCallee Z a0 (⟨"antecede/sets/LazySetContainsPinLaw", "pick", "(IIIIII)I"⟩ : MethodName) (g1 Z ρ n0 j0 u0) 6 :=
  ⟨pl1, (by decide), rfl, rfl, ⟨rfl, rfl⟩, (wd hw 3 rfl), (wd hw 4 rfl), fun sig h => by cases pd1.symm.trans h; rfl⟩
abbrev g0 (Z : State) (ρ : Nat → Nat) (n0 : Nat × List Nat) (j0 u0 : Nat) : WMC := ((Z, ρ, n0), ("antecede/sets/LazySetContainsPinLaw", code, "law", ret, maxLocals), (j0, u0, 8, 176, [], 0))
theorem a0_0 : AtI code 0 (.iload 5) 2 2 := ⟨by decide +kernel, rfl⟩
theorem a0_2 : AtI code 2 (.iconst 1) 1 3 := ⟨by decide +kernel, rfl⟩
theorem a0_3 : AtI code 3 (.iand) 1 4 := ⟨by decide +kernel, rfl⟩
theorem a0_4 : AtJ code 4 (.ifCond .eq) 7 11 := ⟨7, by decide +kernel, rfl, by decide, rfl⟩
theorem a0_7 : AtI code 7 (.iconst 1) 1 8 := ⟨by decide +kernel, rfl⟩
theorem a0_8 : AtJ code 8 (.goto) 11 12 := ⟨4, by decide +kernel, rfl, by decide, rfl⟩
theorem a0_11 : AtI code 11 (.iconst 0) 1 12 := ⟨by decide +kernel, rfl⟩
theorem a0_12 : AtI code 12 (.istore 6) 2 14 := ⟨by decide +kernel, rfl⟩
theorem a0_14 : AtI code 14 (.iload 5) 2 16 := ⟨by decide +kernel, rfl⟩
theorem a0_16 : AtI code 16 (.iconst 2) 1 17 := ⟨by decide +kernel, rfl⟩
theorem a0_17 : AtI code 17 (.iand) 1 18 := ⟨by decide +kernel, rfl⟩
theorem a0_18 : AtJ code 18 (.ifCond .eq) 21 25 := ⟨7, by decide +kernel, rfl, by decide, rfl⟩
theorem a0_21 : AtI code 21 (.iconst 1) 1 22 := ⟨by decide +kernel, rfl⟩
theorem a0_22 : AtJ code 22 (.goto) 25 26 := ⟨4, by decide +kernel, rfl, by decide, rfl⟩
theorem a0_25 : AtI code 25 (.iconst 0) 1 26 := ⟨by decide +kernel, rfl⟩
theorem a0_26 : AtI code 26 (.istore 7) 2 28 := ⟨by decide +kernel, rfl⟩
theorem a0_28 : AtI code 28 (.iload 5) 2 30 := ⟨by decide +kernel, rfl⟩
theorem a0_30 : AtI code 30 (.iconst 4) 1 31 := ⟨by decide +kernel, rfl⟩
theorem a0_31 : AtI code 31 (.iand) 1 32 := ⟨by decide +kernel, rfl⟩
theorem a0_32 : AtJ code 32 (.ifCond .eq) 35 39 := ⟨7, by decide +kernel, rfl, by decide, rfl⟩
theorem a0_35 : AtI code 35 (.iconst 1) 1 36 := ⟨by decide +kernel, rfl⟩
theorem a0_36 : AtJ code 36 (.goto) 39 40 := ⟨4, by decide +kernel, rfl, by decide, rfl⟩
theorem a0_39 : AtI code 39 (.iconst 0) 1 40 := ⟨by decide +kernel, rfl⟩
theorem a0_40 : AtI code 40 (.istore 8) 2 42 := ⟨by decide +kernel, rfl⟩
theorem a0_42 : AtI code 42 (.iload 5) 2 44 := ⟨by decide +kernel, rfl⟩
theorem a0_44 : AtI code 44 (.iconst 3) 1 45 := ⟨by decide +kernel, rfl⟩
theorem a0_45 : AtI code 45 (.iushr) 1 46 := ⟨by decide +kernel, rfl⟩
theorem a0_46 : AtI code 46 (.ldc 7) 2 48 := ⟨by decide +kernel, rfl⟩
theorem a0_48 : AtI code 48 (.iand) 1 49 := ⟨by decide +kernel, rfl⟩
theorem a0_49 : AtI code 49 (.bipush 7) 2 51 := ⟨by decide +kernel, rfl⟩
theorem a0_51 : AtI code 51 (.irem) 1 52 := ⟨by decide +kernel, rfl⟩
theorem a0_52 : AtI code 52 (.istore 9) 2 54 := ⟨by decide +kernel, rfl⟩
theorem a0_54 : AtI code 54 (.iload 9) 2 56 := ⟨by decide +kernel, rfl⟩
theorem a0_56 : AtI code 56 (.iload_n 0) 1 57 := ⟨by decide +kernel, rfl⟩
theorem a0_57 : AtI code 57 (.iload_n 1) 1 58 := ⟨by decide +kernel, rfl⟩
theorem a0_58 : AtI code 58 (.iload_n 2) 1 59 := ⟨by decide +kernel, rfl⟩
theorem a0_59 : AtI code 59 (.iload_n 3) 1 60 := ⟨by decide +kernel, rfl⟩
theorem a0_60 : AtI code 60 (.iload 4) 2 62 := ⟨by decide +kernel, rfl⟩
theorem a0_62 : AtI code 62 (.invokestatic 8) 3 65 := ⟨by decide +kernel, rfl⟩
theorem a0_65 : AtI code 65 (.istore 10) 2 67 := ⟨by decide +kernel, rfl⟩
theorem a0_67 : AtI code 67 (.new 14) 3 70 := ⟨by decide +kernel, rfl⟩
theorem a0_70 : AtI code 70 (.dup) 1 71 := ⟨by decide +kernel, rfl⟩
theorem a0_71 : AtI code 71 (.invokespecial 16) 3 74 := ⟨by decide +kernel, rfl⟩
theorem a0_74 : AtI code 74 (.astore 11) 2 76 := ⟨by decide +kernel, rfl⟩
theorem a0_76 : AtI code 76 (.aload 11) 2 78 := ⟨by decide +kernel, rfl⟩
theorem a0_78 : AtI code 78 (.iload_n 0) 1 79 := ⟨by decide +kernel, rfl⟩
theorem a0_79 : AtI code 79 (.invokevirtual 17) 3 82 := ⟨by decide +kernel, rfl⟩
theorem a0_82 : AtI code 82 (.pop) 1 83 := ⟨by decide +kernel, rfl⟩
theorem a0_83 : AtI code 83 (.iload 6) 2 85 := ⟨by decide +kernel, rfl⟩
theorem a0_85 : AtJ code 85 (.ifCond .eq) 88 95 := ⟨10, by decide +kernel, rfl, by decide, rfl⟩
theorem a0_88 : AtI code 88 (.aload 11) 2 90 := ⟨by decide +kernel, rfl⟩
theorem a0_90 : AtI code 90 (.iload_n 1) 1 91 := ⟨by decide +kernel, rfl⟩
theorem a0_91 : AtI code 91 (.invokevirtual 17) 3 94 := ⟨by decide +kernel, rfl⟩
theorem a0_94 : AtI code 94 (.pop) 1 95 := ⟨by decide +kernel, rfl⟩
theorem a0_95 : AtI code 95 (.iload 7) 2 97 := ⟨by decide +kernel, rfl⟩
theorem a0_97 : AtJ code 97 (.ifCond .eq) 100 107 := ⟨10, by decide +kernel, rfl, by decide, rfl⟩
theorem a0_100 : AtI code 100 (.aload 11) 2 102 := ⟨by decide +kernel, rfl⟩
theorem a0_102 : AtI code 102 (.iload_n 2) 1 103 := ⟨by decide +kernel, rfl⟩
theorem a0_103 : AtI code 103 (.invokevirtual 21) 3 106 := ⟨by decide +kernel, rfl⟩
theorem a0_106 : AtI code 106 (.pop) 1 107 := ⟨by decide +kernel, rfl⟩
theorem a0_107 : AtI code 107 (.iload 8) 2 109 := ⟨by decide +kernel, rfl⟩
theorem a0_109 : AtJ code 109 (.ifCond .eq) 112 119 := ⟨10, by decide +kernel, rfl, by decide, rfl⟩
theorem a0_112 : AtI code 112 (.aload 11) 2 114 := ⟨by decide +kernel, rfl⟩
theorem a0_114 : AtI code 114 (.iload_n 3) 1 115 := ⟨by decide +kernel, rfl⟩
theorem a0_115 : AtI code 115 (.invokevirtual 17) 3 118 := ⟨by decide +kernel, rfl⟩
theorem a0_118 : AtI code 118 (.pop) 1 119 := ⟨by decide +kernel, rfl⟩
theorem a0_119 : AtI code 119 (.iload 10) 2 121 := ⟨by decide +kernel, rfl⟩
theorem a0_121 : AtI code 121 (.iload_n 0) 1 122 := ⟨by decide +kernel, rfl⟩
theorem a0_122 : AtJ code 122 (.if_icmp .eq) 125 136 := ⟨14, by decide +kernel, rfl, by decide, rfl⟩
theorem a0_125 : AtI code 125 (.iload 6) 2 127 := ⟨by decide +kernel, rfl⟩
theorem a0_127 : AtJ code 127 (.ifCond .eq) 130 140 := ⟨13, by decide +kernel, rfl, by decide, rfl⟩
theorem a0_130 : AtI code 130 (.iload 10) 2 132 := ⟨by decide +kernel, rfl⟩
theorem a0_132 : AtI code 132 (.iload_n 1) 1 133 := ⟨by decide +kernel, rfl⟩
theorem a0_133 : AtJ code 133 (.if_icmp .ne) 136 140 := ⟨7, by decide +kernel, rfl, by decide, rfl⟩
theorem a0_136 : AtI code 136 (.iconst 1) 1 137 := ⟨by decide +kernel, rfl⟩
theorem a0_137 : AtJ code 137 (.goto) 140 141 := ⟨4, by decide +kernel, rfl, by decide, rfl⟩
theorem a0_140 : AtI code 140 (.iconst 0) 1 141 := ⟨by decide +kernel, rfl⟩
theorem a0_141 : AtI code 141 (.istore 12) 2 143 := ⟨by decide +kernel, rfl⟩
theorem a0_143 : AtI code 143 (.iload 7) 2 145 := ⟨by decide +kernel, rfl⟩
theorem a0_145 : AtJ code 145 (.ifCond .eq) 148 157 := ⟨12, by decide +kernel, rfl, by decide, rfl⟩
theorem a0_148 : AtI code 148 (.iload 10) 2 150 := ⟨by decide +kernel, rfl⟩
theorem a0_150 : AtI code 150 (.iload_n 2) 1 151 := ⟨by decide +kernel, rfl⟩
theorem a0_151 : AtJ code 151 (.if_icmp .ne) 154 157 := ⟨6, by decide +kernel, rfl, by decide, rfl⟩
theorem a0_154 : AtI code 154 (.iconst 0) 1 155 := ⟨by decide +kernel, rfl⟩
theorem a0_155 : AtI code 155 (.istore 12) 2 157 := ⟨by decide +kernel, rfl⟩
theorem a0_157 : AtI code 157 (.iload 8) 2 159 := ⟨by decide +kernel, rfl⟩
theorem a0_159 : AtJ code 159 (.ifCond .eq) 162 171 := ⟨12, by decide +kernel, rfl, by decide, rfl⟩
theorem a0_162 : AtI code 162 (.iload 10) 2 164 := ⟨by decide +kernel, rfl⟩
theorem a0_164 : AtI code 164 (.iload_n 3) 1 165 := ⟨by decide +kernel, rfl⟩
theorem a0_165 : AtJ code 165 (.if_icmp .ne) 168 171 := ⟨6, by decide +kernel, rfl, by decide, rfl⟩
theorem a0_168 : AtI code 168 (.iconst 1) 1 169 := ⟨by decide +kernel, rfl⟩
theorem a0_169 : AtI code 169 (.istore 12) 2 171 := ⟨by decide +kernel, rfl⟩
theorem a0_171 : AtI code 171 (.aload 11) 2 173 := ⟨by decide +kernel, rfl⟩
theorem a0_173 : AtI code 173 (.iload 10) 2 175 := ⟨by decide +kernel, rfl⟩
theorem a0_175 : AtI code 175 (.invokevirtual 24) 3 178 := ⟨by decide +kernel, rfl⟩
theorem a0_178 : AtI code 178 (.iload 12) 2 180 := ⟨by decide +kernel, rfl⟩
theorem a0_180 : AtJ code 180 (.if_icmp .ne) 183 187 := ⟨7, by decide +kernel, rfl, by decide, rfl⟩
theorem a0_183 : AtI code 183 (.iconst 1) 1 184 := ⟨by decide +kernel, rfl⟩
theorem a0_184 : AtJ code 184 (.goto) 187 188 := ⟨4, by decide +kernel, rfl, by decide, rfl⟩
theorem a0_187 : AtI code 187 (.iconst 0) 1 188 := ⟨by decide +kernel, rfl⟩
theorem a0_188 : AtI code 188 (.ireturn) 1 189 := ⟨by decide +kernel, rfl⟩
set_option maxHeartbeats 4000000 in
theorem cRec {Z : State} {a0 : Array Value} (hw : ∀ d ∈ tables_1, d.before a0 Z = true) (ρ : Nat → Nat) (n0 : Nat × List Nat) (k : Nat) (σ : WHp) (u : Nat) : WGo (g8 Z ρ n0 σ.length u) (0, [wR k], [], σ, u) (fun v σ' u' => v = none ∧ σ = σ' ∧ u = u') := by
  refine .s (.aloadN a8_0 rfl rfl) <| .s (.initO a8_1 (wd hw 51 rfl) (wd hw 12 rfl) (wd hw 13 rfl) rfl (Nat.le_of_ble_eq_true rfl) (Nat.le_of_ble_eq_true rfl)) ?_
  refine .vreturn a8_4 rfl ?_
  exact ⟨rfl, rfl, rfl⟩
set_option maxHeartbeats 4000000 in
theorem cPred {Z : State} {a0 : Array Value} (hw : ∀ d ∈ tables_1, d.before a0 Z = true) (ρ : Nat → Nat) (n0 : Nat × List Nat) (k i j : Nat) (σ : WHp) (hk : σ[k]? = some (win (.ref i) (.ref j))) (u : Nat) : WGo (g9 Z ρ n0 σ.length u) (0, [wR k], [], σ, u) (fun v σ' u' => v = some (.ref i) ∧ σ = σ' ∧ u = u') := by
  refine .s (.aloadN a9_0 rfl rfl) <| .s (.getF 0 a9_1 (wd hw 52 rfl) hk rfl) ?_
  show WGo _ (4, [wR k], [.ref i], σ, u) _
  refine .areturn (.object "antecede/sets/LazySet$Node") a9_4 rfl rfl rfl ?_
  exact ⟨rfl, rfl, rfl⟩
set_option maxHeartbeats 4000000 in
theorem cCurr {Z : State} {a0 : Array Value} (hw : ∀ d ∈ tables_1, d.before a0 Z = true) (ρ : Nat → Nat) (n0 : Nat × List Nat) (k i j : Nat) (σ : WHp) (hk : σ[k]? = some (win (.ref i) (.ref j))) (u : Nat) : WGo (g10 Z ρ n0 σ.length u) (0, [wR k], [], σ, u) (fun v σ' u' => v = some (.ref j) ∧ σ = σ' ∧ u = u') := by
  refine .s (.aloadN a10_0 rfl rfl) <| .s (.getF 1 a10_1 (wd hw 54 rfl) hk rfl) ?_
  show WGo _ (4, [wR k], [.ref j], σ, u) _
  refine .areturn (.object "antecede/sets/LazySet$Node") a10_4 rfl rfl rfl ?_
  exact ⟨rfl, rfl, rfl⟩
set_option maxHeartbeats 4000000 in
theorem cWin {Z : State} {a0 : Array Value} (hw : ∀ d ∈ tables_1, d.before a0 Z = true) (ρ : Nat → Nat) (n0 : Nat × List Nat) (k i j : Nat) (k1 : k < 1000) (σ : WHp) (hk : σ[k]? = some (win .null .null)) (u : Nat) : WGo (g7 Z ρ n0 σ.length u) (0, [wR k, wR i, wR j], [], σ, u) (fun v σ' u' => v = none ∧ σ.set k (win (.ref i) (.ref j)) = σ' ∧ u = u') := by
  refine .s (.aloadN a7_0 rfl rfl) ?_
  refine .callI (k := k) a7_1 (ok8 hw _ _ _ _) rfl rfl (wd hw 46 rfl) (wd hw 47 rfl) k1 (argsL := []) (S := []) (cRec hw _ _ k _ _) rfl rfl rfl rfl rfl rfl (Nat.le_of_ble_eq_true rfl) (Nat.le_of_ble_eq_true rfl) ?_
  rintro _ _ _ ⟨rfl, rfl, rfl⟩
  show WGo _ (4, [wR k, wR i, wR j], [], σ, u) _
  refine .s (.aloadN a7_4 rfl rfl) <| .s (.aloadN a7_5 rfl rfl) <| .s (.putF (ty := (.object "antecede/sets/LazySet$Node")) 0 (.ref i) a7_6 (wd hw 52 rfl) hk rfl (Or.inr ⟨(wd hw 53 rfl), rfl, rfl⟩) (wd hw 41 rfl) (by decide) rfl rfl) ?_
  show WGo _ (9, [wR k, wR i, wR j], [], (σ.set k (win (.ref i) .null)), u) _
  refine .s (.aloadN a7_9 rfl rfl) <| .s (.aloadN a7_10 rfl rfl) <| .s (.putF (ty := (.object "antecede/sets/LazySet$Node")) 1 (.ref j) a7_11 (wd hw 54 rfl) (get_set_eq hk) rfl (Or.inr ⟨(wd hw 55 rfl), rfl, rfl⟩) (wd hw 41 rfl) (by decide) rfl rfl) ?_
  show WGo _ (14, [wR k, wR i, wR j], [], ((σ.set k (win (.ref i) .null)).set k (win (.ref i) (.ref j))), u) _
  refine .vreturn a7_14 rfl ?_
  exact ⟨rfl, (List.set_set ..).symm, rfl⟩
set_option maxHeartbeats 4000000 in
theorem cNodeR {Z : State} {a0 : Array Value} (hw : ∀ d ∈ tables_1, d.before a0 Z = true) (ρ : Nat → Nat) (n0 : Nat × List Nat) (k j : Nat) (x : Int64) (σ : WHp) (hk : σ[k]? = some (nd 0 .null 0)) (u : Nat) : WGo (g4 Z ρ n0 σ.length u) (0, [wR k, wJ x, wS, wR j], [], σ, u) (fun v σ' u' => v = none ∧ σ.set k (nd x (.ref j) 0) = σ' ∧ u = u') := by
  refine .s (.aloadN a4_0 rfl rfl) <| .s (.initO a4_1 (wd hw 22 rfl) (wd hw 12 rfl) (wd hw 13 rfl) rfl (Nat.le_of_ble_eq_true rfl) (Nat.le_of_ble_eq_true rfl)) <| .s (.aloadN a4_4 rfl rfl) <| .s (.lloadN a4_5 rfl) <| .s (.putF (ty := .long) 0 ((.long x)) a4_6 (wd hw 23 rfl) hk rfl (Or.inr ⟨(wd hw 24 rfl), rfl, rfl⟩) (wd hw 15 rfl) (by decide) rfl rfl) ?_
  show WGo _ (9, [wR k, wJ x, wS, wR j], [], (σ.set k (nd x .null 0)), u) _
  refine .s (.aloadN a4_9 rfl rfl) <| .s (.aloadN a4_10 rfl rfl) <| .s (.putF (ty := (.object "antecede/sets/LazySet$Node")) 1 (.ref j) a4_11 (wd hw 25 rfl) (get_set_eq hk) rfl (Or.inl (wd hw 26 rfl)) (wd hw 15 rfl) (by decide) rfl rfl) ?_
  show WGo _ (14, [wR k, wJ x, wS, wR j], [], ((σ.set k (nd x .null 0)).set k (nd x (.ref j) 0)), u) _
  refine .vreturn a4_14 rfl ?_
  exact ⟨rfl, (List.set_set ..).symm, rfl⟩
set_option maxHeartbeats 4000000 in
theorem cNodeN {Z : State} {a0 : Array Value} (hw : ∀ d ∈ tables_1, d.before a0 Z = true) (ρ : Nat → Nat) (n0 : Nat × List Nat) (k : Nat) (x : Int64) (σ : WHp) (hk : σ[k]? = some (nd 0 .null 0)) (u : Nat) : WGo (g4 Z ρ n0 σ.length u) (0, [wR k, wJ x, wS, wN], [], σ, u) (fun v σ' u' => v = none ∧ σ.set k (nd x (.null) 0) = σ' ∧ u = u') := by
  refine .s (.aloadN a4_0 rfl rfl) <| .s (.initO a4_1 (wd hw 22 rfl) (wd hw 12 rfl) (wd hw 13 rfl) rfl (Nat.le_of_ble_eq_true rfl) (Nat.le_of_ble_eq_true rfl)) <| .s (.aloadN a4_4 rfl rfl) <| .s (.lloadN a4_5 rfl) <| .s (.putF (ty := .long) 0 ((.long x)) a4_6 (wd hw 23 rfl) hk rfl (Or.inr ⟨(wd hw 24 rfl), rfl, rfl⟩) (wd hw 15 rfl) (by decide) rfl rfl) ?_
  show WGo _ (9, [wR k, wJ x, wS, wN], [], (σ.set k (nd x .null 0)), u) _
  refine .s (.aloadN a4_9 rfl rfl) <| .s (.aloadN a4_10 rfl rfl) <| .s (.putF (ty := (.object "antecede/sets/LazySet$Node")) 1 (.null) a4_11 (wd hw 25 rfl) (get_set_eq hk) rfl (Or.inl (wd hw 26 rfl)) (wd hw 15 rfl) (by decide) rfl rfl) ?_
  show WGo _ (14, [wR k, wJ x, wS, wN], [], ((σ.set k (nd x .null 0)).set k (nd x (.null) 0)), u) _
  refine .vreturn a4_14 rfl ?_
  exact ⟨rfl, (List.set_set ..).symm, rfl⟩
set_option maxHeartbeats 4000000 in
theorem cInit {Z : State} {a0 : Array Value} (hw : ∀ d ∈ tables_1, d.before a0 Z = true) (ρ : Nat → Nat) (n0 : Nat × List Nat) (u : Nat) : WGo (g2 Z ρ n0 1 u) (0, [wR 0], [], [(.inr (cn0, [(lsH, .null)]))], u) (fun v σ' u' => v = none ∧ [lset (.ref 1), nd (-9223372036854775808) (.ref 2) 0, nd 9223372036854775807 .null 0] = σ' ∧ u + 6 = u') := by
  refine .s (.aloadN a2_0 rfl rfl) <| .s (.initO a2_1 (wd hw 11 rfl) (wd hw 12 rfl) (wd hw 13 rfl) rfl (Nat.le_of_ble_eq_true rfl) (Nat.le_of_ble_eq_true rfl)) <| .s (.aloadN a2_4 rfl rfl) <| .s (.newO (k := 1) [(lkK, .long 0), (lkN, .null), (lkM, .int 0)] a2_5 (wd hw 14 rfl) (wd hw 15 rfl) (wd hw 16 rfl) ⟨⟨Or.inr (wd hw 24 rfl), .long, by decide, rfl⟩, ⟨Or.inl (wd hw 26 rfl), (.object "antecede/sets/LazySet$Node"), by decide, rfl⟩, ⟨Or.inl (wd hw 70 rfl), .boolean, by decide, rfl⟩, trivial⟩ (by decide) rfl (by decide)) ?_
  show WGo _ (8, [wR 0], [.ref 1, .ref 0], [(.inr (cn0, [(lsH, .null)])), (.inr (cn1, [(lkK, .long 0), (lkN, .null), (lkM, .int 0)]))], (u + 3)) _
  refine .s (.dup a2_8 rfl) <| .s (.ldc2 a2_9 (wd hw 17 rfl)) <| .s (.newO (k := 2) [(lkK, .long 0), (lkN, .null), (lkM, .int 0)] a2_12 (wd hw 14 rfl) (wd hw 15 rfl) (wd hw 16 rfl) ⟨⟨Or.inr (wd hw 24 rfl), .long, by decide, rfl⟩, ⟨Or.inl (wd hw 26 rfl), (.object "antecede/sets/LazySet$Node"), by decide, rfl⟩, ⟨Or.inl (wd hw 70 rfl), .boolean, by decide, rfl⟩, trivial⟩ (by decide) rfl (by decide)) ?_
  show WGo _ (15, [wR 0], [.ref 2, .long (-9223372036854775808), .ref 1, .ref 1, .ref 0], [(.inr (cn0, [(lsH, .null)])), (.inr (cn1, [(lkK, .long 0), (lkN, .null), (lkM, .int 0)])), (.inr (cn1, [(lkK, .long 0), (lkN, .null), (lkM, .int 0)]))], ((u + 3) + 3)) _
  refine .s (.dup a2_15 rfl) <| .s (.ldc2 a2_16 (wd hw 18 rfl)) <| .s (.aconstNull a2_19) ?_
  refine .callI (k := 2) a2_20 (ok4 hw _ _ _ _) rfl rfl (wd hw 19 rfl) (wd hw 20 rfl) (by decide) (argsL := [.long 9223372036854775807, .null]) (S := [.ref 2, .long (-9223372036854775808), .ref 1, .ref 1, .ref 0]) (cNodeN hw _ _ 2 (9223372036854775807 : Int64) ([(.inr (cn0, [(lsH, .null)])), (.inr (cn1, [(lkK, .long 0), (lkN, .null), (lkM, .int 0)])), (.inr (cn1, [(lkK, .long 0), (lkN, .null), (lkM, .int 0)]))] : WHp) rfl _) rfl rfl rfl rfl rfl rfl (Nat.le_of_ble_eq_true rfl) (Nat.le_of_ble_eq_true rfl) ?_
  rintro _ _ _ ⟨rfl, rfl, rfl⟩
  show WGo _ (23, [wR 0], [.ref 2, .long (-9223372036854775808), .ref 1, .ref 1, .ref 0], [(.inr (cn0, [(lsH, .null)])), (.inr (cn1, [(lkK, .long 0), (lkN, .null), (lkM, .int 0)])), (.inr (cn1, [(lkK, .long 9223372036854775807), (lkN, .null), (lkM, .int 0)]))], ((u + 3) + 3)) _
  refine .callI (k := 1) a2_23 (ok4 hw _ _ _ _) rfl rfl (wd hw 19 rfl) (wd hw 20 rfl) (by decide) (argsL := [.long (-9223372036854775808), .ref 2]) (S := [.ref 1, .ref 0]) (cNodeR hw _ _ 1 2 (-9223372036854775808 : Int64) ([(.inr (cn0, [(lsH, .null)])), (.inr (cn1, [(lkK, .long 0), (lkN, .null), (lkM, .int 0)])), (.inr (cn1, [(lkK, .long 9223372036854775807), (lkN, .null), (lkM, .int 0)]))] : WHp) rfl _) rfl rfl rfl rfl rfl rfl (Nat.le_of_ble_eq_true rfl) (Nat.le_of_ble_eq_true rfl) ?_
  rintro _ _ _ ⟨rfl, rfl, rfl⟩
  show WGo _ (26, [wR 0], [.ref 1, .ref 0], [(.inr (cn0, [(lsH, .null)])), (.inr (cn1, [(lkK, .long (-9223372036854775808)), (lkN, .ref 2), (lkM, .int 0)])), (.inr (cn1, [(lkK, .long 9223372036854775807), (lkN, .null), (lkM, .int 0)]))], ((u + 3) + 3)) _
  refine .s (.putF (ty := (.object "antecede/sets/LazySet$Node")) 0 (.ref 1) a2_26 (wd hw 27 rfl) rfl rfl (Or.inr ⟨(wd hw 28 rfl), rfl, rfl⟩) (wd hw 6 rfl) (by decide) rfl rfl) ?_
  show WGo _ (29, [wR 0], [], [(.inr (cn0, [(lsH, .ref 1)])), (.inr (cn1, [(lkK, .long (-9223372036854775808)), (lkN, .ref 2), (lkM, .int 0)])), (.inr (cn1, [(lkK, .long 9223372036854775807), (lkN, .null), (lkM, .int 0)]))], ((u + 3) + 3)) _
  refine .vreturn a2_29 rfl ?_
  exact ⟨rfl, rfl, rfl⟩
set_option maxHeartbeats 4000000 in
theorem wloop {Z : State} {a0 : Array Value} (hw : ∀ d ∈ tables_1, d.before a0 Z = true) (ρ : Nat → Nat) (n0 : Nat × List Nat) (N : List Nd) (it : Int32) (σ : WHp) (hl : σ.length ≤ 100) (hch : Ch σ N) (ht : Top it.toInt64 N) (u : Nat) : ∀ (R P : List Nd) (a b : Nd), N = P ++ a :: b :: R → a.2 < it.toInt64 → Top it.toInt64 (a :: b :: R) →
    WGo (g6 Z ρ n0 σ.length u) (13, [wR 0, wI it, wR a.1, wR b.1], [], σ, u) (fun v σ' u' => ∃ P a b R, Cut N it.toInt64 P a b R ∧ v = some (.ref σ.length) ∧ σ ++ [win (.ref a.1) (.ref b.1)] = σ' ∧ u + 2 = u') := by
  intro R
  induction R with
  | nil =>
    intro P a b hN ha hT
    have hn : ¬ b.2 < it.toInt64 := fun q => by
      have h2 : it.toInt64 < b.2 := hT
      simp only [Int64.lt_iff_toInt_lt] at q h2
      omega
    have hc := hch
    rw [hN, Ch.split] at hc
    obtain ⟨v0, -, hb⟩ := Ch.head hc.2.2
    refine .s (.aloadN a6_13 rfl rfl) <| .s (.getF 0 a6_14 (wd hw 39 rfl) hb rfl) ?_
    show WGo _ (17, [wR 0, wI it, wR a.1, wR b.1], [(.long b.2)], σ, u) _
    refine .s (.iloadN a6_17 rfl) <| .s (.i2l a6_18) <| .s (.lcmp a6_19) <| .s (.ifT a6_20 (flt (fun q => hn ((lw_lt _ _).mp q))).2.1) <| .s (.newO (k := σ.length) [(lwP, .null), (lwC, .null)] a6_33 (wd hw 40 rfl) (wd hw 41 rfl) (wd hw 42 rfl) ⟨⟨Or.inr (wd hw 53 rfl), (.object "antecede/sets/LazySet$Node"), by decide, rfl⟩, ⟨Or.inr (wd hw 55 rfl), (.object "antecede/sets/LazySet$Node"), by decide, rfl⟩, trivial⟩ (by decide) rfl (by omega)) ?_
    show WGo _ (36, [wR 0, wI it, wR a.1, wR b.1], [.ref σ.length], (σ ++ [win .null .null]), (u + 2)) _
    refine .s (.dup a6_36 rfl) <| .s (.aloadN a6_37 rfl rfl) <| .s (.aloadN a6_38 rfl rfl) ?_
    refine .callIR (k := σ.length) a6_39 (ok7 hw _ _ _ _) rfl rfl (wd hw 43 rfl) (wd hw 44 rfl) (by omega) (argsL := [.ref a.1, .ref b.1]) (S := [.ref σ.length]) (cWin hw _ _ σ.length a.1 b.1 (by omega) _ hp_new _) rfl rfl rfl rfl rfl rfl (Nat.le_of_ble_eq_true rfl) (Nat.le_of_ble_eq_true rfl) ?_
    rintro _ _ _ ⟨rfl, rfl, rfl⟩
    rw [set_new]
    show WGo _ (42, [wR 0, wI it, wR a.1, wR b.1], [.ref σ.length], (σ ++ [win (.ref a.1) (.ref b.1)]), (u + 2)) _
    refine .areturn (.object "antecede/sets/LazySet$Window") a6_42 rfl rfl rfl ?_
    exact ⟨P, a, b, _, ⟨hN, ha, hn⟩, rfl, rfl, rfl⟩
  | cons c R ih =>
    intro P a b hN ha hT
    have hc := hch
    rw [hN, Ch.split] at hc
    have hb := hc.2.2.1
    refine .s (.aloadN a6_13 rfl rfl) <| .s (.getF 0 a6_14 (wd hw 39 rfl) hb rfl) ?_
    show WGo _ (17, [wR 0, wI it, wR a.1, wR b.1], [(.long b.2)], σ, u) _
    refine .s (.iloadN a6_17 rfl) <| .s (.i2l a6_18) <| .s (.lcmp a6_19) ?_
    refine .geL a6_20 (fun h20 => ?_) (fun h20 => ?_)
    · refine .s (.newO (k := σ.length) [(lwP, .null), (lwC, .null)] a6_33 (wd hw 40 rfl) (wd hw 41 rfl) (wd hw 42 rfl) ⟨⟨Or.inr (wd hw 53 rfl), (.object "antecede/sets/LazySet$Node"), by decide, rfl⟩, ⟨Or.inr (wd hw 55 rfl), (.object "antecede/sets/LazySet$Node"), by decide, rfl⟩, trivial⟩ (by decide) rfl (by omega)) ?_
      show WGo _ (36, [wR 0, wI it, wR a.1, wR b.1], [.ref σ.length], (σ ++ [win .null .null]), (u + 2)) _
      refine .s (.dup a6_36 rfl) <| .s (.aloadN a6_37 rfl rfl) <| .s (.aloadN a6_38 rfl rfl) ?_
      refine .callIR (k := σ.length) a6_39 (ok7 hw _ _ _ _) rfl rfl (wd hw 43 rfl) (wd hw 44 rfl) (by omega) (argsL := [.ref a.1, .ref b.1]) (S := [.ref σ.length]) (cWin hw _ _ σ.length a.1 b.1 (by omega) _ hp_new _) rfl rfl rfl rfl rfl rfl (Nat.le_of_ble_eq_true rfl) (Nat.le_of_ble_eq_true rfl) ?_
      rintro _ _ _ ⟨rfl, rfl, rfl⟩
      rw [set_new]
      show WGo _ (42, [wR 0, wI it, wR a.1, wR b.1], [.ref σ.length], (σ ++ [win (.ref a.1) (.ref b.1)]), (u + 2)) _
      refine .areturn (.object "antecede/sets/LazySet$Window") a6_42 rfl rfl rfl ?_
      exact ⟨P, a, b, _, ⟨hN, ha, h20⟩, rfl, rfl, rfl⟩
    · refine .s (.aloadN a6_23 rfl rfl) <| .s (.astoreN (L' := [wR 0, wI it, wR b.1, wR b.1]) a6_24 rfl rfl) <| .s (.aloadN a6_25 rfl rfl) <| .s (.getF 1 a6_26 (wd hw 38 rfl) hb rfl) ?_
      show WGo _ (29, [wR 0, wI it, wR b.1, wR b.1], [.ref c.1], σ, u) _
      refine .s (.astoreN (L' := [wR 0, wI it, wR b.1, wR c.1]) a6_29 rfl rfl) <| .s (.goto a6_30) ?_
      exact ih (P ++ [a]) b c (by rw [hN]; simp) h20 hT
set_option maxHeartbeats 4000000 in
theorem cWalk {Z : State} {a0 : Array Value} (hw : ∀ d ∈ tables_1, d.before a0 Z = true) (ρ : Nat → Nat) (n0 : Nat × List Nat) (N : List Nd) (it : Int32) (σ : WHp) (I : Inv σ N) (u : Nat) : WGo (g6 Z ρ n0 σ.length u) (0, [wR 0, wI it, wU, wU], [], σ, u) (fun v σ' u' => ∃ P a b R, Cut N it.toInt64 P a b R ∧ v = some (.ref σ.length) ∧ σ ++ [win (.ref a.1) (.ref b.1)] = σ' ∧ u + 2 = u') := by
  obtain ⟨x, N', hN, hx, hne⟩ := I.bot
  cases N' with
  | nil => exact absurd rfl hne
  | cons b R =>
  have hc := I.ch
  rw [hN] at hc
  have h1 := hc.1
  refine .s (.aloadN a6_0 rfl rfl) <| .s (.getF 0 a6_1 (wd hw 27 rfl) I.obj rfl) ?_
  show WGo _ (4, [wR 0, wI it, wU, wU], [.ref 1], σ, u) _
  refine .s (.astoreN (L' := [wR 0, wI it, wR 1, wU]) a6_4 rfl rfl) <| .s (.aloadN a6_5 rfl rfl) <| .s (.getF 0 a6_6 (wd hw 27 rfl) I.obj rfl) ?_
  show WGo _ (9, [wR 0, wI it, wR 1, wU], [.ref 1], σ, u) _
  refine .s (.getF 1 a6_9 (wd hw 38 rfl) h1 rfl) ?_
  show WGo _ (12, [wR 0, wI it, wR 1, wU], [.ref b.1], σ, u) _
  refine .s (.astoreN (L' := [wR 0, wI it, wR 1, wR b.1]) a6_12 rfl rfl) ?_
  exact wloop hw ρ n0 N it σ I.len I.ch (I.top it) u R [] (1, x) b hN (hx it) (by have := I.top it; rw [hN] at this; exact this)
set_option maxHeartbeats 4000000 in
theorem cUnch {Z : State} {a0 : Array Value} (hw : ∀ d ∈ tables_1, d.before a0 Z = true) (ρ : Nat → Nat) (n0 : Nat × List Nat) (i j : Nat) (x y : Int64) (v0 : Value) (σ : WHp) (ha : σ[i]? = some (nd x (.ref j) 0)) (hb : σ[j]? = some (nd y v0 0)) (u : Nat) : WGo (g11 Z ρ n0 σ.length u) (0, [wR i, wR j], [], σ, u) (fun v σ' u' => v = some (.int 1) ∧ σ = σ' ∧ u = u') := by
  refine .s (.aloadN a11_0 rfl rfl) <| .s (.getF 2 a11_1 (wd hw 69 rfl) ha rfl) ?_
  show WGo _ (4, [wR i, wR j], [.int 0], σ, u) _
  refine .s (.ifF a11_4 (by decide)) <| .s (.aloadN a11_7 rfl rfl) <| .s (.getF 2 a11_8 (wd hw 69 rfl) hb rfl) ?_
  show WGo _ (11, [wR i, wR j], [.int 0], σ, u) _
  refine .s (.ifF a11_11 (by decide)) <| .s (.aloadN a11_14 rfl rfl) <| .s (.getF 1 a11_15 (wd hw 38 rfl) ha rfl) ?_
  show WGo _ (18, [wR i, wR j], [.ref j], σ, u) _
  refine .s (.aloadN a11_18 rfl rfl) <| .s (.acmp true 22 a11_19 rfl rfl (by simp) rfl) <| .s (.iconst (1 : Int32) a11_22 rfl) <| .s (.goto a11_23) ?_
  refine .ireturn .boolean a11_27 rfl (by simp) ?_
  exact ⟨rfl, rfl, rfl⟩
set_option maxHeartbeats 4000000 in
theorem kloop {Z : State} {a0 : Array Value} (hw : ∀ d ∈ tables_1, d.before a0 Z = true) (ρ : Nat → Nat) (n0 : Nat × List Nat) (N : List Nd) (it : Int32) (σ : WHp) (I : Inv σ N) (u : Nat) : ∀ (R P : List Nd) (a b : Nd), N = P ++ a :: b :: R → a.2 < it.toInt64 → Top it.toInt64 (b :: R) →
    WGo (g13 Z ρ n0 σ.length u) (5, [wR 0, wI it, wR b.1], [], σ, u) (QB (memN N it.toInt64) σ u) := by
  intro R
  induction R with
  | nil =>
    intro P a b hN ha hT
    have hn : ¬ b.2 < it.toInt64 := fun q => by
      have h2 : it.toInt64 < b.2 := hT
      simp only [Int64.lt_iff_toInt_lt] at q h2
      omega
    have hc := I.ch
    rw [hN, Ch.split] at hc
    obtain ⟨v0, -, hb⟩ := Ch.head hc.2.2
    refine .s (.aloadN a13_5 rfl rfl) <| .s (.getF 0 a13_6 (wd hw 39 rfl) hb rfl) ?_
    show WGo _ (9, [wR 0, wI it, wR b.1], [(.long b.2)], σ, u) _
    refine .s (.iloadN a13_9 rfl) <| .s (.i2l a13_10) <| .s (.lcmp a13_11) <| .s (.ifT a13_12 (flt (fun q => hn ((lw_lt _ _).mp q))).2.1) <| .s (.aloadN a13_23 rfl rfl) <| .s (.getF 0 a13_24 (wd hw 39 rfl) hb rfl) ?_
    show WGo _ (27, [wR 0, wI it, wR b.1], [(.long b.2)], σ, u) _
    refine .s (.iloadN a13_27 rfl) <| .s (.i2l a13_28) <| .s (.lcmp a13_29) ?_
    refine .neL a13_30 (fun h30 => ?_) (fun h30 => ?_)
    · refine .s (.iconst (0 : Int32) a13_44 rfl) ?_
      refine .ireturn .boolean a13_45 rfl (by simp) ?_
      exact QB.no (fun q => h30 ((Cut.mem ⟨hN, ha, hn⟩ I).mp q))
    · refine .s (.aloadN a13_33 rfl rfl) <| .s (.getF 2 a13_34 (wd hw 69 rfl) hb rfl) ?_
      show WGo _ (37, [wR 0, wI it, wR b.1], [.int 0], σ, u) _
      refine .s (.ifF a13_37 (by decide)) <| .s (.iconst (1 : Int32) a13_40 rfl) <| .s (.goto a13_41) ?_
      refine .ireturn .boolean a13_45 rfl (by simp) ?_
      exact QB.yes ((Cut.mem ⟨hN, ha, hn⟩ I).mpr h30)
  | cons c R ih =>
    intro P a b hN ha hT
    have hc := I.ch
    rw [hN, Ch.split] at hc
    have hb := hc.2.2.1
    refine .s (.aloadN a13_5 rfl rfl) <| .s (.getF 0 a13_6 (wd hw 39 rfl) hb rfl) ?_
    show WGo _ (9, [wR 0, wI it, wR b.1], [(.long b.2)], σ, u) _
    refine .s (.iloadN a13_9 rfl) <| .s (.i2l a13_10) <| .s (.lcmp a13_11) ?_
    refine .geL a13_12 (fun h12 => ?_) (fun h12 => ?_)
    · refine .s (.aloadN a13_23 rfl rfl) <| .s (.getF 0 a13_24 (wd hw 39 rfl) hb rfl) ?_
      show WGo _ (27, [wR 0, wI it, wR b.1], [(.long b.2)], σ, u) _
      refine .s (.iloadN a13_27 rfl) <| .s (.i2l a13_28) <| .s (.lcmp a13_29) ?_
      refine .neL a13_30 (fun h30 => ?_) (fun h30 => ?_)
      · refine .s (.iconst (0 : Int32) a13_44 rfl) ?_
        refine .ireturn .boolean a13_45 rfl (by simp) ?_
        have hn := h12
        exact QB.no (fun q => h30 ((Cut.mem ⟨hN, ha, hn⟩ I).mp q))
      · refine .s (.aloadN a13_33 rfl rfl) <| .s (.getF 2 a13_34 (wd hw 69 rfl) hb rfl) ?_
        show WGo _ (37, [wR 0, wI it, wR b.1], [.int 0], σ, u) _
        refine .s (.ifF a13_37 (by decide)) <| .s (.iconst (1 : Int32) a13_40 rfl) <| .s (.goto a13_41) ?_
        refine .ireturn .boolean a13_45 rfl (by simp) ?_
        have hn := h12
        exact QB.yes ((Cut.mem ⟨hN, ha, hn⟩ I).mpr h30)
    · refine .s (.aloadN a13_15 rfl rfl) <| .s (.getF 1 a13_16 (wd hw 38 rfl) hb rfl) ?_
      show WGo _ (19, [wR 0, wI it, wR b.1], [.ref c.1], σ, u) _
      refine .s (.astoreN (L' := [wR 0, wI it, wR c.1]) a13_19 rfl rfl) <| .s (.goto a13_20) ?_
      exact ih (P ++ [a]) b c (by rw [hN]; simp) h12 hT
set_option maxHeartbeats 4000000 in
theorem cCont {Z : State} {a0 : Array Value} (hw : ∀ d ∈ tables_1, d.before a0 Z = true) (ρ : Nat → Nat) (n0 : Nat × List Nat) (N : List Nd) (it : Int32) (σ : WHp) (I : Inv σ N) (u : Nat) : WGo (g13 Z ρ n0 σ.length u) (0, [wR 0, wI it, wU], [], σ, u) (QB (memN N it.toInt64) σ u) := by
  obtain ⟨x, N', hN, hx, hne⟩ := I.bot
  cases N' with
  | nil => exact absurd rfl hne
  | cons b R =>
  have hc := I.ch
  rw [hN] at hc
  have h1 := hc.1
  refine .s (.aloadN a13_0 rfl rfl) <| .s (.getF 0 a13_1 (wd hw 27 rfl) I.obj rfl) ?_
  show WGo _ (4, [wR 0, wI it, wU], [.ref 1], σ, u) _
  refine .s (.astoreN (L' := [wR 0, wI it, wR 1]) a13_4 rfl rfl) <| .s (.aloadN a13_5 rfl rfl) <| .s (.getF 0 a13_6 (wd hw 39 rfl) h1 rfl) ?_
  show WGo _ (9, [wR 0, wI it, wR 1], [(.long x)], σ, u) _
  refine .s (.iloadN a13_9 rfl) <| .s (.i2l a13_10) <| .s (.lcmp a13_11) <| .s (.ifF a13_12 (tlt ((lw_lt _ _).mpr (hx it))).2.1) <| .s (.aloadN a13_15 rfl rfl) <| .s (.getF 1 a13_16 (wd hw 38 rfl) h1 rfl) ?_
  show WGo _ (19, [wR 0, wI it, wR 1], [.ref b.1], σ, u) _
  refine .s (.astoreN (L' := [wR 0, wI it, wR b.1]) a13_19 rfl rfl) <| .s (.goto a13_20) ?_
  exact kloop hw ρ n0 N it σ I u R [] (1, x) b hN (hx it) (by have := I.top it; rw [hN] at this; exact this)
set_option maxHeartbeats 4000000 in
theorem cAdd {Z : State} {a0 : Array Value} (hw : ∀ d ∈ tables_1, d.before a0 Z = true) (ρ : Nat → Nat) (n0 : Nat) (N : List Nd) (it : Int32) (σ : WHp) (I : Inv σ N) (hl : σ.length + 2 ≤ 100) (u : Nat) : WGo (g5 Z ρ (n0, []) σ.length u) (0, [wR 0, wI it, wU, wU, wU, wU, wU, wU, wU, wU], [], σ, u) (fun v σ' u' => (∃ z, v = some (.int z)) ∧ (∃ N', Inv σ' N' ∧ ∀ z, memN N' z ↔ memN N z ∨ z = it.toInt64) ∧ σ'.length ≤ σ.length + 2 ∧ u' ≤ u + 5) := by
  refine .s (.aloadN a5_0 rfl rfl) <| .s (.iloadN a5_1 rfl) ?_
  refine .callP (k := 0) a5_2 (ok6 hw _ _ _ _) (wd hw 34 rfl) (wd hw 35 rfl) (selP (wd hw 6 rfl) (wd hw 35 rfl) (wd hw 36 rfl) (by decide)) (wd hw 36 rfl) I.obj (argsL := [(.int it)]) (S := []) (cWalk hw _ _ N it _ I _) rfl rfl rfl rfl rfl rfl (Nat.le_of_ble_eq_true rfl) (Nat.le_of_ble_eq_true rfl) ?_
  rintro _ _ _ ⟨P, a, b, R, C, rfl, rfl, rfl⟩
  have I1 := I.ext (win (.ref a.1) (.ref b.1)) (by omega)
  have w1 : (σ ++ [win (.ref a.1) (.ref b.1)])[σ.length]? = some (win (.ref a.1) (.ref b.1)) := hp_new
  have l1 : (σ ++ [win (.ref a.1) (.ref b.1)]).length = σ.length + 1 := by simp
  generalize σ ++ [win (.ref a.1) (.ref b.1)] = σ1 at I1 w1 l1 ⊢
  show WGo _ (5, [wR 0, wI it, wU, wU, wU, wU, wU, wU, wU, wU], [.ref σ.length], σ1, (u + 2)) _
  refine .s (.astoreN (L' := [wR 0, wI it, wR σ.length, wU, wU, wU, wU, wU, wU, wU]) a5_5 rfl rfl) <| .s (.aloadN a5_6 rfl rfl) ?_
  refine .callV (k := σ.length) (z := (⟨"antecede/sets/LazySet$Window", "pred", "()Lantecede/sets/LazySet$Node;"⟩ : MethodName)) a5_7 (ok9 hw _ _ _ _) ⟨rfl, by decide⟩ (wd hw 56 rfl) (wd hw 57 rfl) (fun s hZ => notFace_of_selects (args := #[]) (mvT hZ (wd hw 59 rfl))) (wd hw 59 rfl) (wd hw 58 rfl) w1 (argsL := []) (S := []) (cPred hw _ _ σ.length a.1 b.1 _ w1 _) rfl rfl rfl rfl rfl rfl (Nat.le_of_ble_eq_true rfl) (Nat.le_of_ble_eq_true rfl) ?_
  rintro _ _ _ ⟨rfl, rfl, rfl⟩
  show WGo _ (10, [wR 0, wI it, wR σ.length, wU, wU, wU, wU, wU, wU, wU], [.ref a.1], σ1, (u + 2)) _
  refine .s (.astoreN (L' := [wR 0, wI it, wR σ.length, wR a.1, wU, wU, wU, wU, wU, wU]) a5_10 rfl rfl) <| .s (.aloadN a5_11 rfl rfl) ?_
  refine .callV (k := σ.length) (z := (⟨"antecede/sets/LazySet$Window", "curr", "()Lantecede/sets/LazySet$Node;"⟩ : MethodName)) a5_12 (ok10 hw _ _ _ _) ⟨rfl, by decide⟩ (wd hw 61 rfl) (wd hw 62 rfl) (fun s hZ => notFace_of_selects (args := #[]) (mvT hZ (wd hw 64 rfl))) (wd hw 64 rfl) (wd hw 63 rfl) w1 (argsL := []) (S := []) (cCurr hw _ _ σ.length a.1 b.1 _ w1 _) rfl rfl rfl rfl rfl rfl (Nat.le_of_ble_eq_true rfl) (Nat.le_of_ble_eq_true rfl) ?_
  rintro _ _ _ ⟨rfl, rfl, rfl⟩
  show WGo _ (15, [wR 0, wI it, wR σ.length, wR a.1, wU, wU, wU, wU, wU, wU], [.ref b.1], σ1, (u + 2)) _
  refine .s (.astore (L' := [wR 0, wI it, wR σ.length, wR a.1, wR b.1, wU, wU, wU, wU, wU]) a5_15 rfl rfl) <| .s (.aloadN a5_17 rfl rfl) <| .s (.dup a5_18 rfl) <| .s (.astore (L' := [wR 0, wI it, wR σ.length, wR a.1, wR b.1, wR a.1, wU, wU, wU, wU]) a5_19 rfl rfl) ?_
  have hc := I1.ch
  rw [C.eq, Ch.split] at hc
  have ha : σ1[a.1]? = some (nd a.2 (.ref b.1) 0) := hc.2.1
  obtain ⟨v0, hv0, hb⟩ := Ch.head hc.2.2
  have hx := I1.ix
  rw [C.eq, List.map_append, List.nodup_append] at hx
  have hab : ¬ b.1 = a.1 := fun q => by
    have q2 := hx.2.1
    simp only [List.map_cons, List.nodup_cons, List.mem_cons, not_or] at q2
    exact q2.1.1 q.symm
  have la : a.1 < σ.length := by have := I.ch.lt a (by rw [C.eq]; simp); exact this
  have lb : b.1 < σ.length := by have := I.ch.lt b (by rw [C.eq]; simp); exact this
  by_cases hq : b.2 = it.toInt64
  · have hin : WCo (((g5 Z ρ (n0, []) σ.length u).lk a.1 1).lk b.1 2) (28, [wR 0, wI it, wR σ.length, wR a.1, wR b.1, wR a.1, wR b.1, wU, wU, wU], [], σ1, (u + 2)) (fun B => B = (79, [wR 0, wI it, wR σ.length, wR a.1, wR b.1, wR a.1, wR b.1, wI 0, wU, wU], [.ref b.1, .int 0], σ1, (u + 2))) := by
      refine WCo.s (WStep.aloadN a5_28 rfl rfl) ?_
      refine WCo.s (WStep.aload a5_29 rfl rfl) ?_
      refine WCo.callS a5_31 (ok11 hw _ _ _ _) (wd hw 66 rfl) (wd hw 67 rfl) (argsL := [.ref a.1, .ref b.1]) (S := []) (cUnch hw _ _ a.1 b.1 a.2 b.2 _ _ ha hb _) rfl rfl rfl rfl rfl rfl (Nat.le_of_ble_eq_true rfl) (Nat.le_of_ble_eq_true rfl) ?_
      rintro _ _ _ ⟨rfl, rfl, rfl⟩
      show WCo _ (34, [wR 0, wI it, wR σ.length, wR a.1, wR b.1, wR a.1, wR b.1, wU, wU, wU], [.int 1], σ1, (u + 2)) _
      refine WCo.s (WStep.ifF a5_34 (by decide)) ?_
      refine WCo.s (WStep.aload a5_37 rfl rfl) ?_
      refine WCo.s (WStep.getF 0 a5_39 (wd hw 39 rfl) hb rfl) ?_
      show WCo _ (42, [wR 0, wI it, wR σ.length, wR a.1, wR b.1, wR a.1, wR b.1, wU, wU, wU], [(.long b.2)], σ1, (u + 2)) _
      refine WCo.s (WStep.iloadN a5_42 rfl) ?_
      refine WCo.s (WStep.i2l a5_43) ?_
      refine WCo.s (WStep.lcmp a5_44) ?_
      refine WCo.s (WStep.ifT a5_45 (teq ((lw_eq _ _).mpr hq)).1) ?_
      refine WCo.s (WStep.iconst (0 : Int32) a5_52 rfl) ?_
      refine WCo.s (WStep.istore (L' := [wR 0, wI it, wR σ.length, wR a.1, wR b.1, wR a.1, wR b.1, wI 0, wU, wU]) a5_53 rfl) ?_
      refine WCo.s (WStep.iload a5_55 rfl) ?_
      refine WCo.s (WStep.ifT a5_57 (by decide)) ?_
      refine WCo.s (WStep.iload a5_75 rfl) ?_
      refine WCo.s (WStep.aload a5_77 rfl rfl) ?_
      exact WCo.here rfl
    obtain ⟨_, rfl, hin⟩ := hin
    refine .s2 (r := 2) (WStep2.sync (k := a.1) (r1 := 1) (L' := [wR 0, wI it, wR σ.length, wR a.1, wR b.1, wR a.1, wR b.1, wI 0, wU, wU]) (σ' := σ1) (u' := (u + 2)) (S := []) (S' := [.int 0]) a5_21 a5_82 rfl ha ha la (show a.1 ∉ ([] : List Nat) from List.not_mem_nil) (show "add" ≠ "<clinit>" by decide) rfl rfl (Nat.le_of_ble_eq_true rfl)
      (WStep2.post (WStep2.pre (B := (27, [wR 0, wI it, wR σ.length, wR a.1, wR b.1, wR a.1, wR b.1, wU, wU, wU], [.ref b.1], σ1, (u + 2))) ?_ (WStep2.sync (k := b.1) (r1 := 2) (L' := [wR 0, wI it, wR σ.length, wR a.1, wR b.1, wR a.1, wR b.1, wI 0, wU, wU]) (σ' := σ1) (u' := (u + 2)) (S := []) (S' := [.int 0]) a5_27 a5_79 rfl hb hb lb (fun q => hab (List.mem_singleton.mp q)) (show "add" ≠ "<clinit>" by decide) rfl rfl (Nat.le_of_ble_eq_true rfl) hin)) ?_)) ?_
    · have h : WCo ((g5 Z ρ (n0, []) σ.length u).lk a.1 1) (22, [wR 0, wI it, wR σ.length, wR a.1, wR b.1, wR a.1, wU, wU, wU, wU], [], σ1, (u + 2)) (fun B => B = (27, [wR 0, wI it, wR σ.length, wR a.1, wR b.1, wR a.1, wR b.1, wU, wU, wU], [.ref b.1], σ1, (u + 2))) := by
        refine WCo.s (WStep.aload a5_22 rfl rfl) ?_
        refine WCo.s (WStep.dup a5_24 rfl) ?_
        refine WCo.s (WStep.astore (L' := [wR 0, wI it, wR σ.length, wR a.1, wR b.1, wR a.1, wR b.1, wU, wU, wU]) a5_25 rfl rfl) ?_
        exact WCo.here rfl
      obtain ⟨_, rfl, h⟩ := h
      exact h
    · exact WStep.aload a5_80 rfl rfl
    · refine .ireturnM .boolean a5_83 rfl (by simp) rfl ?_
      exact ⟨⟨_, rfl⟩, ⟨N, I1, fun z => ⟨Or.inl, fun h => h.elim id fun q => by rw [q]; exact (C.mem I1).mpr hq⟩⟩, by omega, by omega⟩
  · have hin : WCo (((g5 Z ρ (n0, []) σ.length u).lk a.1 1).lk b.1 2) (28, [wR 0, wI it, wR σ.length, wR a.1, wR b.1, wR a.1, wR b.1, wU, wU, wU], [], σ1, (u + 2)) (fun B => B = (79, [wR 0, wI it, wR σ.length, wR a.1, wR b.1, wR a.1, wR b.1, wI 1, wU, wU], [.ref b.1, .int 1], ((σ1 ++ [nd it.toInt64 (.ref b.1) 0]).set a.1 (nd a.2 (.ref σ1.length) 0)), (u + 2 + 3))) := by
      refine WCo.s (WStep.aloadN a5_28 rfl rfl) ?_
      refine WCo.s (WStep.aload a5_29 rfl rfl) ?_
      refine WCo.callS a5_31 (ok11 hw _ _ _ _) (wd hw 66 rfl) (wd hw 67 rfl) (argsL := [.ref a.1, .ref b.1]) (S := []) (cUnch hw _ _ a.1 b.1 a.2 b.2 _ _ ha hb _) rfl rfl rfl rfl rfl rfl (Nat.le_of_ble_eq_true rfl) (Nat.le_of_ble_eq_true rfl) ?_
      rintro _ _ _ ⟨rfl, rfl, rfl⟩
      show WCo _ (34, [wR 0, wI it, wR σ.length, wR a.1, wR b.1, wR a.1, wR b.1, wU, wU, wU], [.int 1], σ1, (u + 2)) _
      refine WCo.s (WStep.ifF a5_34 (by decide)) ?_
      refine WCo.s (WStep.aload a5_37 rfl rfl) ?_
      refine WCo.s (WStep.getF 0 a5_39 (wd hw 39 rfl) hb rfl) ?_
      show WCo _ (42, [wR 0, wI it, wR σ.length, wR a.1, wR b.1, wR a.1, wR b.1, wU, wU, wU], [(.long b.2)], σ1, (u + 2)) _
      refine WCo.s (WStep.iloadN a5_42 rfl) ?_
      refine WCo.s (WStep.i2l a5_43) ?_
      refine WCo.s (WStep.lcmp a5_44) ?_
      refine WCo.s (WStep.ifF a5_45 (feq (fun q => hq ((lw_eq _ _).mp q))).1) ?_
      refine WCo.s (WStep.iconst (1 : Int32) a5_48 rfl) ?_
      refine WCo.s (WStep.goto a5_49) ?_
      refine WCo.s (WStep.istore (L' := [wR 0, wI it, wR σ.length, wR a.1, wR b.1, wR a.1, wR b.1, wI 1, wU, wU]) a5_53 rfl) ?_
      refine WCo.s (WStep.iload a5_55 rfl) ?_
      refine WCo.s (WStep.ifF a5_57 (by decide)) ?_
      refine WCo.s (WStep.aloadN a5_60 rfl rfl) ?_
      refine WCo.s (WStep.newO (k := σ1.length) [(lkK, .long 0), (lkN, .null), (lkM, .int 0)] a5_61 (wd hw 14 rfl) (wd hw 15 rfl) (wd hw 16 rfl) ⟨⟨Or.inr (wd hw 24 rfl), .long, by decide, rfl⟩, ⟨Or.inl (wd hw 26 rfl), (.object "antecede/sets/LazySet$Node"), by decide, rfl⟩, ⟨Or.inl (wd hw 70 rfl), .boolean, by decide, rfl⟩, trivial⟩ (by decide) rfl (by omega)) ?_
      show WCo _ (64, [wR 0, wI it, wR σ.length, wR a.1, wR b.1, wR a.1, wR b.1, wI 1, wU, wU], [.ref σ1.length, .ref a.1], (σ1 ++ [nd 0 .null 0]), ((u + 2) + 3)) _
      refine WCo.s (WStep.dup a5_64 rfl) ?_
      refine WCo.s (WStep.iloadN a5_65 rfl) ?_
      refine WCo.s (WStep.i2l a5_66) ?_
      refine WCo.s (WStep.aload a5_67 rfl rfl) ?_
      refine WCo.callI (k := σ1.length) a5_69 (ok4 hw _ _ _ _) rfl rfl (wd hw 19 rfl) (wd hw 20 rfl) (by omega) (argsL := [(.long (it.toInt64)), .ref b.1]) (S := [.ref σ1.length, .ref a.1]) (cNodeR hw _ _ σ1.length b.1 it.toInt64 _ hp_new _) rfl rfl rfl rfl rfl rfl (Nat.le_of_ble_eq_true rfl) (Nat.le_of_ble_eq_true rfl) ?_
      rintro _ _ _ ⟨rfl, rfl, rfl⟩
      rw [set_new]
      show WCo _ (72, [wR 0, wI it, wR σ.length, wR a.1, wR b.1, wR a.1, wR b.1, wI 1, wU, wU], [.ref σ1.length, .ref a.1], (σ1 ++ [nd it.toInt64 (.ref b.1) 0]), ((u + 2) + 3)) _
      refine WCo.s (WStep.putF (ty := (.object "antecede/sets/LazySet$Node")) 1 (.ref σ1.length) a5_72 (wd hw 38 rfl) (get_app ha) rfl (Or.inl (wd hw 26 rfl)) (wd hw 15 rfl) (by decide) rfl rfl) ?_
      show WCo _ (75, [wR 0, wI it, wR σ.length, wR a.1, wR b.1, wR a.1, wR b.1, wI 1, wU, wU], [], ((σ1 ++ [nd it.toInt64 (.ref b.1) 0]).set a.1 (nd a.2 (.ref σ1.length) 0)), ((u + 2) + 3)) _
      refine WCo.s (WStep.iload a5_75 rfl) ?_
      refine WCo.s (WStep.aload a5_77 rfl rfl) ?_
      exact WCo.here rfl
    obtain ⟨_, rfl, hin⟩ := hin
    refine .s2 (r := 2) (WStep2.sync (k := a.1) (r1 := 1) (L' := [wR 0, wI it, wR σ.length, wR a.1, wR b.1, wR a.1, wR b.1, wI 1, wU, wU]) (σ' := ((σ1 ++ [nd it.toInt64 (.ref b.1) 0]).set a.1 (nd a.2 (.ref σ1.length) 0))) (u' := (u + 2 + 3)) (S := []) (S' := [.int 1]) a5_21 a5_82 rfl ha (get_set_eq (get_app ha)) la (show a.1 ∉ ([] : List Nat) from List.not_mem_nil) (show "add" ≠ "<clinit>" by decide) rfl rfl (Nat.le_of_ble_eq_true rfl)
      (WStep2.post (WStep2.pre (B := (27, [wR 0, wI it, wR σ.length, wR a.1, wR b.1, wR a.1, wR b.1, wU, wU, wU], [.ref b.1], σ1, (u + 2))) ?_ (WStep2.sync (k := b.1) (r1 := 2) (L' := [wR 0, wI it, wR σ.length, wR a.1, wR b.1, wR a.1, wR b.1, wI 1, wU, wU]) (σ' := ((σ1 ++ [nd it.toInt64 (.ref b.1) 0]).set a.1 (nd a.2 (.ref σ1.length) 0))) (u' := (u + 2 + 3)) (S := []) (S' := [.int 1]) a5_27 a5_79 rfl hb ((get_set_ne (fun q => hab q.symm)).trans (get_app hb)) lb (fun q => hab (List.mem_singleton.mp q)) (show "add" ≠ "<clinit>" by decide) rfl rfl (Nat.le_of_ble_eq_true rfl) hin)) ?_)) ?_
    · have h : WCo ((g5 Z ρ (n0, []) σ.length u).lk a.1 1) (22, [wR 0, wI it, wR σ.length, wR a.1, wR b.1, wR a.1, wU, wU, wU, wU], [], σ1, (u + 2)) (fun B => B = (27, [wR 0, wI it, wR σ.length, wR a.1, wR b.1, wR a.1, wR b.1, wU, wU, wU], [.ref b.1], σ1, (u + 2))) := by
        refine WCo.s (WStep.aload a5_22 rfl rfl) ?_
        refine WCo.s (WStep.dup a5_24 rfl) ?_
        refine WCo.s (WStep.astore (L' := [wR 0, wI it, wR σ.length, wR a.1, wR b.1, wR a.1, wR b.1, wU, wU, wU]) a5_25 rfl rfl) ?_
        exact WCo.here rfl
      obtain ⟨_, rfl, h⟩ := h
      exact h
    · exact WStep.aload a5_80 rfl rfl
    · refine .ireturnM .boolean a5_83 rfl (by simp) rfl ?_
      obtain ⟨I2, hm⟩ := I1.insert C hq (by omega)
      exact ⟨⟨_, rfl⟩, ⟨_, I2, hm⟩, by simp; omega, by omega⟩
set_option maxHeartbeats 4000000 in
theorem cRem {Z : State} {a0 : Array Value} (hw : ∀ d ∈ tables_1, d.before a0 Z = true) (ρ : Nat → Nat) (n0 : Nat) (N : List Nd) (it : Int32) (σ : WHp) (I : Inv σ N) (hl : σ.length + 2 ≤ 100) (u : Nat) : WGo (g12 Z ρ (n0, []) σ.length u) (0, [wR 0, wI it, wU, wU, wU, wU, wU, wU, wU, wU], [], σ, u) (fun v σ' u' => (∃ z, v = some (.int z)) ∧ (∃ N', Inv σ' N' ∧ ∀ z, memN N' z ↔ memN N z ∧ ¬ z = it.toInt64) ∧ σ'.length ≤ σ.length + 2 ∧ u' ≤ u + 5) := by
  refine .s (.aloadN a12_0 rfl rfl) <| .s (.iloadN a12_1 rfl) ?_
  refine .callP (k := 0) a12_2 (ok6 hw _ _ _ _) (wd hw 34 rfl) (wd hw 35 rfl) (selP (wd hw 6 rfl) (wd hw 35 rfl) (wd hw 36 rfl) (by decide)) (wd hw 36 rfl) I.obj (argsL := [(.int it)]) (S := []) (cWalk hw _ _ N it _ I _) rfl rfl rfl rfl rfl rfl (Nat.le_of_ble_eq_true rfl) (Nat.le_of_ble_eq_true rfl) ?_
  rintro _ _ _ ⟨P, a, b, R, C, rfl, rfl, rfl⟩
  have I1 := I.ext (win (.ref a.1) (.ref b.1)) (by omega)
  have w1 : (σ ++ [win (.ref a.1) (.ref b.1)])[σ.length]? = some (win (.ref a.1) (.ref b.1)) := hp_new
  have l1 : (σ ++ [win (.ref a.1) (.ref b.1)]).length = σ.length + 1 := by simp
  generalize σ ++ [win (.ref a.1) (.ref b.1)] = σ1 at I1 w1 l1 ⊢
  show WGo _ (5, [wR 0, wI it, wU, wU, wU, wU, wU, wU, wU, wU], [.ref σ.length], σ1, (u + 2)) _
  refine .s (.astoreN (L' := [wR 0, wI it, wR σ.length, wU, wU, wU, wU, wU, wU, wU]) a12_5 rfl rfl) <| .s (.aloadN a12_6 rfl rfl) ?_
  refine .callV (k := σ.length) (z := (⟨"antecede/sets/LazySet$Window", "pred", "()Lantecede/sets/LazySet$Node;"⟩ : MethodName)) a12_7 (ok9 hw _ _ _ _) ⟨rfl, by decide⟩ (wd hw 56 rfl) (wd hw 57 rfl) (fun s hZ => notFace_of_selects (args := #[]) (mvT hZ (wd hw 59 rfl))) (wd hw 59 rfl) (wd hw 58 rfl) w1 (argsL := []) (S := []) (cPred hw _ _ σ.length a.1 b.1 _ w1 _) rfl rfl rfl rfl rfl rfl (Nat.le_of_ble_eq_true rfl) (Nat.le_of_ble_eq_true rfl) ?_
  rintro _ _ _ ⟨rfl, rfl, rfl⟩
  show WGo _ (10, [wR 0, wI it, wR σ.length, wU, wU, wU, wU, wU, wU, wU], [.ref a.1], σ1, (u + 2)) _
  refine .s (.astoreN (L' := [wR 0, wI it, wR σ.length, wR a.1, wU, wU, wU, wU, wU, wU]) a12_10 rfl rfl) <| .s (.aloadN a12_11 rfl rfl) ?_
  refine .callV (k := σ.length) (z := (⟨"antecede/sets/LazySet$Window", "curr", "()Lantecede/sets/LazySet$Node;"⟩ : MethodName)) a12_12 (ok10 hw _ _ _ _) ⟨rfl, by decide⟩ (wd hw 61 rfl) (wd hw 62 rfl) (fun s hZ => notFace_of_selects (args := #[]) (mvT hZ (wd hw 64 rfl))) (wd hw 64 rfl) (wd hw 63 rfl) w1 (argsL := []) (S := []) (cCurr hw _ _ σ.length a.1 b.1 _ w1 _) rfl rfl rfl rfl rfl rfl (Nat.le_of_ble_eq_true rfl) (Nat.le_of_ble_eq_true rfl) ?_
  rintro _ _ _ ⟨rfl, rfl, rfl⟩
  show WGo _ (15, [wR 0, wI it, wR σ.length, wR a.1, wU, wU, wU, wU, wU, wU], [.ref b.1], σ1, (u + 2)) _
  refine .s (.astore (L' := [wR 0, wI it, wR σ.length, wR a.1, wR b.1, wU, wU, wU, wU, wU]) a12_15 rfl rfl) <| .s (.aloadN a12_17 rfl rfl) <| .s (.dup a12_18 rfl) <| .s (.astore (L' := [wR 0, wI it, wR σ.length, wR a.1, wR b.1, wR a.1, wU, wU, wU, wU]) a12_19 rfl rfl) ?_
  have hc := I1.ch
  rw [C.eq, Ch.split] at hc
  have ha : σ1[a.1]? = some (nd a.2 (.ref b.1) 0) := hc.2.1
  obtain ⟨v0, hv0, hb⟩ := Ch.head hc.2.2
  have hx := I1.ix
  rw [C.eq, List.map_append, List.nodup_append] at hx
  have hab : ¬ b.1 = a.1 := fun q => by
    have q2 := hx.2.1
    simp only [List.map_cons, List.nodup_cons, List.mem_cons, not_or] at q2
    exact q2.1.1 q.symm
  have la : a.1 < σ.length := by have := I.ch.lt a (by rw [C.eq]; simp); exact this
  have lb : b.1 < σ.length := by have := I.ch.lt b (by rw [C.eq]; simp); exact this
  by_cases hq : b.2 = it.toInt64
  · obtain ⟨c, R', hR, hv, I2, hm⟩ := I1.remove C hq hb
    obtain ⟨c0, rfl⟩ : ∃ c0, v0 = .ref c0 := ⟨_, hv⟩
    have hin : WCo (((g12 Z ρ (n0, []) σ.length u).lk a.1 1).lk b.1 2) (28, [wR 0, wI it, wR σ.length, wR a.1, wR b.1, wR a.1, wR b.1, wU, wU, wU], [], σ1, (u + 2)) (fun B => B = (79, [wR 0, wI it, wR σ.length, wR a.1, wR b.1, wR a.1, wR b.1, wI 1, wU, wU], [.ref b.1, .int 1], ((σ1.set b.1 (nd b.2 (.ref c0) 1)).set a.1 (nd a.2 (.ref c0) 0)), (u + 2))) := by
      refine WCo.s (WStep.aloadN a12_28 rfl rfl) ?_
      refine WCo.s (WStep.aload a12_29 rfl rfl) ?_
      refine WCo.callS a12_31 (ok11 hw _ _ _ _) (wd hw 66 rfl) (wd hw 67 rfl) (argsL := [.ref a.1, .ref b.1]) (S := []) (cUnch hw _ _ a.1 b.1 a.2 b.2 _ _ ha hb _) rfl rfl rfl rfl rfl rfl (Nat.le_of_ble_eq_true rfl) (Nat.le_of_ble_eq_true rfl) ?_
      rintro _ _ _ ⟨rfl, rfl, rfl⟩
      show WCo _ (34, [wR 0, wI it, wR σ.length, wR a.1, wR b.1, wR a.1, wR b.1, wU, wU, wU], [.int 1], σ1, (u + 2)) _
      refine WCo.s (WStep.ifF a12_34 (by decide)) ?_
      refine WCo.s (WStep.aload a12_37 rfl rfl) ?_
      refine WCo.s (WStep.getF 0 a12_39 (wd hw 39 rfl) hb rfl) ?_
      show WCo _ (42, [wR 0, wI it, wR σ.length, wR a.1, wR b.1, wR a.1, wR b.1, wU, wU, wU], [(.long b.2)], σ1, (u + 2)) _
      refine WCo.s (WStep.iloadN a12_42 rfl) ?_
      refine WCo.s (WStep.i2l a12_43) ?_
      refine WCo.s (WStep.lcmp a12_44) ?_
      refine WCo.s (WStep.ifF a12_45 (teq ((lw_eq _ _).mpr hq)).2) ?_
      refine WCo.s (WStep.iconst (1 : Int32) a12_48 rfl) ?_
      refine WCo.s (WStep.goto a12_49) ?_
      refine WCo.s (WStep.istore (L' := [wR 0, wI it, wR σ.length, wR a.1, wR b.1, wR a.1, wR b.1, wI 1, wU, wU]) a12_53 rfl) ?_
      refine WCo.s (WStep.iload a12_55 rfl) ?_
      refine WCo.s (WStep.ifF a12_57 (by decide)) ?_
      refine WCo.s (WStep.aload a12_60 rfl rfl) ?_
      refine WCo.s (WStep.iconst (1 : Int32) a12_62 rfl) ?_
      refine WCo.s (WStep.putF (ty := .boolean) 2 (.int 1) a12_63 (wd hw 69 rfl) hb rfl (Or.inl (wd hw 70 rfl)) (wd hw 15 rfl) (by decide) rfl rfl) ?_
      show WCo _ (66, [wR 0, wI it, wR σ.length, wR a.1, wR b.1, wR a.1, wR b.1, wI 1, wU, wU], [], (σ1.set b.1 (nd b.2 (.ref c0) 1)), (u + 2)) _
      refine WCo.s (WStep.aloadN a12_66 rfl rfl) ?_
      refine WCo.s (WStep.aload a12_67 rfl rfl) ?_
      refine WCo.s (WStep.getF 1 a12_69 (wd hw 38 rfl) (get_set_eq hb) rfl) ?_
      show WCo _ (72, [wR 0, wI it, wR σ.length, wR a.1, wR b.1, wR a.1, wR b.1, wI 1, wU, wU], [.ref c0, .ref a.1], (σ1.set b.1 (nd b.2 (.ref c0) 1)), (u + 2)) _
      refine WCo.s (WStep.putF (ty := (.object "antecede/sets/LazySet$Node")) 1 (.ref c0) a12_72 (wd hw 38 rfl) ((get_set_ne hab).trans ha) rfl (Or.inl (wd hw 26 rfl)) (wd hw 15 rfl) (by decide) rfl rfl) ?_
      show WCo _ (75, [wR 0, wI it, wR σ.length, wR a.1, wR b.1, wR a.1, wR b.1, wI 1, wU, wU], [], ((σ1.set b.1 (nd b.2 (.ref c0) 1)).set a.1 (nd a.2 (.ref c0) 0)), (u + 2)) _
      refine WCo.s (WStep.iload a12_75 rfl) ?_
      refine WCo.s (WStep.aload a12_77 rfl rfl) ?_
      exact WCo.here rfl
    obtain ⟨_, rfl, hin⟩ := hin
    refine .s2 (r := 2) (WStep2.sync (k := a.1) (r1 := 1) (L' := [wR 0, wI it, wR σ.length, wR a.1, wR b.1, wR a.1, wR b.1, wI 1, wU, wU]) (σ' := ((σ1.set b.1 (nd b.2 (.ref c0) 1)).set a.1 (nd a.2 (.ref c0) 0))) (u' := (u + 2)) (S := []) (S' := [.int 1]) a12_21 a12_82 rfl ha (get_set_eq ((get_set_ne hab).trans ha)) la (show a.1 ∉ ([] : List Nat) from List.not_mem_nil) (show "remove" ≠ "<clinit>" by decide) rfl rfl (Nat.le_of_ble_eq_true rfl)
      (WStep2.post (WStep2.pre (B := (27, [wR 0, wI it, wR σ.length, wR a.1, wR b.1, wR a.1, wR b.1, wU, wU, wU], [.ref b.1], σ1, (u + 2))) ?_ (WStep2.sync (k := b.1) (r1 := 2) (L' := [wR 0, wI it, wR σ.length, wR a.1, wR b.1, wR a.1, wR b.1, wI 1, wU, wU]) (σ' := ((σ1.set b.1 (nd b.2 (.ref c0) 1)).set a.1 (nd a.2 (.ref c0) 0))) (u' := (u + 2)) (S := []) (S' := [.int 1]) a12_27 a12_79 rfl hb ((get_set_ne (fun q => hab q.symm)).trans (get_set_eq hb)) lb (fun q => hab (List.mem_singleton.mp q)) (show "remove" ≠ "<clinit>" by decide) rfl rfl (Nat.le_of_ble_eq_true rfl) hin)) ?_)) ?_
    · have h : WCo ((g12 Z ρ (n0, []) σ.length u).lk a.1 1) (22, [wR 0, wI it, wR σ.length, wR a.1, wR b.1, wR a.1, wU, wU, wU, wU], [], σ1, (u + 2)) (fun B => B = (27, [wR 0, wI it, wR σ.length, wR a.1, wR b.1, wR a.1, wR b.1, wU, wU, wU], [.ref b.1], σ1, (u + 2))) := by
        refine WCo.s (WStep.aload a12_22 rfl rfl) ?_
        refine WCo.s (WStep.dup a12_24 rfl) ?_
        refine WCo.s (WStep.astore (L' := [wR 0, wI it, wR σ.length, wR a.1, wR b.1, wR a.1, wR b.1, wU, wU, wU]) a12_25 rfl rfl) ?_
        exact WCo.here rfl
      obtain ⟨_, rfl, h⟩ := h
      exact h
    · exact WStep.aload a12_80 rfl rfl
    · refine .ireturnM .boolean a12_83 rfl (by simp) rfl ?_
      exact ⟨⟨_, rfl⟩, ⟨_, I2, hm⟩, by simp; omega, by omega⟩
  · have hin : WCo (((g12 Z ρ (n0, []) σ.length u).lk a.1 1).lk b.1 2) (28, [wR 0, wI it, wR σ.length, wR a.1, wR b.1, wR a.1, wR b.1, wU, wU, wU], [], σ1, (u + 2)) (fun B => B = (79, [wR 0, wI it, wR σ.length, wR a.1, wR b.1, wR a.1, wR b.1, wI 0, wU, wU], [.ref b.1, .int 0], σ1, (u + 2))) := by
      refine WCo.s (WStep.aloadN a12_28 rfl rfl) ?_
      refine WCo.s (WStep.aload a12_29 rfl rfl) ?_
      refine WCo.callS a12_31 (ok11 hw _ _ _ _) (wd hw 66 rfl) (wd hw 67 rfl) (argsL := [.ref a.1, .ref b.1]) (S := []) (cUnch hw _ _ a.1 b.1 a.2 b.2 _ _ ha hb _) rfl rfl rfl rfl rfl rfl (Nat.le_of_ble_eq_true rfl) (Nat.le_of_ble_eq_true rfl) ?_
      rintro _ _ _ ⟨rfl, rfl, rfl⟩
      show WCo _ (34, [wR 0, wI it, wR σ.length, wR a.1, wR b.1, wR a.1, wR b.1, wU, wU, wU], [.int 1], σ1, (u + 2)) _
      refine WCo.s (WStep.ifF a12_34 (by decide)) ?_
      refine WCo.s (WStep.aload a12_37 rfl rfl) ?_
      refine WCo.s (WStep.getF 0 a12_39 (wd hw 39 rfl) hb rfl) ?_
      show WCo _ (42, [wR 0, wI it, wR σ.length, wR a.1, wR b.1, wR a.1, wR b.1, wU, wU, wU], [(.long b.2)], σ1, (u + 2)) _
      refine WCo.s (WStep.iloadN a12_42 rfl) ?_
      refine WCo.s (WStep.i2l a12_43) ?_
      refine WCo.s (WStep.lcmp a12_44) ?_
      refine WCo.s (WStep.ifT a12_45 (feq (fun q => hq ((lw_eq _ _).mp q))).2) ?_
      refine WCo.s (WStep.iconst (0 : Int32) a12_52 rfl) ?_
      refine WCo.s (WStep.istore (L' := [wR 0, wI it, wR σ.length, wR a.1, wR b.1, wR a.1, wR b.1, wI 0, wU, wU]) a12_53 rfl) ?_
      refine WCo.s (WStep.iload a12_55 rfl) ?_
      refine WCo.s (WStep.ifT a12_57 (by decide)) ?_
      refine WCo.s (WStep.iload a12_75 rfl) ?_
      refine WCo.s (WStep.aload a12_77 rfl rfl) ?_
      exact WCo.here rfl
    obtain ⟨_, rfl, hin⟩ := hin
    refine .s2 (r := 2) (WStep2.sync (k := a.1) (r1 := 1) (L' := [wR 0, wI it, wR σ.length, wR a.1, wR b.1, wR a.1, wR b.1, wI 0, wU, wU]) (σ' := σ1) (u' := (u + 2)) (S := []) (S' := [.int 0]) a12_21 a12_82 rfl ha ha la (show a.1 ∉ ([] : List Nat) from List.not_mem_nil) (show "remove" ≠ "<clinit>" by decide) rfl rfl (Nat.le_of_ble_eq_true rfl)
      (WStep2.post (WStep2.pre (B := (27, [wR 0, wI it, wR σ.length, wR a.1, wR b.1, wR a.1, wR b.1, wU, wU, wU], [.ref b.1], σ1, (u + 2))) ?_ (WStep2.sync (k := b.1) (r1 := 2) (L' := [wR 0, wI it, wR σ.length, wR a.1, wR b.1, wR a.1, wR b.1, wI 0, wU, wU]) (σ' := σ1) (u' := (u + 2)) (S := []) (S' := [.int 0]) a12_27 a12_79 rfl hb hb lb (fun q => hab (List.mem_singleton.mp q)) (show "remove" ≠ "<clinit>" by decide) rfl rfl (Nat.le_of_ble_eq_true rfl) hin)) ?_)) ?_
    · have h : WCo ((g12 Z ρ (n0, []) σ.length u).lk a.1 1) (22, [wR 0, wI it, wR σ.length, wR a.1, wR b.1, wR a.1, wU, wU, wU, wU], [], σ1, (u + 2)) (fun B => B = (27, [wR 0, wI it, wR σ.length, wR a.1, wR b.1, wR a.1, wR b.1, wU, wU, wU], [.ref b.1], σ1, (u + 2))) := by
        refine WCo.s (WStep.aload a12_22 rfl rfl) ?_
        refine WCo.s (WStep.dup a12_24 rfl) ?_
        refine WCo.s (WStep.astore (L' := [wR 0, wI it, wR σ.length, wR a.1, wR b.1, wR a.1, wR b.1, wU, wU, wU]) a12_25 rfl rfl) ?_
        exact WCo.here rfl
      obtain ⟨_, rfl, h⟩ := h
      exact h
    · exact WStep.aload a12_80 rfl rfl
    · refine .ireturnM .boolean a12_83 rfl (by simp) rfl ?_
      exact ⟨⟨_, rfl⟩, ⟨N, I1, fun z => ⟨fun h => ⟨h, fun q => hq ((C.mem I1).mp (by rw [← q]; exact h))⟩, fun h => h.1⟩⟩, by omega, by omega⟩
set_option maxHeartbeats 4000000 in
theorem cPick {Z : State} {a0 : Array Value} (hw : ∀ d ∈ tables_1, d.before a0 Z = true) (ρ : Nat → Nat) (n0 : Nat × List Nat) (k x0 x1 x2 x3 x4 : Int32) (σ : WHp) (u : Nat) : WGo (g1 Z ρ n0 σ.length u) (0, [wI k, wI x0, wI x1, wI x2, wI x3, wI x4], [], σ, u) (fun v σ' u' => (∃ z, v = some (.int z)) ∧ σ = σ' ∧ u = u') := by
  refine .s (.iloadN a1_0 rfl) ?_
  refine .ne0 a1_1 (fun h1 => ?_) (fun h1 => ?_)
  · refine .s (.iloadN a1_6 rfl) <| .s (.iconst (1 : Int32) a1_7 rfl) ?_
    refine .ne a1_8 (fun h8 => ?_) (fun h8 => ?_)
    · refine .s (.iloadN a1_13 rfl) <| .s (.iconst (2 : Int32) a1_14 rfl) ?_
      refine .ne a1_15 (fun h15 => ?_) (fun h15 => ?_)
      · refine .s (.iloadN a1_20 rfl) <| .s (.iconst (3 : Int32) a1_21 rfl) ?_
        refine .ne a1_22 (fun h22 => ?_) (fun h22 => ?_)
        · refine .s (.iloadN a1_28 rfl) <| .s (.iconst (4 : Int32) a1_29 rfl) ?_
          refine .ne a1_30 (fun h30 => ?_) (fun h30 => ?_)
          · refine .s (.iloadN a1_37 rfl) <| .s (.iconst (5 : Int32) a1_38 rfl) ?_
            refine .ne a1_39 (fun h39 => ?_) (fun h39 => ?_)
            · refine .s (.iload a1_46 rfl) ?_
              refine .ireturn .int a1_48 rfl (by simp) ?_
              exact ⟨⟨_, rfl⟩, rfl, rfl⟩
            · refine .s (.iloadN a1_42 rfl) <| .s (.iconst (1 : Int32) a1_43 rfl) <| .s (.isub a1_44) ?_
              refine .ireturn .int a1_45 rfl (by simp) ?_
              exact ⟨⟨_, rfl⟩, rfl, rfl⟩
          · refine .s (.iloadN a1_33 rfl) <| .s (.iconst (1 : Int32) a1_34 rfl) <| .s (.iadd a1_35) ?_
            refine .ireturn .int a1_36 rfl (by simp) ?_
            exact ⟨⟨_, rfl⟩, rfl, rfl⟩
        · refine .s (.iload a1_25 rfl) ?_
          refine .ireturn .int a1_27 rfl (by simp) ?_
          exact ⟨⟨_, rfl⟩, rfl, rfl⟩
      · refine .s (.iloadN a1_18 rfl) ?_
        refine .ireturn .int a1_19 rfl (by simp) ?_
        exact ⟨⟨_, rfl⟩, rfl, rfl⟩
    · refine .s (.iloadN a1_11 rfl) ?_
      refine .ireturn .int a1_12 rfl (by simp) ?_
      exact ⟨⟨_, rfl⟩, rfl, rfl⟩
  · refine .s (.iloadN a1_4 rfl) ?_
    refine .ireturn .int a1_5 rfl (by simp) ?_
    exact ⟨⟨_, rfl⟩, rfl, rfl⟩
set_option maxHeartbeats 40000000 in
theorem s119 (Z : State) (a0 : Array Value) (hw : ∀ d ∈ tables_1, d.before a0 Z = true) (n0 : Nat) (i0 i1 i2 i3 i4 i5 fb fc fd kk q : Int32) (σ : WHp) (N : List Nd) (I : Inv σ N) (hM : memN N q.toInt64 ↔ (((q = i0 ∨ (¬ fb = 0 ∧ q = i1)) ∧ ¬ (¬ fc = 0 ∧ q = i2)) ∨ (¬ fd = 0 ∧ q = i3))) (u : Nat) (hl : σ.length ≤ 20) (hu : u ≤ 100) : WGo (g0 Z (fun k => n0 + k) (n0, []) 0 0) (119, [wI i0, wI i1, wI i2, wI i3, wI i4, wI i5, wI fb, wI fc, wI fd, wI kk, wI q, wR 0, wU], [], σ, u) (fun v σ' u' => v = some (.int 1) ∧ σ'.length ≤ 32 ∧ u' ≤ 128) := by
  refine .s (.iload a0_119 rfl) <| .s (.iloadN a0_121 rfl) ?_
  refine .eq a0_122 (fun h122 => ?_) (fun h122 => ?_)
  · refine .s (.iconst (1 : Int32) a0_136 rfl) <| .s (.goto a0_137) <| .s (.istore (L' := [wI i0, wI i1, wI i2, wI i3, wI i4, wI i5, wI fb, wI fc, wI fd, wI kk, wI q, wR 0, wI 1]) a0_141 rfl) <| .s (.iload a0_143 rfl) ?_
    refine .eq0 a0_145 (fun h145 => ?_) (fun h145 => ?_)
    · refine .s (.iload a0_157 rfl) ?_
      refine .eq0 a0_159 (fun h159 => ?_) (fun h159 => ?_)
      · refine .s (.aload a0_171 rfl rfl) <| .s (.iload a0_173 rfl) ?_
        refine .callV (k := 0) (z := (⟨"antecede/sets/LazySet", "contains", "(I)Z"⟩ : MethodName)) a0_175 (ok13 hw _ _ _ _) ⟨rfl, by decide⟩ (wd hw 76 rfl) (wd hw 77 rfl) (fun s hZ => notFace_of_selects (args := #[]) (mvT hZ (wd hw 79 rfl))) (wd hw 79 rfl) (wd hw 78 rfl) I.obj (argsL := [(.int q)]) (S := []) (cCont hw _ _ N q _ I _) rfl rfl rfl rfl rfl rfl (Nat.le_of_ble_eq_true rfl) (Nat.le_of_ble_eq_true rfl) ?_
        rintro _ _ _ ⟨⟨rfl, hm⟩ | ⟨rfl, hm⟩, rfl, rfl⟩
        · skip
          show WGo _ (178, [wI i0, wI i1, wI i2, wI i3, wI i4, wI i5, wI fb, wI fc, wI fd, wI kk, wI q, wR 0, wI 1], [.int 1], σ, u) _
          refine .s (.iload a0_178 rfl) <| .s (.icmpF a0_180 (by decide)) <| .s (.iconst (1 : Int32) a0_183 rfl) <| .s (.goto a0_184) ?_
          refine .ireturn .boolean a0_188 rfl (by simp) ?_
          exact ⟨rfl, by omega, by omega⟩
        · skip
          show WGo _ (178, [wI i0, wI i1, wI i2, wI i3, wI i4, wI i5, wI fb, wI fc, wI fd, wI kk, wI q, wR 0, wI 1], [.int 0], σ, u) _
          refine .s (.iload a0_178 rfl) <| .s (.icmpT a0_180 (by decide)) <| .s (.iconst (0 : Int32) a0_187 rfl) ?_
          refine .ireturn .boolean a0_188 rfl (by simp) ?_
          exfalso
          rw [hM] at hm
          simp only [Int32.lt_iff_toInt_lt, ← Int32.toInt_inj, Int32.reduceToInt] at *
          omega
      · refine .s (.iload a0_162 rfl) <| .s (.iloadN a0_164 rfl) ?_
        refine .ne a0_165 (fun h165 => ?_) (fun h165 => ?_)
        · refine .s (.aload a0_171 rfl rfl) <| .s (.iload a0_173 rfl) ?_
          refine .callV (k := 0) (z := (⟨"antecede/sets/LazySet", "contains", "(I)Z"⟩ : MethodName)) a0_175 (ok13 hw _ _ _ _) ⟨rfl, by decide⟩ (wd hw 76 rfl) (wd hw 77 rfl) (fun s hZ => notFace_of_selects (args := #[]) (mvT hZ (wd hw 79 rfl))) (wd hw 79 rfl) (wd hw 78 rfl) I.obj (argsL := [(.int q)]) (S := []) (cCont hw _ _ N q _ I _) rfl rfl rfl rfl rfl rfl (Nat.le_of_ble_eq_true rfl) (Nat.le_of_ble_eq_true rfl) ?_
          rintro _ _ _ ⟨⟨rfl, hm⟩ | ⟨rfl, hm⟩, rfl, rfl⟩
          · skip
            show WGo _ (178, [wI i0, wI i1, wI i2, wI i3, wI i4, wI i5, wI fb, wI fc, wI fd, wI kk, wI q, wR 0, wI 1], [.int 1], σ, u) _
            refine .s (.iload a0_178 rfl) <| .s (.icmpF a0_180 (by decide)) <| .s (.iconst (1 : Int32) a0_183 rfl) <| .s (.goto a0_184) ?_
            refine .ireturn .boolean a0_188 rfl (by simp) ?_
            exact ⟨rfl, by omega, by omega⟩
          · skip
            show WGo _ (178, [wI i0, wI i1, wI i2, wI i3, wI i4, wI i5, wI fb, wI fc, wI fd, wI kk, wI q, wR 0, wI 1], [.int 0], σ, u) _
            refine .s (.iload a0_178 rfl) <| .s (.icmpT a0_180 (by decide)) <| .s (.iconst (0 : Int32) a0_187 rfl) ?_
            refine .ireturn .boolean a0_188 rfl (by simp) ?_
            exfalso
            rw [hM] at hm
            simp only [Int32.lt_iff_toInt_lt, ← Int32.toInt_inj, Int32.reduceToInt] at *
            omega
        · refine .s (.iconst (1 : Int32) a0_168 rfl) <| .s (.istore (L' := [wI i0, wI i1, wI i2, wI i3, wI i4, wI i5, wI fb, wI fc, wI fd, wI kk, wI q, wR 0, wI 1]) a0_169 rfl) <| .s (.aload a0_171 rfl rfl) <| .s (.iload a0_173 rfl) ?_
          refine .callV (k := 0) (z := (⟨"antecede/sets/LazySet", "contains", "(I)Z"⟩ : MethodName)) a0_175 (ok13 hw _ _ _ _) ⟨rfl, by decide⟩ (wd hw 76 rfl) (wd hw 77 rfl) (fun s hZ => notFace_of_selects (args := #[]) (mvT hZ (wd hw 79 rfl))) (wd hw 79 rfl) (wd hw 78 rfl) I.obj (argsL := [(.int q)]) (S := []) (cCont hw _ _ N q _ I _) rfl rfl rfl rfl rfl rfl (Nat.le_of_ble_eq_true rfl) (Nat.le_of_ble_eq_true rfl) ?_
          rintro _ _ _ ⟨⟨rfl, hm⟩ | ⟨rfl, hm⟩, rfl, rfl⟩
          · skip
            show WGo _ (178, [wI i0, wI i1, wI i2, wI i3, wI i4, wI i5, wI fb, wI fc, wI fd, wI kk, wI q, wR 0, wI 1], [.int 1], σ, u) _
            refine .s (.iload a0_178 rfl) <| .s (.icmpF a0_180 (by decide)) <| .s (.iconst (1 : Int32) a0_183 rfl) <| .s (.goto a0_184) ?_
            refine .ireturn .boolean a0_188 rfl (by simp) ?_
            exact ⟨rfl, by omega, by omega⟩
          · skip
            show WGo _ (178, [wI i0, wI i1, wI i2, wI i3, wI i4, wI i5, wI fb, wI fc, wI fd, wI kk, wI q, wR 0, wI 1], [.int 0], σ, u) _
            refine .s (.iload a0_178 rfl) <| .s (.icmpT a0_180 (by decide)) <| .s (.iconst (0 : Int32) a0_187 rfl) ?_
            refine .ireturn .boolean a0_188 rfl (by simp) ?_
            exfalso
            rw [hM] at hm
            simp only [Int32.lt_iff_toInt_lt, ← Int32.toInt_inj, Int32.reduceToInt] at *
            omega
    · refine .s (.iload a0_148 rfl) <| .s (.iloadN a0_150 rfl) ?_
      refine .ne a0_151 (fun h151 => ?_) (fun h151 => ?_)
      · refine .s (.iload a0_157 rfl) ?_
        refine .eq0 a0_159 (fun h159 => ?_) (fun h159 => ?_)
        · refine .s (.aload a0_171 rfl rfl) <| .s (.iload a0_173 rfl) ?_
          refine .callV (k := 0) (z := (⟨"antecede/sets/LazySet", "contains", "(I)Z"⟩ : MethodName)) a0_175 (ok13 hw _ _ _ _) ⟨rfl, by decide⟩ (wd hw 76 rfl) (wd hw 77 rfl) (fun s hZ => notFace_of_selects (args := #[]) (mvT hZ (wd hw 79 rfl))) (wd hw 79 rfl) (wd hw 78 rfl) I.obj (argsL := [(.int q)]) (S := []) (cCont hw _ _ N q _ I _) rfl rfl rfl rfl rfl rfl (Nat.le_of_ble_eq_true rfl) (Nat.le_of_ble_eq_true rfl) ?_
          rintro _ _ _ ⟨⟨rfl, hm⟩ | ⟨rfl, hm⟩, rfl, rfl⟩
          · skip
            show WGo _ (178, [wI i0, wI i1, wI i2, wI i3, wI i4, wI i5, wI fb, wI fc, wI fd, wI kk, wI q, wR 0, wI 1], [.int 1], σ, u) _
            refine .s (.iload a0_178 rfl) <| .s (.icmpF a0_180 (by decide)) <| .s (.iconst (1 : Int32) a0_183 rfl) <| .s (.goto a0_184) ?_
            refine .ireturn .boolean a0_188 rfl (by simp) ?_
            exact ⟨rfl, by omega, by omega⟩
          · skip
            show WGo _ (178, [wI i0, wI i1, wI i2, wI i3, wI i4, wI i5, wI fb, wI fc, wI fd, wI kk, wI q, wR 0, wI 1], [.int 0], σ, u) _
            refine .s (.iload a0_178 rfl) <| .s (.icmpT a0_180 (by decide)) <| .s (.iconst (0 : Int32) a0_187 rfl) ?_
            refine .ireturn .boolean a0_188 rfl (by simp) ?_
            exfalso
            rw [hM] at hm
            simp only [Int32.lt_iff_toInt_lt, ← Int32.toInt_inj, Int32.reduceToInt] at *
            omega
        · refine .s (.iload a0_162 rfl) <| .s (.iloadN a0_164 rfl) ?_
          refine .ne a0_165 (fun h165 => ?_) (fun h165 => ?_)
          · refine .s (.aload a0_171 rfl rfl) <| .s (.iload a0_173 rfl) ?_
            refine .callV (k := 0) (z := (⟨"antecede/sets/LazySet", "contains", "(I)Z"⟩ : MethodName)) a0_175 (ok13 hw _ _ _ _) ⟨rfl, by decide⟩ (wd hw 76 rfl) (wd hw 77 rfl) (fun s hZ => notFace_of_selects (args := #[]) (mvT hZ (wd hw 79 rfl))) (wd hw 79 rfl) (wd hw 78 rfl) I.obj (argsL := [(.int q)]) (S := []) (cCont hw _ _ N q _ I _) rfl rfl rfl rfl rfl rfl (Nat.le_of_ble_eq_true rfl) (Nat.le_of_ble_eq_true rfl) ?_
            rintro _ _ _ ⟨⟨rfl, hm⟩ | ⟨rfl, hm⟩, rfl, rfl⟩
            · skip
              show WGo _ (178, [wI i0, wI i1, wI i2, wI i3, wI i4, wI i5, wI fb, wI fc, wI fd, wI kk, wI q, wR 0, wI 1], [.int 1], σ, u) _
              refine .s (.iload a0_178 rfl) <| .s (.icmpF a0_180 (by decide)) <| .s (.iconst (1 : Int32) a0_183 rfl) <| .s (.goto a0_184) ?_
              refine .ireturn .boolean a0_188 rfl (by simp) ?_
              exact ⟨rfl, by omega, by omega⟩
            · skip
              show WGo _ (178, [wI i0, wI i1, wI i2, wI i3, wI i4, wI i5, wI fb, wI fc, wI fd, wI kk, wI q, wR 0, wI 1], [.int 0], σ, u) _
              refine .s (.iload a0_178 rfl) <| .s (.icmpT a0_180 (by decide)) <| .s (.iconst (0 : Int32) a0_187 rfl) ?_
              refine .ireturn .boolean a0_188 rfl (by simp) ?_
              exfalso
              rw [hM] at hm
              simp only [Int32.lt_iff_toInt_lt, ← Int32.toInt_inj, Int32.reduceToInt] at *
              omega
          · refine .s (.iconst (1 : Int32) a0_168 rfl) <| .s (.istore (L' := [wI i0, wI i1, wI i2, wI i3, wI i4, wI i5, wI fb, wI fc, wI fd, wI kk, wI q, wR 0, wI 1]) a0_169 rfl) <| .s (.aload a0_171 rfl rfl) <| .s (.iload a0_173 rfl) ?_
            refine .callV (k := 0) (z := (⟨"antecede/sets/LazySet", "contains", "(I)Z"⟩ : MethodName)) a0_175 (ok13 hw _ _ _ _) ⟨rfl, by decide⟩ (wd hw 76 rfl) (wd hw 77 rfl) (fun s hZ => notFace_of_selects (args := #[]) (mvT hZ (wd hw 79 rfl))) (wd hw 79 rfl) (wd hw 78 rfl) I.obj (argsL := [(.int q)]) (S := []) (cCont hw _ _ N q _ I _) rfl rfl rfl rfl rfl rfl (Nat.le_of_ble_eq_true rfl) (Nat.le_of_ble_eq_true rfl) ?_
            rintro _ _ _ ⟨⟨rfl, hm⟩ | ⟨rfl, hm⟩, rfl, rfl⟩
            · skip
              show WGo _ (178, [wI i0, wI i1, wI i2, wI i3, wI i4, wI i5, wI fb, wI fc, wI fd, wI kk, wI q, wR 0, wI 1], [.int 1], σ, u) _
              refine .s (.iload a0_178 rfl) <| .s (.icmpF a0_180 (by decide)) <| .s (.iconst (1 : Int32) a0_183 rfl) <| .s (.goto a0_184) ?_
              refine .ireturn .boolean a0_188 rfl (by simp) ?_
              exact ⟨rfl, by omega, by omega⟩
            · skip
              show WGo _ (178, [wI i0, wI i1, wI i2, wI i3, wI i4, wI i5, wI fb, wI fc, wI fd, wI kk, wI q, wR 0, wI 1], [.int 0], σ, u) _
              refine .s (.iload a0_178 rfl) <| .s (.icmpT a0_180 (by decide)) <| .s (.iconst (0 : Int32) a0_187 rfl) ?_
              refine .ireturn .boolean a0_188 rfl (by simp) ?_
              exfalso
              rw [hM] at hm
              simp only [Int32.lt_iff_toInt_lt, ← Int32.toInt_inj, Int32.reduceToInt] at *
              omega
      · refine .s (.iconst (0 : Int32) a0_154 rfl) <| .s (.istore (L' := [wI i0, wI i1, wI i2, wI i3, wI i4, wI i5, wI fb, wI fc, wI fd, wI kk, wI q, wR 0, wI 0]) a0_155 rfl) <| .s (.iload a0_157 rfl) ?_
        refine .eq0 a0_159 (fun h159 => ?_) (fun h159 => ?_)
        · refine .s (.aload a0_171 rfl rfl) <| .s (.iload a0_173 rfl) ?_
          refine .callV (k := 0) (z := (⟨"antecede/sets/LazySet", "contains", "(I)Z"⟩ : MethodName)) a0_175 (ok13 hw _ _ _ _) ⟨rfl, by decide⟩ (wd hw 76 rfl) (wd hw 77 rfl) (fun s hZ => notFace_of_selects (args := #[]) (mvT hZ (wd hw 79 rfl))) (wd hw 79 rfl) (wd hw 78 rfl) I.obj (argsL := [(.int q)]) (S := []) (cCont hw _ _ N q _ I _) rfl rfl rfl rfl rfl rfl (Nat.le_of_ble_eq_true rfl) (Nat.le_of_ble_eq_true rfl) ?_
          rintro _ _ _ ⟨⟨rfl, hm⟩ | ⟨rfl, hm⟩, rfl, rfl⟩
          · skip
            show WGo _ (178, [wI i0, wI i1, wI i2, wI i3, wI i4, wI i5, wI fb, wI fc, wI fd, wI kk, wI q, wR 0, wI 0], [.int 1], σ, u) _
            refine .s (.iload a0_178 rfl) <| .s (.icmpT a0_180 (by decide)) <| .s (.iconst (0 : Int32) a0_187 rfl) ?_
            refine .ireturn .boolean a0_188 rfl (by simp) ?_
            exfalso
            rw [hM] at hm
            simp only [Int32.lt_iff_toInt_lt, ← Int32.toInt_inj, Int32.reduceToInt] at *
            omega
          · skip
            show WGo _ (178, [wI i0, wI i1, wI i2, wI i3, wI i4, wI i5, wI fb, wI fc, wI fd, wI kk, wI q, wR 0, wI 0], [.int 0], σ, u) _
            refine .s (.iload a0_178 rfl) <| .s (.icmpF a0_180 (by decide)) <| .s (.iconst (1 : Int32) a0_183 rfl) <| .s (.goto a0_184) ?_
            refine .ireturn .boolean a0_188 rfl (by simp) ?_
            exact ⟨rfl, by omega, by omega⟩
        · refine .s (.iload a0_162 rfl) <| .s (.iloadN a0_164 rfl) ?_
          refine .ne a0_165 (fun h165 => ?_) (fun h165 => ?_)
          · refine .s (.aload a0_171 rfl rfl) <| .s (.iload a0_173 rfl) ?_
            refine .callV (k := 0) (z := (⟨"antecede/sets/LazySet", "contains", "(I)Z"⟩ : MethodName)) a0_175 (ok13 hw _ _ _ _) ⟨rfl, by decide⟩ (wd hw 76 rfl) (wd hw 77 rfl) (fun s hZ => notFace_of_selects (args := #[]) (mvT hZ (wd hw 79 rfl))) (wd hw 79 rfl) (wd hw 78 rfl) I.obj (argsL := [(.int q)]) (S := []) (cCont hw _ _ N q _ I _) rfl rfl rfl rfl rfl rfl (Nat.le_of_ble_eq_true rfl) (Nat.le_of_ble_eq_true rfl) ?_
            rintro _ _ _ ⟨⟨rfl, hm⟩ | ⟨rfl, hm⟩, rfl, rfl⟩
            · skip
              show WGo _ (178, [wI i0, wI i1, wI i2, wI i3, wI i4, wI i5, wI fb, wI fc, wI fd, wI kk, wI q, wR 0, wI 0], [.int 1], σ, u) _
              refine .s (.iload a0_178 rfl) <| .s (.icmpT a0_180 (by decide)) <| .s (.iconst (0 : Int32) a0_187 rfl) ?_
              refine .ireturn .boolean a0_188 rfl (by simp) ?_
              exfalso
              rw [hM] at hm
              simp only [Int32.lt_iff_toInt_lt, ← Int32.toInt_inj, Int32.reduceToInt] at *
              omega
            · skip
              show WGo _ (178, [wI i0, wI i1, wI i2, wI i3, wI i4, wI i5, wI fb, wI fc, wI fd, wI kk, wI q, wR 0, wI 0], [.int 0], σ, u) _
              refine .s (.iload a0_178 rfl) <| .s (.icmpF a0_180 (by decide)) <| .s (.iconst (1 : Int32) a0_183 rfl) <| .s (.goto a0_184) ?_
              refine .ireturn .boolean a0_188 rfl (by simp) ?_
              exact ⟨rfl, by omega, by omega⟩
          · refine .s (.iconst (1 : Int32) a0_168 rfl) <| .s (.istore (L' := [wI i0, wI i1, wI i2, wI i3, wI i4, wI i5, wI fb, wI fc, wI fd, wI kk, wI q, wR 0, wI 1]) a0_169 rfl) <| .s (.aload a0_171 rfl rfl) <| .s (.iload a0_173 rfl) ?_
            refine .callV (k := 0) (z := (⟨"antecede/sets/LazySet", "contains", "(I)Z"⟩ : MethodName)) a0_175 (ok13 hw _ _ _ _) ⟨rfl, by decide⟩ (wd hw 76 rfl) (wd hw 77 rfl) (fun s hZ => notFace_of_selects (args := #[]) (mvT hZ (wd hw 79 rfl))) (wd hw 79 rfl) (wd hw 78 rfl) I.obj (argsL := [(.int q)]) (S := []) (cCont hw _ _ N q _ I _) rfl rfl rfl rfl rfl rfl (Nat.le_of_ble_eq_true rfl) (Nat.le_of_ble_eq_true rfl) ?_
            rintro _ _ _ ⟨⟨rfl, hm⟩ | ⟨rfl, hm⟩, rfl, rfl⟩
            · skip
              show WGo _ (178, [wI i0, wI i1, wI i2, wI i3, wI i4, wI i5, wI fb, wI fc, wI fd, wI kk, wI q, wR 0, wI 1], [.int 1], σ, u) _
              refine .s (.iload a0_178 rfl) <| .s (.icmpF a0_180 (by decide)) <| .s (.iconst (1 : Int32) a0_183 rfl) <| .s (.goto a0_184) ?_
              refine .ireturn .boolean a0_188 rfl (by simp) ?_
              exact ⟨rfl, by omega, by omega⟩
            · skip
              show WGo _ (178, [wI i0, wI i1, wI i2, wI i3, wI i4, wI i5, wI fb, wI fc, wI fd, wI kk, wI q, wR 0, wI 1], [.int 0], σ, u) _
              refine .s (.iload a0_178 rfl) <| .s (.icmpT a0_180 (by decide)) <| .s (.iconst (0 : Int32) a0_187 rfl) ?_
              refine .ireturn .boolean a0_188 rfl (by simp) ?_
              exfalso
              rw [hM] at hm
              simp only [Int32.lt_iff_toInt_lt, ← Int32.toInt_inj, Int32.reduceToInt] at *
              omega
  · refine .s (.iload a0_125 rfl) ?_
    refine .eq0 a0_127 (fun h127 => ?_) (fun h127 => ?_)
    · refine .s (.iconst (0 : Int32) a0_140 rfl) <| .s (.istore (L' := [wI i0, wI i1, wI i2, wI i3, wI i4, wI i5, wI fb, wI fc, wI fd, wI kk, wI q, wR 0, wI 0]) a0_141 rfl) <| .s (.iload a0_143 rfl) ?_
      refine .eq0 a0_145 (fun h145 => ?_) (fun h145 => ?_)
      · refine .s (.iload a0_157 rfl) ?_
        refine .eq0 a0_159 (fun h159 => ?_) (fun h159 => ?_)
        · refine .s (.aload a0_171 rfl rfl) <| .s (.iload a0_173 rfl) ?_
          refine .callV (k := 0) (z := (⟨"antecede/sets/LazySet", "contains", "(I)Z"⟩ : MethodName)) a0_175 (ok13 hw _ _ _ _) ⟨rfl, by decide⟩ (wd hw 76 rfl) (wd hw 77 rfl) (fun s hZ => notFace_of_selects (args := #[]) (mvT hZ (wd hw 79 rfl))) (wd hw 79 rfl) (wd hw 78 rfl) I.obj (argsL := [(.int q)]) (S := []) (cCont hw _ _ N q _ I _) rfl rfl rfl rfl rfl rfl (Nat.le_of_ble_eq_true rfl) (Nat.le_of_ble_eq_true rfl) ?_
          rintro _ _ _ ⟨⟨rfl, hm⟩ | ⟨rfl, hm⟩, rfl, rfl⟩
          · skip
            show WGo _ (178, [wI i0, wI i1, wI i2, wI i3, wI i4, wI i5, wI fb, wI fc, wI fd, wI kk, wI q, wR 0, wI 0], [.int 1], σ, u) _
            refine .s (.iload a0_178 rfl) <| .s (.icmpT a0_180 (by decide)) <| .s (.iconst (0 : Int32) a0_187 rfl) ?_
            refine .ireturn .boolean a0_188 rfl (by simp) ?_
            exfalso
            rw [hM] at hm
            simp only [Int32.lt_iff_toInt_lt, ← Int32.toInt_inj, Int32.reduceToInt] at *
            omega
          · skip
            show WGo _ (178, [wI i0, wI i1, wI i2, wI i3, wI i4, wI i5, wI fb, wI fc, wI fd, wI kk, wI q, wR 0, wI 0], [.int 0], σ, u) _
            refine .s (.iload a0_178 rfl) <| .s (.icmpF a0_180 (by decide)) <| .s (.iconst (1 : Int32) a0_183 rfl) <| .s (.goto a0_184) ?_
            refine .ireturn .boolean a0_188 rfl (by simp) ?_
            exact ⟨rfl, by omega, by omega⟩
        · refine .s (.iload a0_162 rfl) <| .s (.iloadN a0_164 rfl) ?_
          refine .ne a0_165 (fun h165 => ?_) (fun h165 => ?_)
          · refine .s (.aload a0_171 rfl rfl) <| .s (.iload a0_173 rfl) ?_
            refine .callV (k := 0) (z := (⟨"antecede/sets/LazySet", "contains", "(I)Z"⟩ : MethodName)) a0_175 (ok13 hw _ _ _ _) ⟨rfl, by decide⟩ (wd hw 76 rfl) (wd hw 77 rfl) (fun s hZ => notFace_of_selects (args := #[]) (mvT hZ (wd hw 79 rfl))) (wd hw 79 rfl) (wd hw 78 rfl) I.obj (argsL := [(.int q)]) (S := []) (cCont hw _ _ N q _ I _) rfl rfl rfl rfl rfl rfl (Nat.le_of_ble_eq_true rfl) (Nat.le_of_ble_eq_true rfl) ?_
            rintro _ _ _ ⟨⟨rfl, hm⟩ | ⟨rfl, hm⟩, rfl, rfl⟩
            · skip
              show WGo _ (178, [wI i0, wI i1, wI i2, wI i3, wI i4, wI i5, wI fb, wI fc, wI fd, wI kk, wI q, wR 0, wI 0], [.int 1], σ, u) _
              refine .s (.iload a0_178 rfl) <| .s (.icmpT a0_180 (by decide)) <| .s (.iconst (0 : Int32) a0_187 rfl) ?_
              refine .ireturn .boolean a0_188 rfl (by simp) ?_
              exfalso
              rw [hM] at hm
              simp only [Int32.lt_iff_toInt_lt, ← Int32.toInt_inj, Int32.reduceToInt] at *
              omega
            · skip
              show WGo _ (178, [wI i0, wI i1, wI i2, wI i3, wI i4, wI i5, wI fb, wI fc, wI fd, wI kk, wI q, wR 0, wI 0], [.int 0], σ, u) _
              refine .s (.iload a0_178 rfl) <| .s (.icmpF a0_180 (by decide)) <| .s (.iconst (1 : Int32) a0_183 rfl) <| .s (.goto a0_184) ?_
              refine .ireturn .boolean a0_188 rfl (by simp) ?_
              exact ⟨rfl, by omega, by omega⟩
          · refine .s (.iconst (1 : Int32) a0_168 rfl) <| .s (.istore (L' := [wI i0, wI i1, wI i2, wI i3, wI i4, wI i5, wI fb, wI fc, wI fd, wI kk, wI q, wR 0, wI 1]) a0_169 rfl) <| .s (.aload a0_171 rfl rfl) <| .s (.iload a0_173 rfl) ?_
            refine .callV (k := 0) (z := (⟨"antecede/sets/LazySet", "contains", "(I)Z"⟩ : MethodName)) a0_175 (ok13 hw _ _ _ _) ⟨rfl, by decide⟩ (wd hw 76 rfl) (wd hw 77 rfl) (fun s hZ => notFace_of_selects (args := #[]) (mvT hZ (wd hw 79 rfl))) (wd hw 79 rfl) (wd hw 78 rfl) I.obj (argsL := [(.int q)]) (S := []) (cCont hw _ _ N q _ I _) rfl rfl rfl rfl rfl rfl (Nat.le_of_ble_eq_true rfl) (Nat.le_of_ble_eq_true rfl) ?_
            rintro _ _ _ ⟨⟨rfl, hm⟩ | ⟨rfl, hm⟩, rfl, rfl⟩
            · skip
              show WGo _ (178, [wI i0, wI i1, wI i2, wI i3, wI i4, wI i5, wI fb, wI fc, wI fd, wI kk, wI q, wR 0, wI 1], [.int 1], σ, u) _
              refine .s (.iload a0_178 rfl) <| .s (.icmpF a0_180 (by decide)) <| .s (.iconst (1 : Int32) a0_183 rfl) <| .s (.goto a0_184) ?_
              refine .ireturn .boolean a0_188 rfl (by simp) ?_
              exact ⟨rfl, by omega, by omega⟩
            · skip
              show WGo _ (178, [wI i0, wI i1, wI i2, wI i3, wI i4, wI i5, wI fb, wI fc, wI fd, wI kk, wI q, wR 0, wI 1], [.int 0], σ, u) _
              refine .s (.iload a0_178 rfl) <| .s (.icmpT a0_180 (by decide)) <| .s (.iconst (0 : Int32) a0_187 rfl) ?_
              refine .ireturn .boolean a0_188 rfl (by simp) ?_
              exfalso
              rw [hM] at hm
              simp only [Int32.lt_iff_toInt_lt, ← Int32.toInt_inj, Int32.reduceToInt] at *
              omega
      · refine .s (.iload a0_148 rfl) <| .s (.iloadN a0_150 rfl) ?_
        refine .ne a0_151 (fun h151 => ?_) (fun h151 => ?_)
        · refine .s (.iload a0_157 rfl) ?_
          refine .eq0 a0_159 (fun h159 => ?_) (fun h159 => ?_)
          · refine .s (.aload a0_171 rfl rfl) <| .s (.iload a0_173 rfl) ?_
            refine .callV (k := 0) (z := (⟨"antecede/sets/LazySet", "contains", "(I)Z"⟩ : MethodName)) a0_175 (ok13 hw _ _ _ _) ⟨rfl, by decide⟩ (wd hw 76 rfl) (wd hw 77 rfl) (fun s hZ => notFace_of_selects (args := #[]) (mvT hZ (wd hw 79 rfl))) (wd hw 79 rfl) (wd hw 78 rfl) I.obj (argsL := [(.int q)]) (S := []) (cCont hw _ _ N q _ I _) rfl rfl rfl rfl rfl rfl (Nat.le_of_ble_eq_true rfl) (Nat.le_of_ble_eq_true rfl) ?_
            rintro _ _ _ ⟨⟨rfl, hm⟩ | ⟨rfl, hm⟩, rfl, rfl⟩
            · skip
              show WGo _ (178, [wI i0, wI i1, wI i2, wI i3, wI i4, wI i5, wI fb, wI fc, wI fd, wI kk, wI q, wR 0, wI 0], [.int 1], σ, u) _
              refine .s (.iload a0_178 rfl) <| .s (.icmpT a0_180 (by decide)) <| .s (.iconst (0 : Int32) a0_187 rfl) ?_
              refine .ireturn .boolean a0_188 rfl (by simp) ?_
              exfalso
              rw [hM] at hm
              simp only [Int32.lt_iff_toInt_lt, ← Int32.toInt_inj, Int32.reduceToInt] at *
              omega
            · skip
              show WGo _ (178, [wI i0, wI i1, wI i2, wI i3, wI i4, wI i5, wI fb, wI fc, wI fd, wI kk, wI q, wR 0, wI 0], [.int 0], σ, u) _
              refine .s (.iload a0_178 rfl) <| .s (.icmpF a0_180 (by decide)) <| .s (.iconst (1 : Int32) a0_183 rfl) <| .s (.goto a0_184) ?_
              refine .ireturn .boolean a0_188 rfl (by simp) ?_
              exact ⟨rfl, by omega, by omega⟩
          · refine .s (.iload a0_162 rfl) <| .s (.iloadN a0_164 rfl) ?_
            refine .ne a0_165 (fun h165 => ?_) (fun h165 => ?_)
            · refine .s (.aload a0_171 rfl rfl) <| .s (.iload a0_173 rfl) ?_
              refine .callV (k := 0) (z := (⟨"antecede/sets/LazySet", "contains", "(I)Z"⟩ : MethodName)) a0_175 (ok13 hw _ _ _ _) ⟨rfl, by decide⟩ (wd hw 76 rfl) (wd hw 77 rfl) (fun s hZ => notFace_of_selects (args := #[]) (mvT hZ (wd hw 79 rfl))) (wd hw 79 rfl) (wd hw 78 rfl) I.obj (argsL := [(.int q)]) (S := []) (cCont hw _ _ N q _ I _) rfl rfl rfl rfl rfl rfl (Nat.le_of_ble_eq_true rfl) (Nat.le_of_ble_eq_true rfl) ?_
              rintro _ _ _ ⟨⟨rfl, hm⟩ | ⟨rfl, hm⟩, rfl, rfl⟩
              · skip
                show WGo _ (178, [wI i0, wI i1, wI i2, wI i3, wI i4, wI i5, wI fb, wI fc, wI fd, wI kk, wI q, wR 0, wI 0], [.int 1], σ, u) _
                refine .s (.iload a0_178 rfl) <| .s (.icmpT a0_180 (by decide)) <| .s (.iconst (0 : Int32) a0_187 rfl) ?_
                refine .ireturn .boolean a0_188 rfl (by simp) ?_
                exfalso
                rw [hM] at hm
                simp only [Int32.lt_iff_toInt_lt, ← Int32.toInt_inj, Int32.reduceToInt] at *
                omega
              · skip
                show WGo _ (178, [wI i0, wI i1, wI i2, wI i3, wI i4, wI i5, wI fb, wI fc, wI fd, wI kk, wI q, wR 0, wI 0], [.int 0], σ, u) _
                refine .s (.iload a0_178 rfl) <| .s (.icmpF a0_180 (by decide)) <| .s (.iconst (1 : Int32) a0_183 rfl) <| .s (.goto a0_184) ?_
                refine .ireturn .boolean a0_188 rfl (by simp) ?_
                exact ⟨rfl, by omega, by omega⟩
            · refine .s (.iconst (1 : Int32) a0_168 rfl) <| .s (.istore (L' := [wI i0, wI i1, wI i2, wI i3, wI i4, wI i5, wI fb, wI fc, wI fd, wI kk, wI q, wR 0, wI 1]) a0_169 rfl) <| .s (.aload a0_171 rfl rfl) <| .s (.iload a0_173 rfl) ?_
              refine .callV (k := 0) (z := (⟨"antecede/sets/LazySet", "contains", "(I)Z"⟩ : MethodName)) a0_175 (ok13 hw _ _ _ _) ⟨rfl, by decide⟩ (wd hw 76 rfl) (wd hw 77 rfl) (fun s hZ => notFace_of_selects (args := #[]) (mvT hZ (wd hw 79 rfl))) (wd hw 79 rfl) (wd hw 78 rfl) I.obj (argsL := [(.int q)]) (S := []) (cCont hw _ _ N q _ I _) rfl rfl rfl rfl rfl rfl (Nat.le_of_ble_eq_true rfl) (Nat.le_of_ble_eq_true rfl) ?_
              rintro _ _ _ ⟨⟨rfl, hm⟩ | ⟨rfl, hm⟩, rfl, rfl⟩
              · skip
                show WGo _ (178, [wI i0, wI i1, wI i2, wI i3, wI i4, wI i5, wI fb, wI fc, wI fd, wI kk, wI q, wR 0, wI 1], [.int 1], σ, u) _
                refine .s (.iload a0_178 rfl) <| .s (.icmpF a0_180 (by decide)) <| .s (.iconst (1 : Int32) a0_183 rfl) <| .s (.goto a0_184) ?_
                refine .ireturn .boolean a0_188 rfl (by simp) ?_
                exact ⟨rfl, by omega, by omega⟩
              · skip
                show WGo _ (178, [wI i0, wI i1, wI i2, wI i3, wI i4, wI i5, wI fb, wI fc, wI fd, wI kk, wI q, wR 0, wI 1], [.int 0], σ, u) _
                refine .s (.iload a0_178 rfl) <| .s (.icmpT a0_180 (by decide)) <| .s (.iconst (0 : Int32) a0_187 rfl) ?_
                refine .ireturn .boolean a0_188 rfl (by simp) ?_
                exfalso
                rw [hM] at hm
                simp only [Int32.lt_iff_toInt_lt, ← Int32.toInt_inj, Int32.reduceToInt] at *
                omega
        · refine .s (.iconst (0 : Int32) a0_154 rfl) <| .s (.istore (L' := [wI i0, wI i1, wI i2, wI i3, wI i4, wI i5, wI fb, wI fc, wI fd, wI kk, wI q, wR 0, wI 0]) a0_155 rfl) <| .s (.iload a0_157 rfl) ?_
          refine .eq0 a0_159 (fun h159 => ?_) (fun h159 => ?_)
          · refine .s (.aload a0_171 rfl rfl) <| .s (.iload a0_173 rfl) ?_
            refine .callV (k := 0) (z := (⟨"antecede/sets/LazySet", "contains", "(I)Z"⟩ : MethodName)) a0_175 (ok13 hw _ _ _ _) ⟨rfl, by decide⟩ (wd hw 76 rfl) (wd hw 77 rfl) (fun s hZ => notFace_of_selects (args := #[]) (mvT hZ (wd hw 79 rfl))) (wd hw 79 rfl) (wd hw 78 rfl) I.obj (argsL := [(.int q)]) (S := []) (cCont hw _ _ N q _ I _) rfl rfl rfl rfl rfl rfl (Nat.le_of_ble_eq_true rfl) (Nat.le_of_ble_eq_true rfl) ?_
            rintro _ _ _ ⟨⟨rfl, hm⟩ | ⟨rfl, hm⟩, rfl, rfl⟩
            · skip
              show WGo _ (178, [wI i0, wI i1, wI i2, wI i3, wI i4, wI i5, wI fb, wI fc, wI fd, wI kk, wI q, wR 0, wI 0], [.int 1], σ, u) _
              refine .s (.iload a0_178 rfl) <| .s (.icmpT a0_180 (by decide)) <| .s (.iconst (0 : Int32) a0_187 rfl) ?_
              refine .ireturn .boolean a0_188 rfl (by simp) ?_
              exfalso
              rw [hM] at hm
              simp only [Int32.lt_iff_toInt_lt, ← Int32.toInt_inj, Int32.reduceToInt] at *
              omega
            · skip
              show WGo _ (178, [wI i0, wI i1, wI i2, wI i3, wI i4, wI i5, wI fb, wI fc, wI fd, wI kk, wI q, wR 0, wI 0], [.int 0], σ, u) _
              refine .s (.iload a0_178 rfl) <| .s (.icmpF a0_180 (by decide)) <| .s (.iconst (1 : Int32) a0_183 rfl) <| .s (.goto a0_184) ?_
              refine .ireturn .boolean a0_188 rfl (by simp) ?_
              exact ⟨rfl, by omega, by omega⟩
          · refine .s (.iload a0_162 rfl) <| .s (.iloadN a0_164 rfl) ?_
            refine .ne a0_165 (fun h165 => ?_) (fun h165 => ?_)
            · refine .s (.aload a0_171 rfl rfl) <| .s (.iload a0_173 rfl) ?_
              refine .callV (k := 0) (z := (⟨"antecede/sets/LazySet", "contains", "(I)Z"⟩ : MethodName)) a0_175 (ok13 hw _ _ _ _) ⟨rfl, by decide⟩ (wd hw 76 rfl) (wd hw 77 rfl) (fun s hZ => notFace_of_selects (args := #[]) (mvT hZ (wd hw 79 rfl))) (wd hw 79 rfl) (wd hw 78 rfl) I.obj (argsL := [(.int q)]) (S := []) (cCont hw _ _ N q _ I _) rfl rfl rfl rfl rfl rfl (Nat.le_of_ble_eq_true rfl) (Nat.le_of_ble_eq_true rfl) ?_
              rintro _ _ _ ⟨⟨rfl, hm⟩ | ⟨rfl, hm⟩, rfl, rfl⟩
              · skip
                show WGo _ (178, [wI i0, wI i1, wI i2, wI i3, wI i4, wI i5, wI fb, wI fc, wI fd, wI kk, wI q, wR 0, wI 0], [.int 1], σ, u) _
                refine .s (.iload a0_178 rfl) <| .s (.icmpT a0_180 (by decide)) <| .s (.iconst (0 : Int32) a0_187 rfl) ?_
                refine .ireturn .boolean a0_188 rfl (by simp) ?_
                exfalso
                rw [hM] at hm
                simp only [Int32.lt_iff_toInt_lt, ← Int32.toInt_inj, Int32.reduceToInt] at *
                omega
              · skip
                show WGo _ (178, [wI i0, wI i1, wI i2, wI i3, wI i4, wI i5, wI fb, wI fc, wI fd, wI kk, wI q, wR 0, wI 0], [.int 0], σ, u) _
                refine .s (.iload a0_178 rfl) <| .s (.icmpF a0_180 (by decide)) <| .s (.iconst (1 : Int32) a0_183 rfl) <| .s (.goto a0_184) ?_
                refine .ireturn .boolean a0_188 rfl (by simp) ?_
                exact ⟨rfl, by omega, by omega⟩
            · refine .s (.iconst (1 : Int32) a0_168 rfl) <| .s (.istore (L' := [wI i0, wI i1, wI i2, wI i3, wI i4, wI i5, wI fb, wI fc, wI fd, wI kk, wI q, wR 0, wI 1]) a0_169 rfl) <| .s (.aload a0_171 rfl rfl) <| .s (.iload a0_173 rfl) ?_
              refine .callV (k := 0) (z := (⟨"antecede/sets/LazySet", "contains", "(I)Z"⟩ : MethodName)) a0_175 (ok13 hw _ _ _ _) ⟨rfl, by decide⟩ (wd hw 76 rfl) (wd hw 77 rfl) (fun s hZ => notFace_of_selects (args := #[]) (mvT hZ (wd hw 79 rfl))) (wd hw 79 rfl) (wd hw 78 rfl) I.obj (argsL := [(.int q)]) (S := []) (cCont hw _ _ N q _ I _) rfl rfl rfl rfl rfl rfl (Nat.le_of_ble_eq_true rfl) (Nat.le_of_ble_eq_true rfl) ?_
              rintro _ _ _ ⟨⟨rfl, hm⟩ | ⟨rfl, hm⟩, rfl, rfl⟩
              · skip
                show WGo _ (178, [wI i0, wI i1, wI i2, wI i3, wI i4, wI i5, wI fb, wI fc, wI fd, wI kk, wI q, wR 0, wI 1], [.int 1], σ, u) _
                refine .s (.iload a0_178 rfl) <| .s (.icmpF a0_180 (by decide)) <| .s (.iconst (1 : Int32) a0_183 rfl) <| .s (.goto a0_184) ?_
                refine .ireturn .boolean a0_188 rfl (by simp) ?_
                exact ⟨rfl, by omega, by omega⟩
              · skip
                show WGo _ (178, [wI i0, wI i1, wI i2, wI i3, wI i4, wI i5, wI fb, wI fc, wI fd, wI kk, wI q, wR 0, wI 1], [.int 0], σ, u) _
                refine .s (.iload a0_178 rfl) <| .s (.icmpT a0_180 (by decide)) <| .s (.iconst (0 : Int32) a0_187 rfl) ?_
                refine .ireturn .boolean a0_188 rfl (by simp) ?_
                exfalso
                rw [hM] at hm
                simp only [Int32.lt_iff_toInt_lt, ← Int32.toInt_inj, Int32.reduceToInt] at *
                omega
    · refine .s (.iload a0_130 rfl) <| .s (.iloadN a0_132 rfl) ?_
      refine .ne a0_133 (fun h133 => ?_) (fun h133 => ?_)
      · refine .s (.iconst (0 : Int32) a0_140 rfl) <| .s (.istore (L' := [wI i0, wI i1, wI i2, wI i3, wI i4, wI i5, wI fb, wI fc, wI fd, wI kk, wI q, wR 0, wI 0]) a0_141 rfl) <| .s (.iload a0_143 rfl) ?_
        refine .eq0 a0_145 (fun h145 => ?_) (fun h145 => ?_)
        · refine .s (.iload a0_157 rfl) ?_
          refine .eq0 a0_159 (fun h159 => ?_) (fun h159 => ?_)
          · refine .s (.aload a0_171 rfl rfl) <| .s (.iload a0_173 rfl) ?_
            refine .callV (k := 0) (z := (⟨"antecede/sets/LazySet", "contains", "(I)Z"⟩ : MethodName)) a0_175 (ok13 hw _ _ _ _) ⟨rfl, by decide⟩ (wd hw 76 rfl) (wd hw 77 rfl) (fun s hZ => notFace_of_selects (args := #[]) (mvT hZ (wd hw 79 rfl))) (wd hw 79 rfl) (wd hw 78 rfl) I.obj (argsL := [(.int q)]) (S := []) (cCont hw _ _ N q _ I _) rfl rfl rfl rfl rfl rfl (Nat.le_of_ble_eq_true rfl) (Nat.le_of_ble_eq_true rfl) ?_
            rintro _ _ _ ⟨⟨rfl, hm⟩ | ⟨rfl, hm⟩, rfl, rfl⟩
            · skip
              show WGo _ (178, [wI i0, wI i1, wI i2, wI i3, wI i4, wI i5, wI fb, wI fc, wI fd, wI kk, wI q, wR 0, wI 0], [.int 1], σ, u) _
              refine .s (.iload a0_178 rfl) <| .s (.icmpT a0_180 (by decide)) <| .s (.iconst (0 : Int32) a0_187 rfl) ?_
              refine .ireturn .boolean a0_188 rfl (by simp) ?_
              exfalso
              rw [hM] at hm
              simp only [Int32.lt_iff_toInt_lt, ← Int32.toInt_inj, Int32.reduceToInt] at *
              omega
            · skip
              show WGo _ (178, [wI i0, wI i1, wI i2, wI i3, wI i4, wI i5, wI fb, wI fc, wI fd, wI kk, wI q, wR 0, wI 0], [.int 0], σ, u) _
              refine .s (.iload a0_178 rfl) <| .s (.icmpF a0_180 (by decide)) <| .s (.iconst (1 : Int32) a0_183 rfl) <| .s (.goto a0_184) ?_
              refine .ireturn .boolean a0_188 rfl (by simp) ?_
              exact ⟨rfl, by omega, by omega⟩
          · refine .s (.iload a0_162 rfl) <| .s (.iloadN a0_164 rfl) ?_
            refine .ne a0_165 (fun h165 => ?_) (fun h165 => ?_)
            · refine .s (.aload a0_171 rfl rfl) <| .s (.iload a0_173 rfl) ?_
              refine .callV (k := 0) (z := (⟨"antecede/sets/LazySet", "contains", "(I)Z"⟩ : MethodName)) a0_175 (ok13 hw _ _ _ _) ⟨rfl, by decide⟩ (wd hw 76 rfl) (wd hw 77 rfl) (fun s hZ => notFace_of_selects (args := #[]) (mvT hZ (wd hw 79 rfl))) (wd hw 79 rfl) (wd hw 78 rfl) I.obj (argsL := [(.int q)]) (S := []) (cCont hw _ _ N q _ I _) rfl rfl rfl rfl rfl rfl (Nat.le_of_ble_eq_true rfl) (Nat.le_of_ble_eq_true rfl) ?_
              rintro _ _ _ ⟨⟨rfl, hm⟩ | ⟨rfl, hm⟩, rfl, rfl⟩
              · skip
                show WGo _ (178, [wI i0, wI i1, wI i2, wI i3, wI i4, wI i5, wI fb, wI fc, wI fd, wI kk, wI q, wR 0, wI 0], [.int 1], σ, u) _
                refine .s (.iload a0_178 rfl) <| .s (.icmpT a0_180 (by decide)) <| .s (.iconst (0 : Int32) a0_187 rfl) ?_
                refine .ireturn .boolean a0_188 rfl (by simp) ?_
                exfalso
                rw [hM] at hm
                simp only [Int32.lt_iff_toInt_lt, ← Int32.toInt_inj, Int32.reduceToInt] at *
                omega
              · skip
                show WGo _ (178, [wI i0, wI i1, wI i2, wI i3, wI i4, wI i5, wI fb, wI fc, wI fd, wI kk, wI q, wR 0, wI 0], [.int 0], σ, u) _
                refine .s (.iload a0_178 rfl) <| .s (.icmpF a0_180 (by decide)) <| .s (.iconst (1 : Int32) a0_183 rfl) <| .s (.goto a0_184) ?_
                refine .ireturn .boolean a0_188 rfl (by simp) ?_
                exact ⟨rfl, by omega, by omega⟩
            · refine .s (.iconst (1 : Int32) a0_168 rfl) <| .s (.istore (L' := [wI i0, wI i1, wI i2, wI i3, wI i4, wI i5, wI fb, wI fc, wI fd, wI kk, wI q, wR 0, wI 1]) a0_169 rfl) <| .s (.aload a0_171 rfl rfl) <| .s (.iload a0_173 rfl) ?_
              refine .callV (k := 0) (z := (⟨"antecede/sets/LazySet", "contains", "(I)Z"⟩ : MethodName)) a0_175 (ok13 hw _ _ _ _) ⟨rfl, by decide⟩ (wd hw 76 rfl) (wd hw 77 rfl) (fun s hZ => notFace_of_selects (args := #[]) (mvT hZ (wd hw 79 rfl))) (wd hw 79 rfl) (wd hw 78 rfl) I.obj (argsL := [(.int q)]) (S := []) (cCont hw _ _ N q _ I _) rfl rfl rfl rfl rfl rfl (Nat.le_of_ble_eq_true rfl) (Nat.le_of_ble_eq_true rfl) ?_
              rintro _ _ _ ⟨⟨rfl, hm⟩ | ⟨rfl, hm⟩, rfl, rfl⟩
              · skip
                show WGo _ (178, [wI i0, wI i1, wI i2, wI i3, wI i4, wI i5, wI fb, wI fc, wI fd, wI kk, wI q, wR 0, wI 1], [.int 1], σ, u) _
                refine .s (.iload a0_178 rfl) <| .s (.icmpF a0_180 (by decide)) <| .s (.iconst (1 : Int32) a0_183 rfl) <| .s (.goto a0_184) ?_
                refine .ireturn .boolean a0_188 rfl (by simp) ?_
                exact ⟨rfl, by omega, by omega⟩
              · skip
                show WGo _ (178, [wI i0, wI i1, wI i2, wI i3, wI i4, wI i5, wI fb, wI fc, wI fd, wI kk, wI q, wR 0, wI 1], [.int 0], σ, u) _
                refine .s (.iload a0_178 rfl) <| .s (.icmpT a0_180 (by decide)) <| .s (.iconst (0 : Int32) a0_187 rfl) ?_
                refine .ireturn .boolean a0_188 rfl (by simp) ?_
                exfalso
                rw [hM] at hm
                simp only [Int32.lt_iff_toInt_lt, ← Int32.toInt_inj, Int32.reduceToInt] at *
                omega
        · refine .s (.iload a0_148 rfl) <| .s (.iloadN a0_150 rfl) ?_
          refine .ne a0_151 (fun h151 => ?_) (fun h151 => ?_)
          · refine .s (.iload a0_157 rfl) ?_
            refine .eq0 a0_159 (fun h159 => ?_) (fun h159 => ?_)
            · refine .s (.aload a0_171 rfl rfl) <| .s (.iload a0_173 rfl) ?_
              refine .callV (k := 0) (z := (⟨"antecede/sets/LazySet", "contains", "(I)Z"⟩ : MethodName)) a0_175 (ok13 hw _ _ _ _) ⟨rfl, by decide⟩ (wd hw 76 rfl) (wd hw 77 rfl) (fun s hZ => notFace_of_selects (args := #[]) (mvT hZ (wd hw 79 rfl))) (wd hw 79 rfl) (wd hw 78 rfl) I.obj (argsL := [(.int q)]) (S := []) (cCont hw _ _ N q _ I _) rfl rfl rfl rfl rfl rfl (Nat.le_of_ble_eq_true rfl) (Nat.le_of_ble_eq_true rfl) ?_
              rintro _ _ _ ⟨⟨rfl, hm⟩ | ⟨rfl, hm⟩, rfl, rfl⟩
              · skip
                show WGo _ (178, [wI i0, wI i1, wI i2, wI i3, wI i4, wI i5, wI fb, wI fc, wI fd, wI kk, wI q, wR 0, wI 0], [.int 1], σ, u) _
                refine .s (.iload a0_178 rfl) <| .s (.icmpT a0_180 (by decide)) <| .s (.iconst (0 : Int32) a0_187 rfl) ?_
                refine .ireturn .boolean a0_188 rfl (by simp) ?_
                exfalso
                rw [hM] at hm
                simp only [Int32.lt_iff_toInt_lt, ← Int32.toInt_inj, Int32.reduceToInt] at *
                omega
              · skip
                show WGo _ (178, [wI i0, wI i1, wI i2, wI i3, wI i4, wI i5, wI fb, wI fc, wI fd, wI kk, wI q, wR 0, wI 0], [.int 0], σ, u) _
                refine .s (.iload a0_178 rfl) <| .s (.icmpF a0_180 (by decide)) <| .s (.iconst (1 : Int32) a0_183 rfl) <| .s (.goto a0_184) ?_
                refine .ireturn .boolean a0_188 rfl (by simp) ?_
                exact ⟨rfl, by omega, by omega⟩
            · refine .s (.iload a0_162 rfl) <| .s (.iloadN a0_164 rfl) ?_
              refine .ne a0_165 (fun h165 => ?_) (fun h165 => ?_)
              · refine .s (.aload a0_171 rfl rfl) <| .s (.iload a0_173 rfl) ?_
                refine .callV (k := 0) (z := (⟨"antecede/sets/LazySet", "contains", "(I)Z"⟩ : MethodName)) a0_175 (ok13 hw _ _ _ _) ⟨rfl, by decide⟩ (wd hw 76 rfl) (wd hw 77 rfl) (fun s hZ => notFace_of_selects (args := #[]) (mvT hZ (wd hw 79 rfl))) (wd hw 79 rfl) (wd hw 78 rfl) I.obj (argsL := [(.int q)]) (S := []) (cCont hw _ _ N q _ I _) rfl rfl rfl rfl rfl rfl (Nat.le_of_ble_eq_true rfl) (Nat.le_of_ble_eq_true rfl) ?_
                rintro _ _ _ ⟨⟨rfl, hm⟩ | ⟨rfl, hm⟩, rfl, rfl⟩
                · skip
                  show WGo _ (178, [wI i0, wI i1, wI i2, wI i3, wI i4, wI i5, wI fb, wI fc, wI fd, wI kk, wI q, wR 0, wI 0], [.int 1], σ, u) _
                  refine .s (.iload a0_178 rfl) <| .s (.icmpT a0_180 (by decide)) <| .s (.iconst (0 : Int32) a0_187 rfl) ?_
                  refine .ireturn .boolean a0_188 rfl (by simp) ?_
                  exfalso
                  rw [hM] at hm
                  simp only [Int32.lt_iff_toInt_lt, ← Int32.toInt_inj, Int32.reduceToInt] at *
                  omega
                · skip
                  show WGo _ (178, [wI i0, wI i1, wI i2, wI i3, wI i4, wI i5, wI fb, wI fc, wI fd, wI kk, wI q, wR 0, wI 0], [.int 0], σ, u) _
                  refine .s (.iload a0_178 rfl) <| .s (.icmpF a0_180 (by decide)) <| .s (.iconst (1 : Int32) a0_183 rfl) <| .s (.goto a0_184) ?_
                  refine .ireturn .boolean a0_188 rfl (by simp) ?_
                  exact ⟨rfl, by omega, by omega⟩
              · refine .s (.iconst (1 : Int32) a0_168 rfl) <| .s (.istore (L' := [wI i0, wI i1, wI i2, wI i3, wI i4, wI i5, wI fb, wI fc, wI fd, wI kk, wI q, wR 0, wI 1]) a0_169 rfl) <| .s (.aload a0_171 rfl rfl) <| .s (.iload a0_173 rfl) ?_
                refine .callV (k := 0) (z := (⟨"antecede/sets/LazySet", "contains", "(I)Z"⟩ : MethodName)) a0_175 (ok13 hw _ _ _ _) ⟨rfl, by decide⟩ (wd hw 76 rfl) (wd hw 77 rfl) (fun s hZ => notFace_of_selects (args := #[]) (mvT hZ (wd hw 79 rfl))) (wd hw 79 rfl) (wd hw 78 rfl) I.obj (argsL := [(.int q)]) (S := []) (cCont hw _ _ N q _ I _) rfl rfl rfl rfl rfl rfl (Nat.le_of_ble_eq_true rfl) (Nat.le_of_ble_eq_true rfl) ?_
                rintro _ _ _ ⟨⟨rfl, hm⟩ | ⟨rfl, hm⟩, rfl, rfl⟩
                · skip
                  show WGo _ (178, [wI i0, wI i1, wI i2, wI i3, wI i4, wI i5, wI fb, wI fc, wI fd, wI kk, wI q, wR 0, wI 1], [.int 1], σ, u) _
                  refine .s (.iload a0_178 rfl) <| .s (.icmpF a0_180 (by decide)) <| .s (.iconst (1 : Int32) a0_183 rfl) <| .s (.goto a0_184) ?_
                  refine .ireturn .boolean a0_188 rfl (by simp) ?_
                  exact ⟨rfl, by omega, by omega⟩
                · skip
                  show WGo _ (178, [wI i0, wI i1, wI i2, wI i3, wI i4, wI i5, wI fb, wI fc, wI fd, wI kk, wI q, wR 0, wI 1], [.int 0], σ, u) _
                  refine .s (.iload a0_178 rfl) <| .s (.icmpT a0_180 (by decide)) <| .s (.iconst (0 : Int32) a0_187 rfl) ?_
                  refine .ireturn .boolean a0_188 rfl (by simp) ?_
                  exfalso
                  rw [hM] at hm
                  simp only [Int32.lt_iff_toInt_lt, ← Int32.toInt_inj, Int32.reduceToInt] at *
                  omega
          · refine .s (.iconst (0 : Int32) a0_154 rfl) <| .s (.istore (L' := [wI i0, wI i1, wI i2, wI i3, wI i4, wI i5, wI fb, wI fc, wI fd, wI kk, wI q, wR 0, wI 0]) a0_155 rfl) <| .s (.iload a0_157 rfl) ?_
            refine .eq0 a0_159 (fun h159 => ?_) (fun h159 => ?_)
            · refine .s (.aload a0_171 rfl rfl) <| .s (.iload a0_173 rfl) ?_
              refine .callV (k := 0) (z := (⟨"antecede/sets/LazySet", "contains", "(I)Z"⟩ : MethodName)) a0_175 (ok13 hw _ _ _ _) ⟨rfl, by decide⟩ (wd hw 76 rfl) (wd hw 77 rfl) (fun s hZ => notFace_of_selects (args := #[]) (mvT hZ (wd hw 79 rfl))) (wd hw 79 rfl) (wd hw 78 rfl) I.obj (argsL := [(.int q)]) (S := []) (cCont hw _ _ N q _ I _) rfl rfl rfl rfl rfl rfl (Nat.le_of_ble_eq_true rfl) (Nat.le_of_ble_eq_true rfl) ?_
              rintro _ _ _ ⟨⟨rfl, hm⟩ | ⟨rfl, hm⟩, rfl, rfl⟩
              · skip
                show WGo _ (178, [wI i0, wI i1, wI i2, wI i3, wI i4, wI i5, wI fb, wI fc, wI fd, wI kk, wI q, wR 0, wI 0], [.int 1], σ, u) _
                refine .s (.iload a0_178 rfl) <| .s (.icmpT a0_180 (by decide)) <| .s (.iconst (0 : Int32) a0_187 rfl) ?_
                refine .ireturn .boolean a0_188 rfl (by simp) ?_
                exfalso
                rw [hM] at hm
                simp only [Int32.lt_iff_toInt_lt, ← Int32.toInt_inj, Int32.reduceToInt] at *
                omega
              · skip
                show WGo _ (178, [wI i0, wI i1, wI i2, wI i3, wI i4, wI i5, wI fb, wI fc, wI fd, wI kk, wI q, wR 0, wI 0], [.int 0], σ, u) _
                refine .s (.iload a0_178 rfl) <| .s (.icmpF a0_180 (by decide)) <| .s (.iconst (1 : Int32) a0_183 rfl) <| .s (.goto a0_184) ?_
                refine .ireturn .boolean a0_188 rfl (by simp) ?_
                exact ⟨rfl, by omega, by omega⟩
            · refine .s (.iload a0_162 rfl) <| .s (.iloadN a0_164 rfl) ?_
              refine .ne a0_165 (fun h165 => ?_) (fun h165 => ?_)
              · refine .s (.aload a0_171 rfl rfl) <| .s (.iload a0_173 rfl) ?_
                refine .callV (k := 0) (z := (⟨"antecede/sets/LazySet", "contains", "(I)Z"⟩ : MethodName)) a0_175 (ok13 hw _ _ _ _) ⟨rfl, by decide⟩ (wd hw 76 rfl) (wd hw 77 rfl) (fun s hZ => notFace_of_selects (args := #[]) (mvT hZ (wd hw 79 rfl))) (wd hw 79 rfl) (wd hw 78 rfl) I.obj (argsL := [(.int q)]) (S := []) (cCont hw _ _ N q _ I _) rfl rfl rfl rfl rfl rfl (Nat.le_of_ble_eq_true rfl) (Nat.le_of_ble_eq_true rfl) ?_
                rintro _ _ _ ⟨⟨rfl, hm⟩ | ⟨rfl, hm⟩, rfl, rfl⟩
                · skip
                  show WGo _ (178, [wI i0, wI i1, wI i2, wI i3, wI i4, wI i5, wI fb, wI fc, wI fd, wI kk, wI q, wR 0, wI 0], [.int 1], σ, u) _
                  refine .s (.iload a0_178 rfl) <| .s (.icmpT a0_180 (by decide)) <| .s (.iconst (0 : Int32) a0_187 rfl) ?_
                  refine .ireturn .boolean a0_188 rfl (by simp) ?_
                  exfalso
                  rw [hM] at hm
                  simp only [Int32.lt_iff_toInt_lt, ← Int32.toInt_inj, Int32.reduceToInt] at *
                  omega
                · skip
                  show WGo _ (178, [wI i0, wI i1, wI i2, wI i3, wI i4, wI i5, wI fb, wI fc, wI fd, wI kk, wI q, wR 0, wI 0], [.int 0], σ, u) _
                  refine .s (.iload a0_178 rfl) <| .s (.icmpF a0_180 (by decide)) <| .s (.iconst (1 : Int32) a0_183 rfl) <| .s (.goto a0_184) ?_
                  refine .ireturn .boolean a0_188 rfl (by simp) ?_
                  exact ⟨rfl, by omega, by omega⟩
              · refine .s (.iconst (1 : Int32) a0_168 rfl) <| .s (.istore (L' := [wI i0, wI i1, wI i2, wI i3, wI i4, wI i5, wI fb, wI fc, wI fd, wI kk, wI q, wR 0, wI 1]) a0_169 rfl) <| .s (.aload a0_171 rfl rfl) <| .s (.iload a0_173 rfl) ?_
                refine .callV (k := 0) (z := (⟨"antecede/sets/LazySet", "contains", "(I)Z"⟩ : MethodName)) a0_175 (ok13 hw _ _ _ _) ⟨rfl, by decide⟩ (wd hw 76 rfl) (wd hw 77 rfl) (fun s hZ => notFace_of_selects (args := #[]) (mvT hZ (wd hw 79 rfl))) (wd hw 79 rfl) (wd hw 78 rfl) I.obj (argsL := [(.int q)]) (S := []) (cCont hw _ _ N q _ I _) rfl rfl rfl rfl rfl rfl (Nat.le_of_ble_eq_true rfl) (Nat.le_of_ble_eq_true rfl) ?_
                rintro _ _ _ ⟨⟨rfl, hm⟩ | ⟨rfl, hm⟩, rfl, rfl⟩
                · skip
                  show WGo _ (178, [wI i0, wI i1, wI i2, wI i3, wI i4, wI i5, wI fb, wI fc, wI fd, wI kk, wI q, wR 0, wI 1], [.int 1], σ, u) _
                  refine .s (.iload a0_178 rfl) <| .s (.icmpF a0_180 (by decide)) <| .s (.iconst (1 : Int32) a0_183 rfl) <| .s (.goto a0_184) ?_
                  refine .ireturn .boolean a0_188 rfl (by simp) ?_
                  exact ⟨rfl, by omega, by omega⟩
                · skip
                  show WGo _ (178, [wI i0, wI i1, wI i2, wI i3, wI i4, wI i5, wI fb, wI fc, wI fd, wI kk, wI q, wR 0, wI 1], [.int 0], σ, u) _
                  refine .s (.iload a0_178 rfl) <| .s (.icmpT a0_180 (by decide)) <| .s (.iconst (0 : Int32) a0_187 rfl) ?_
                  refine .ireturn .boolean a0_188 rfl (by simp) ?_
                  exfalso
                  rw [hM] at hm
                  simp only [Int32.lt_iff_toInt_lt, ← Int32.toInt_inj, Int32.reduceToInt] at *
                  omega
      · refine .s (.iconst (1 : Int32) a0_136 rfl) <| .s (.goto a0_137) <| .s (.istore (L' := [wI i0, wI i1, wI i2, wI i3, wI i4, wI i5, wI fb, wI fc, wI fd, wI kk, wI q, wR 0, wI 1]) a0_141 rfl) <| .s (.iload a0_143 rfl) ?_
        refine .eq0 a0_145 (fun h145 => ?_) (fun h145 => ?_)
        · refine .s (.iload a0_157 rfl) ?_
          refine .eq0 a0_159 (fun h159 => ?_) (fun h159 => ?_)
          · refine .s (.aload a0_171 rfl rfl) <| .s (.iload a0_173 rfl) ?_
            refine .callV (k := 0) (z := (⟨"antecede/sets/LazySet", "contains", "(I)Z"⟩ : MethodName)) a0_175 (ok13 hw _ _ _ _) ⟨rfl, by decide⟩ (wd hw 76 rfl) (wd hw 77 rfl) (fun s hZ => notFace_of_selects (args := #[]) (mvT hZ (wd hw 79 rfl))) (wd hw 79 rfl) (wd hw 78 rfl) I.obj (argsL := [(.int q)]) (S := []) (cCont hw _ _ N q _ I _) rfl rfl rfl rfl rfl rfl (Nat.le_of_ble_eq_true rfl) (Nat.le_of_ble_eq_true rfl) ?_
            rintro _ _ _ ⟨⟨rfl, hm⟩ | ⟨rfl, hm⟩, rfl, rfl⟩
            · skip
              show WGo _ (178, [wI i0, wI i1, wI i2, wI i3, wI i4, wI i5, wI fb, wI fc, wI fd, wI kk, wI q, wR 0, wI 1], [.int 1], σ, u) _
              refine .s (.iload a0_178 rfl) <| .s (.icmpF a0_180 (by decide)) <| .s (.iconst (1 : Int32) a0_183 rfl) <| .s (.goto a0_184) ?_
              refine .ireturn .boolean a0_188 rfl (by simp) ?_
              exact ⟨rfl, by omega, by omega⟩
            · skip
              show WGo _ (178, [wI i0, wI i1, wI i2, wI i3, wI i4, wI i5, wI fb, wI fc, wI fd, wI kk, wI q, wR 0, wI 1], [.int 0], σ, u) _
              refine .s (.iload a0_178 rfl) <| .s (.icmpT a0_180 (by decide)) <| .s (.iconst (0 : Int32) a0_187 rfl) ?_
              refine .ireturn .boolean a0_188 rfl (by simp) ?_
              exfalso
              rw [hM] at hm
              simp only [Int32.lt_iff_toInt_lt, ← Int32.toInt_inj, Int32.reduceToInt] at *
              omega
          · refine .s (.iload a0_162 rfl) <| .s (.iloadN a0_164 rfl) ?_
            refine .ne a0_165 (fun h165 => ?_) (fun h165 => ?_)
            · refine .s (.aload a0_171 rfl rfl) <| .s (.iload a0_173 rfl) ?_
              refine .callV (k := 0) (z := (⟨"antecede/sets/LazySet", "contains", "(I)Z"⟩ : MethodName)) a0_175 (ok13 hw _ _ _ _) ⟨rfl, by decide⟩ (wd hw 76 rfl) (wd hw 77 rfl) (fun s hZ => notFace_of_selects (args := #[]) (mvT hZ (wd hw 79 rfl))) (wd hw 79 rfl) (wd hw 78 rfl) I.obj (argsL := [(.int q)]) (S := []) (cCont hw _ _ N q _ I _) rfl rfl rfl rfl rfl rfl (Nat.le_of_ble_eq_true rfl) (Nat.le_of_ble_eq_true rfl) ?_
              rintro _ _ _ ⟨⟨rfl, hm⟩ | ⟨rfl, hm⟩, rfl, rfl⟩
              · skip
                show WGo _ (178, [wI i0, wI i1, wI i2, wI i3, wI i4, wI i5, wI fb, wI fc, wI fd, wI kk, wI q, wR 0, wI 1], [.int 1], σ, u) _
                refine .s (.iload a0_178 rfl) <| .s (.icmpF a0_180 (by decide)) <| .s (.iconst (1 : Int32) a0_183 rfl) <| .s (.goto a0_184) ?_
                refine .ireturn .boolean a0_188 rfl (by simp) ?_
                exact ⟨rfl, by omega, by omega⟩
              · skip
                show WGo _ (178, [wI i0, wI i1, wI i2, wI i3, wI i4, wI i5, wI fb, wI fc, wI fd, wI kk, wI q, wR 0, wI 1], [.int 0], σ, u) _
                refine .s (.iload a0_178 rfl) <| .s (.icmpT a0_180 (by decide)) <| .s (.iconst (0 : Int32) a0_187 rfl) ?_
                refine .ireturn .boolean a0_188 rfl (by simp) ?_
                exfalso
                rw [hM] at hm
                simp only [Int32.lt_iff_toInt_lt, ← Int32.toInt_inj, Int32.reduceToInt] at *
                omega
            · refine .s (.iconst (1 : Int32) a0_168 rfl) <| .s (.istore (L' := [wI i0, wI i1, wI i2, wI i3, wI i4, wI i5, wI fb, wI fc, wI fd, wI kk, wI q, wR 0, wI 1]) a0_169 rfl) <| .s (.aload a0_171 rfl rfl) <| .s (.iload a0_173 rfl) ?_
              refine .callV (k := 0) (z := (⟨"antecede/sets/LazySet", "contains", "(I)Z"⟩ : MethodName)) a0_175 (ok13 hw _ _ _ _) ⟨rfl, by decide⟩ (wd hw 76 rfl) (wd hw 77 rfl) (fun s hZ => notFace_of_selects (args := #[]) (mvT hZ (wd hw 79 rfl))) (wd hw 79 rfl) (wd hw 78 rfl) I.obj (argsL := [(.int q)]) (S := []) (cCont hw _ _ N q _ I _) rfl rfl rfl rfl rfl rfl (Nat.le_of_ble_eq_true rfl) (Nat.le_of_ble_eq_true rfl) ?_
              rintro _ _ _ ⟨⟨rfl, hm⟩ | ⟨rfl, hm⟩, rfl, rfl⟩
              · skip
                show WGo _ (178, [wI i0, wI i1, wI i2, wI i3, wI i4, wI i5, wI fb, wI fc, wI fd, wI kk, wI q, wR 0, wI 1], [.int 1], σ, u) _
                refine .s (.iload a0_178 rfl) <| .s (.icmpF a0_180 (by decide)) <| .s (.iconst (1 : Int32) a0_183 rfl) <| .s (.goto a0_184) ?_
                refine .ireturn .boolean a0_188 rfl (by simp) ?_
                exact ⟨rfl, by omega, by omega⟩
              · skip
                show WGo _ (178, [wI i0, wI i1, wI i2, wI i3, wI i4, wI i5, wI fb, wI fc, wI fd, wI kk, wI q, wR 0, wI 1], [.int 0], σ, u) _
                refine .s (.iload a0_178 rfl) <| .s (.icmpT a0_180 (by decide)) <| .s (.iconst (0 : Int32) a0_187 rfl) ?_
                refine .ireturn .boolean a0_188 rfl (by simp) ?_
                exfalso
                rw [hM] at hm
                simp only [Int32.lt_iff_toInt_lt, ← Int32.toInt_inj, Int32.reduceToInt] at *
                omega
        · refine .s (.iload a0_148 rfl) <| .s (.iloadN a0_150 rfl) ?_
          refine .ne a0_151 (fun h151 => ?_) (fun h151 => ?_)
          · refine .s (.iload a0_157 rfl) ?_
            refine .eq0 a0_159 (fun h159 => ?_) (fun h159 => ?_)
            · refine .s (.aload a0_171 rfl rfl) <| .s (.iload a0_173 rfl) ?_
              refine .callV (k := 0) (z := (⟨"antecede/sets/LazySet", "contains", "(I)Z"⟩ : MethodName)) a0_175 (ok13 hw _ _ _ _) ⟨rfl, by decide⟩ (wd hw 76 rfl) (wd hw 77 rfl) (fun s hZ => notFace_of_selects (args := #[]) (mvT hZ (wd hw 79 rfl))) (wd hw 79 rfl) (wd hw 78 rfl) I.obj (argsL := [(.int q)]) (S := []) (cCont hw _ _ N q _ I _) rfl rfl rfl rfl rfl rfl (Nat.le_of_ble_eq_true rfl) (Nat.le_of_ble_eq_true rfl) ?_
              rintro _ _ _ ⟨⟨rfl, hm⟩ | ⟨rfl, hm⟩, rfl, rfl⟩
              · skip
                show WGo _ (178, [wI i0, wI i1, wI i2, wI i3, wI i4, wI i5, wI fb, wI fc, wI fd, wI kk, wI q, wR 0, wI 1], [.int 1], σ, u) _
                refine .s (.iload a0_178 rfl) <| .s (.icmpF a0_180 (by decide)) <| .s (.iconst (1 : Int32) a0_183 rfl) <| .s (.goto a0_184) ?_
                refine .ireturn .boolean a0_188 rfl (by simp) ?_
                exact ⟨rfl, by omega, by omega⟩
              · skip
                show WGo _ (178, [wI i0, wI i1, wI i2, wI i3, wI i4, wI i5, wI fb, wI fc, wI fd, wI kk, wI q, wR 0, wI 1], [.int 0], σ, u) _
                refine .s (.iload a0_178 rfl) <| .s (.icmpT a0_180 (by decide)) <| .s (.iconst (0 : Int32) a0_187 rfl) ?_
                refine .ireturn .boolean a0_188 rfl (by simp) ?_
                exfalso
                rw [hM] at hm
                simp only [Int32.lt_iff_toInt_lt, ← Int32.toInt_inj, Int32.reduceToInt] at *
                omega
            · refine .s (.iload a0_162 rfl) <| .s (.iloadN a0_164 rfl) ?_
              refine .ne a0_165 (fun h165 => ?_) (fun h165 => ?_)
              · refine .s (.aload a0_171 rfl rfl) <| .s (.iload a0_173 rfl) ?_
                refine .callV (k := 0) (z := (⟨"antecede/sets/LazySet", "contains", "(I)Z"⟩ : MethodName)) a0_175 (ok13 hw _ _ _ _) ⟨rfl, by decide⟩ (wd hw 76 rfl) (wd hw 77 rfl) (fun s hZ => notFace_of_selects (args := #[]) (mvT hZ (wd hw 79 rfl))) (wd hw 79 rfl) (wd hw 78 rfl) I.obj (argsL := [(.int q)]) (S := []) (cCont hw _ _ N q _ I _) rfl rfl rfl rfl rfl rfl (Nat.le_of_ble_eq_true rfl) (Nat.le_of_ble_eq_true rfl) ?_
                rintro _ _ _ ⟨⟨rfl, hm⟩ | ⟨rfl, hm⟩, rfl, rfl⟩
                · skip
                  show WGo _ (178, [wI i0, wI i1, wI i2, wI i3, wI i4, wI i5, wI fb, wI fc, wI fd, wI kk, wI q, wR 0, wI 1], [.int 1], σ, u) _
                  refine .s (.iload a0_178 rfl) <| .s (.icmpF a0_180 (by decide)) <| .s (.iconst (1 : Int32) a0_183 rfl) <| .s (.goto a0_184) ?_
                  refine .ireturn .boolean a0_188 rfl (by simp) ?_
                  exact ⟨rfl, by omega, by omega⟩
                · skip
                  show WGo _ (178, [wI i0, wI i1, wI i2, wI i3, wI i4, wI i5, wI fb, wI fc, wI fd, wI kk, wI q, wR 0, wI 1], [.int 0], σ, u) _
                  refine .s (.iload a0_178 rfl) <| .s (.icmpT a0_180 (by decide)) <| .s (.iconst (0 : Int32) a0_187 rfl) ?_
                  refine .ireturn .boolean a0_188 rfl (by simp) ?_
                  exfalso
                  rw [hM] at hm
                  simp only [Int32.lt_iff_toInt_lt, ← Int32.toInt_inj, Int32.reduceToInt] at *
                  omega
              · refine .s (.iconst (1 : Int32) a0_168 rfl) <| .s (.istore (L' := [wI i0, wI i1, wI i2, wI i3, wI i4, wI i5, wI fb, wI fc, wI fd, wI kk, wI q, wR 0, wI 1]) a0_169 rfl) <| .s (.aload a0_171 rfl rfl) <| .s (.iload a0_173 rfl) ?_
                refine .callV (k := 0) (z := (⟨"antecede/sets/LazySet", "contains", "(I)Z"⟩ : MethodName)) a0_175 (ok13 hw _ _ _ _) ⟨rfl, by decide⟩ (wd hw 76 rfl) (wd hw 77 rfl) (fun s hZ => notFace_of_selects (args := #[]) (mvT hZ (wd hw 79 rfl))) (wd hw 79 rfl) (wd hw 78 rfl) I.obj (argsL := [(.int q)]) (S := []) (cCont hw _ _ N q _ I _) rfl rfl rfl rfl rfl rfl (Nat.le_of_ble_eq_true rfl) (Nat.le_of_ble_eq_true rfl) ?_
                rintro _ _ _ ⟨⟨rfl, hm⟩ | ⟨rfl, hm⟩, rfl, rfl⟩
                · skip
                  show WGo _ (178, [wI i0, wI i1, wI i2, wI i3, wI i4, wI i5, wI fb, wI fc, wI fd, wI kk, wI q, wR 0, wI 1], [.int 1], σ, u) _
                  refine .s (.iload a0_178 rfl) <| .s (.icmpF a0_180 (by decide)) <| .s (.iconst (1 : Int32) a0_183 rfl) <| .s (.goto a0_184) ?_
                  refine .ireturn .boolean a0_188 rfl (by simp) ?_
                  exact ⟨rfl, by omega, by omega⟩
                · skip
                  show WGo _ (178, [wI i0, wI i1, wI i2, wI i3, wI i4, wI i5, wI fb, wI fc, wI fd, wI kk, wI q, wR 0, wI 1], [.int 0], σ, u) _
                  refine .s (.iload a0_178 rfl) <| .s (.icmpT a0_180 (by decide)) <| .s (.iconst (0 : Int32) a0_187 rfl) ?_
                  refine .ireturn .boolean a0_188 rfl (by simp) ?_
                  exfalso
                  rw [hM] at hm
                  simp only [Int32.lt_iff_toInt_lt, ← Int32.toInt_inj, Int32.reduceToInt] at *
                  omega
          · refine .s (.iconst (0 : Int32) a0_154 rfl) <| .s (.istore (L' := [wI i0, wI i1, wI i2, wI i3, wI i4, wI i5, wI fb, wI fc, wI fd, wI kk, wI q, wR 0, wI 0]) a0_155 rfl) <| .s (.iload a0_157 rfl) ?_
            refine .eq0 a0_159 (fun h159 => ?_) (fun h159 => ?_)
            · refine .s (.aload a0_171 rfl rfl) <| .s (.iload a0_173 rfl) ?_
              refine .callV (k := 0) (z := (⟨"antecede/sets/LazySet", "contains", "(I)Z"⟩ : MethodName)) a0_175 (ok13 hw _ _ _ _) ⟨rfl, by decide⟩ (wd hw 76 rfl) (wd hw 77 rfl) (fun s hZ => notFace_of_selects (args := #[]) (mvT hZ (wd hw 79 rfl))) (wd hw 79 rfl) (wd hw 78 rfl) I.obj (argsL := [(.int q)]) (S := []) (cCont hw _ _ N q _ I _) rfl rfl rfl rfl rfl rfl (Nat.le_of_ble_eq_true rfl) (Nat.le_of_ble_eq_true rfl) ?_
              rintro _ _ _ ⟨⟨rfl, hm⟩ | ⟨rfl, hm⟩, rfl, rfl⟩
              · skip
                show WGo _ (178, [wI i0, wI i1, wI i2, wI i3, wI i4, wI i5, wI fb, wI fc, wI fd, wI kk, wI q, wR 0, wI 0], [.int 1], σ, u) _
                refine .s (.iload a0_178 rfl) <| .s (.icmpT a0_180 (by decide)) <| .s (.iconst (0 : Int32) a0_187 rfl) ?_
                refine .ireturn .boolean a0_188 rfl (by simp) ?_
                exfalso
                rw [hM] at hm
                simp only [Int32.lt_iff_toInt_lt, ← Int32.toInt_inj, Int32.reduceToInt] at *
                omega
              · skip
                show WGo _ (178, [wI i0, wI i1, wI i2, wI i3, wI i4, wI i5, wI fb, wI fc, wI fd, wI kk, wI q, wR 0, wI 0], [.int 0], σ, u) _
                refine .s (.iload a0_178 rfl) <| .s (.icmpF a0_180 (by decide)) <| .s (.iconst (1 : Int32) a0_183 rfl) <| .s (.goto a0_184) ?_
                refine .ireturn .boolean a0_188 rfl (by simp) ?_
                exact ⟨rfl, by omega, by omega⟩
            · refine .s (.iload a0_162 rfl) <| .s (.iloadN a0_164 rfl) ?_
              refine .ne a0_165 (fun h165 => ?_) (fun h165 => ?_)
              · refine .s (.aload a0_171 rfl rfl) <| .s (.iload a0_173 rfl) ?_
                refine .callV (k := 0) (z := (⟨"antecede/sets/LazySet", "contains", "(I)Z"⟩ : MethodName)) a0_175 (ok13 hw _ _ _ _) ⟨rfl, by decide⟩ (wd hw 76 rfl) (wd hw 77 rfl) (fun s hZ => notFace_of_selects (args := #[]) (mvT hZ (wd hw 79 rfl))) (wd hw 79 rfl) (wd hw 78 rfl) I.obj (argsL := [(.int q)]) (S := []) (cCont hw _ _ N q _ I _) rfl rfl rfl rfl rfl rfl (Nat.le_of_ble_eq_true rfl) (Nat.le_of_ble_eq_true rfl) ?_
                rintro _ _ _ ⟨⟨rfl, hm⟩ | ⟨rfl, hm⟩, rfl, rfl⟩
                · skip
                  show WGo _ (178, [wI i0, wI i1, wI i2, wI i3, wI i4, wI i5, wI fb, wI fc, wI fd, wI kk, wI q, wR 0, wI 0], [.int 1], σ, u) _
                  refine .s (.iload a0_178 rfl) <| .s (.icmpT a0_180 (by decide)) <| .s (.iconst (0 : Int32) a0_187 rfl) ?_
                  refine .ireturn .boolean a0_188 rfl (by simp) ?_
                  exfalso
                  rw [hM] at hm
                  simp only [Int32.lt_iff_toInt_lt, ← Int32.toInt_inj, Int32.reduceToInt] at *
                  omega
                · skip
                  show WGo _ (178, [wI i0, wI i1, wI i2, wI i3, wI i4, wI i5, wI fb, wI fc, wI fd, wI kk, wI q, wR 0, wI 0], [.int 0], σ, u) _
                  refine .s (.iload a0_178 rfl) <| .s (.icmpF a0_180 (by decide)) <| .s (.iconst (1 : Int32) a0_183 rfl) <| .s (.goto a0_184) ?_
                  refine .ireturn .boolean a0_188 rfl (by simp) ?_
                  exact ⟨rfl, by omega, by omega⟩
              · refine .s (.iconst (1 : Int32) a0_168 rfl) <| .s (.istore (L' := [wI i0, wI i1, wI i2, wI i3, wI i4, wI i5, wI fb, wI fc, wI fd, wI kk, wI q, wR 0, wI 1]) a0_169 rfl) <| .s (.aload a0_171 rfl rfl) <| .s (.iload a0_173 rfl) ?_
                refine .callV (k := 0) (z := (⟨"antecede/sets/LazySet", "contains", "(I)Z"⟩ : MethodName)) a0_175 (ok13 hw _ _ _ _) ⟨rfl, by decide⟩ (wd hw 76 rfl) (wd hw 77 rfl) (fun s hZ => notFace_of_selects (args := #[]) (mvT hZ (wd hw 79 rfl))) (wd hw 79 rfl) (wd hw 78 rfl) I.obj (argsL := [(.int q)]) (S := []) (cCont hw _ _ N q _ I _) rfl rfl rfl rfl rfl rfl (Nat.le_of_ble_eq_true rfl) (Nat.le_of_ble_eq_true rfl) ?_
                rintro _ _ _ ⟨⟨rfl, hm⟩ | ⟨rfl, hm⟩, rfl, rfl⟩
                · skip
                  show WGo _ (178, [wI i0, wI i1, wI i2, wI i3, wI i4, wI i5, wI fb, wI fc, wI fd, wI kk, wI q, wR 0, wI 1], [.int 1], σ, u) _
                  refine .s (.iload a0_178 rfl) <| .s (.icmpF a0_180 (by decide)) <| .s (.iconst (1 : Int32) a0_183 rfl) <| .s (.goto a0_184) ?_
                  refine .ireturn .boolean a0_188 rfl (by simp) ?_
                  exact ⟨rfl, by omega, by omega⟩
                · skip
                  show WGo _ (178, [wI i0, wI i1, wI i2, wI i3, wI i4, wI i5, wI fb, wI fc, wI fd, wI kk, wI q, wR 0, wI 1], [.int 0], σ, u) _
                  refine .s (.iload a0_178 rfl) <| .s (.icmpT a0_180 (by decide)) <| .s (.iconst (0 : Int32) a0_187 rfl) ?_
                  refine .ireturn .boolean a0_188 rfl (by simp) ?_
                  exfalso
                  rw [hM] at hm
                  simp only [Int32.lt_iff_toInt_lt, ← Int32.toInt_inj, Int32.reduceToInt] at *
                  omega
set_option maxHeartbeats 4000000 in
theorem s107 (Z : State) (a0 : Array Value) (hw : ∀ d ∈ tables_1, d.before a0 Z = true) (n0 : Nat) (i0 i1 i2 i3 i4 i5 fb fc fd kk q : Int32) (σ : WHp) (N : List Nd) (I : Inv σ N) (hM : memN N q.toInt64 ↔ ((q = i0 ∨ (¬ fb = 0 ∧ q = i1)) ∧ ¬ (¬ fc = 0 ∧ q = i2))) (u : Nat) (hl : σ.length ≤ 18) (hu : u ≤ 95) : WGo (g0 Z (fun k => n0 + k) (n0, []) 0 0) (107, [wI i0, wI i1, wI i2, wI i3, wI i4, wI i5, wI fb, wI fc, wI fd, wI kk, wI q, wR 0, wU], [], σ, u) (fun v σ' u' => v = some (.int 1) ∧ σ'.length ≤ 32 ∧ u' ≤ 128) := by
  refine .s (.iload a0_107 rfl) ?_
  refine .eq0 a0_109 (fun h109 => ?_) (fun h109 => ?_)
  · exact s119 Z a0 hw n0 i0 i1 i2 i3 i4 i5 fb fc fd kk q σ N I (by rw [hM]; simp [h109]) u (by omega) (by omega)
  · refine .s (.aload a0_112 rfl rfl) <| .s (.iloadN a0_114 rfl) ?_
    refine .callVW (k := 0) (z := (⟨"antecede/sets/LazySet", "add", "(I)Z"⟩ : MethodName)) a0_115 (ok5 hw _ _ _ _) ⟨rfl, by decide⟩ (wd hw 29 rfl) (wd hw 30 rfl) (fun s hZ => notFace_of_selects (args := #[]) (mvT hZ (wd hw 32 rfl))) (wd hw 32 rfl) (wd hw 31 rfl) I.obj (argsL := [(.int i3)]) (S := []) (cAdd hw _ _ N i3 _ I (by omega) _) rfl rfl rfl rfl rfl rfl (Nat.le_of_ble_eq_true rfl) (Nat.le_of_ble_eq_true rfl) ?_
    rintro _ σ2 u2 ⟨⟨z0, rfl⟩, ⟨N2, I2, hm⟩, hl2, hu2⟩
    show WGo _ (118, [wI i0, wI i1, wI i2, wI i3, wI i4, wI i5, wI fb, wI fc, wI fd, wI kk, wI q, wR 0, wU], [(.int z0)], σ2, u2) _
    refine .s (.pop a0_118 rfl) ?_
    exact s119 Z a0 hw n0 i0 i1 i2 i3 i4 i5 fb fc fd kk q σ2 N2 I2 (by rw [hm, hM, i64_inj]; simp [h109]) u2 (by omega) (by omega)
set_option maxHeartbeats 4000000 in
theorem s95 (Z : State) (a0 : Array Value) (hw : ∀ d ∈ tables_1, d.before a0 Z = true) (n0 : Nat) (i0 i1 i2 i3 i4 i5 fb fc fd kk q : Int32) (σ : WHp) (N : List Nd) (I : Inv σ N) (hM : memN N q.toInt64 ↔ (q = i0 ∨ (¬ fb = 0 ∧ q = i1))) (u : Nat) (hl : σ.length ≤ 16) (hu : u ≤ 90) : WGo (g0 Z (fun k => n0 + k) (n0, []) 0 0) (95, [wI i0, wI i1, wI i2, wI i3, wI i4, wI i5, wI fb, wI fc, wI fd, wI kk, wI q, wR 0, wU], [], σ, u) (fun v σ' u' => v = some (.int 1) ∧ σ'.length ≤ 32 ∧ u' ≤ 128) := by
  refine .s (.iload a0_95 rfl) ?_
  refine .eq0 a0_97 (fun h97 => ?_) (fun h97 => ?_)
  · exact s107 Z a0 hw n0 i0 i1 i2 i3 i4 i5 fb fc fd kk q σ N I (by rw [hM]; simp [h97]) u (by omega) (by omega)
  · refine .s (.aload a0_100 rfl rfl) <| .s (.iloadN a0_102 rfl) ?_
    refine .callVW (k := 0) (z := (⟨"antecede/sets/LazySet", "remove", "(I)Z"⟩ : MethodName)) a0_103 (ok12 hw _ _ _ _) ⟨rfl, by decide⟩ (wd hw 71 rfl) (wd hw 72 rfl) (fun s hZ => notFace_of_selects (args := #[]) (mvT hZ (wd hw 74 rfl))) (wd hw 74 rfl) (wd hw 73 rfl) I.obj (argsL := [(.int i2)]) (S := []) (cRem hw _ _ N i2 _ I (by omega) _) rfl rfl rfl rfl rfl rfl (Nat.le_of_ble_eq_true rfl) (Nat.le_of_ble_eq_true rfl) ?_
    rintro _ σ2 u2 ⟨⟨z0, rfl⟩, ⟨N2, I2, hm⟩, hl2, hu2⟩
    show WGo _ (106, [wI i0, wI i1, wI i2, wI i3, wI i4, wI i5, wI fb, wI fc, wI fd, wI kk, wI q, wR 0, wU], [(.int z0)], σ2, u2) _
    refine .s (.pop a0_106 rfl) ?_
    exact s107 Z a0 hw n0 i0 i1 i2 i3 i4 i5 fb fc fd kk q σ2 N2 I2 (by rw [hm, hM, i64_inj]; simp [h97]) u2 (by omega) (by omega)
set_option maxHeartbeats 4000000 in
theorem s83 (Z : State) (a0 : Array Value) (hw : ∀ d ∈ tables_1, d.before a0 Z = true) (n0 : Nat) (i0 i1 i2 i3 i4 i5 fb fc fd kk q : Int32) (σ : WHp) (N : List Nd) (I : Inv σ N) (hM : memN N q.toInt64 ↔ q = i0) (u : Nat) (hl : σ.length ≤ 14) (hu : u ≤ 85) : WGo (g0 Z (fun k => n0 + k) (n0, []) 0 0) (83, [wI i0, wI i1, wI i2, wI i3, wI i4, wI i5, wI fb, wI fc, wI fd, wI kk, wI q, wR 0, wU], [], σ, u) (fun v σ' u' => v = some (.int 1) ∧ σ'.length ≤ 32 ∧ u' ≤ 128) := by
  refine .s (.iload a0_83 rfl) ?_
  refine .eq0 a0_85 (fun h85 => ?_) (fun h85 => ?_)
  · exact s95 Z a0 hw n0 i0 i1 i2 i3 i4 i5 fb fc fd kk q σ N I (by rw [hM]; simp [h85]) u (by omega) (by omega)
  · refine .s (.aload a0_88 rfl rfl) <| .s (.iloadN a0_90 rfl) ?_
    refine .callVW (k := 0) (z := (⟨"antecede/sets/LazySet", "add", "(I)Z"⟩ : MethodName)) a0_91 (ok5 hw _ _ _ _) ⟨rfl, by decide⟩ (wd hw 29 rfl) (wd hw 30 rfl) (fun s hZ => notFace_of_selects (args := #[]) (mvT hZ (wd hw 32 rfl))) (wd hw 32 rfl) (wd hw 31 rfl) I.obj (argsL := [(.int i1)]) (S := []) (cAdd hw _ _ N i1 _ I (by omega) _) rfl rfl rfl rfl rfl rfl (Nat.le_of_ble_eq_true rfl) (Nat.le_of_ble_eq_true rfl) ?_
    rintro _ σ2 u2 ⟨⟨z0, rfl⟩, ⟨N2, I2, hm⟩, hl2, hu2⟩
    show WGo _ (94, [wI i0, wI i1, wI i2, wI i3, wI i4, wI i5, wI fb, wI fc, wI fd, wI kk, wI q, wR 0, wU], [(.int z0)], σ2, u2) _
    refine .s (.pop a0_94 rfl) ?_
    exact s95 Z a0 hw n0 i0 i1 i2 i3 i4 i5 fb fc fd kk q σ2 N2 I2 (by rw [hm, hM, i64_inj]; simp [h85]) u2 (by omega) (by omega)
set_option maxHeartbeats 40000000 in
theorem law_go (Z : State) (a0 : Array Value) (hw : ∀ d ∈ tables_1, d.before a0 Z = true) (n0 : Nat) (i0 i1 i2 i3 i4 i5 : Int32) : WGo (g0 Z (fun k => n0 + k) (n0, []) 0 0) (0, [wI i0, wI i1, wI i2, wI i3, wI i4, wI i5, wU, wU, wU, wU, wU, wU, wU], [], [], 0) (fun v σ' u' => v = some (.int 1) ∧ σ'.length ≤ 32 ∧ u' ≤ 128) := by
  refine .s (.iload a0_0 rfl) <| .s (.iconst (1 : Int32) a0_2 rfl) <| .s (.iand a0_3) ?_
  refine .eq0 a0_4 (fun h4 => ?_) (fun h4 => ?_)
  · refine .s (.iconst (0 : Int32) a0_11 rfl) <| .s (.istore (L' := [wI i0, wI i1, wI i2, wI i3, wI i4, wI i5, wI 0, wU, wU, wU, wU, wU, wU]) a0_12 rfl) <| .s (.iload a0_14 rfl) <| .s (.iconst (2 : Int32) a0_16 rfl) <| .s (.iand a0_17) ?_
    refine .eq0 a0_18 (fun h18 => ?_) (fun h18 => ?_)
    · refine .s (.iconst (0 : Int32) a0_25 rfl) <| .s (.istore (L' := [wI i0, wI i1, wI i2, wI i3, wI i4, wI i5, wI 0, wI 0, wU, wU, wU, wU, wU]) a0_26 rfl) <| .s (.iload a0_28 rfl) <| .s (.iconst (4 : Int32) a0_30 rfl) <| .s (.iand a0_31) ?_
      refine .eq0 a0_32 (fun h32 => ?_) (fun h32 => ?_)
      · refine .s (.iconst (0 : Int32) a0_39 rfl) <| .s (.istore (L' := [wI i0, wI i1, wI i2, wI i3, wI i4, wI i5, wI 0, wI 0, wI 0, wU, wU, wU, wU]) a0_40 rfl) <| .s (.iload a0_42 rfl) <| .s (.iconst (3 : Int32) a0_44 rfl) <| .s (.iushr a0_45) <| .s (.ldc a0_46 (wd hw 0 rfl)) <| .s (.iand a0_48) ?_
        generalize hg_kq : (((i5.toUInt32 >>> ((3 : Int32) &&& 31).toUInt32).toInt32) &&& (268435455 : Int32)) = kq
        refine .s (.bipush (7 : Int32) a0_49 rfl) <| .s (.irem a0_51 (by decide)) <| .s (.istore (L' := [wI i0, wI i1, wI i2, wI i3, wI i4, wI i5, wI 0, wI 0, wI 0, wI (kq % (7 : Int32)), wU, wU, wU]) a0_52 rfl) <| .s (.iload a0_54 rfl) <| .s (.iloadN a0_56 rfl) <| .s (.iloadN a0_57 rfl) <| .s (.iloadN a0_58 rfl) ?_
        refine .s (.iloadN a0_59 rfl) <| .s (.iload a0_60 rfl) ?_
        refine .callS a0_62 (ok1 hw _ _ _ _) (wd hw 1 rfl) (wd hw 2 rfl) (argsL := [(.int (kq % (7 : Int32))), (.int i0), (.int i1), (.int i2), (.int i3), (.int i4)]) (S := []) (cPick hw _ _ (kq % (7 : Int32)) i0 i1 i2 i3 i4 _ _) rfl rfl rfl rfl rfl rfl (Nat.le_of_ble_eq_true rfl) (Nat.le_of_ble_eq_true rfl) ?_
        rintro _ _ _ ⟨⟨q, rfl⟩, rfl, rfl⟩
        show WGo _ (65, [wI i0, wI i1, wI i2, wI i3, wI i4, wI i5, wI 0, wI 0, wI 0, wI (kq % (7 : Int32)), wU, wU, wU], [(.int q)], [], 0) _
        refine .s (.istore (L' := [wI i0, wI i1, wI i2, wI i3, wI i4, wI i5, wI 0, wI 0, wI 0, wI (kq % (7 : Int32)), wI q, wU, wU]) a0_65 rfl) <| .s (.newO (k := 0) [(lsH, .null)] a0_67 (wd hw 5 rfl) (wd hw 6 rfl) (wd hw 7 rfl) ⟨⟨Or.inr (wd hw 28 rfl), (.object "antecede/sets/LazySet$Node"), by decide, rfl⟩, trivial⟩ (by decide) rfl (by decide)) ?_
        show WGo _ (70, [wI i0, wI i1, wI i2, wI i3, wI i4, wI i5, wI 0, wI 0, wI 0, wI (kq % (7 : Int32)), wI q, wU, wU], [.ref 0], [(.inr (cn0, [(lsH, .null)]))], 1) _
        refine .s (.dup a0_70 rfl) ?_
        refine .callI (k := 0) a0_71 (ok2 hw _ _ _ _) rfl rfl (wd hw 8 rfl) (wd hw 9 rfl) (by decide) (argsL := []) (S := [.ref 0]) (cInit hw _ _ _) rfl rfl rfl rfl rfl rfl (Nat.le_of_ble_eq_true rfl) (Nat.le_of_ble_eq_true rfl) ?_
        rintro _ _ _ ⟨rfl, rfl, rfl⟩
        have I0 := inv0
        have l0 : ([lset (.ref 1), nd (-9223372036854775808) (.ref 2) 0, nd 9223372036854775807 .null 0] : WHp).length = 3 := rfl
        generalize ([lset (.ref 1), nd (-9223372036854775808) (.ref 2) 0, nd 9223372036854775807 .null 0] : WHp) = σ0 at I0 l0 ⊢
        show WGo _ (74, [wI i0, wI i1, wI i2, wI i3, wI i4, wI i5, wI 0, wI 0, wI 0, wI (kq % (7 : Int32)), wI q, wU, wU], [.ref 0], σ0, 7) _
        refine .s (.astore (L' := [wI i0, wI i1, wI i2, wI i3, wI i4, wI i5, wI 0, wI 0, wI 0, wI (kq % (7 : Int32)), wI q, wR 0, wU]) a0_74 rfl rfl) <| .s (.aload a0_76 rfl rfl) <| .s (.iloadN a0_78 rfl) ?_
        refine .callVW (k := 0) (z := (⟨"antecede/sets/LazySet", "add", "(I)Z"⟩ : MethodName)) a0_79 (ok5 hw _ _ _ _) ⟨rfl, by decide⟩ (wd hw 29 rfl) (wd hw 30 rfl) (fun s hZ => notFace_of_selects (args := #[]) (mvT hZ (wd hw 32 rfl))) (wd hw 32 rfl) (wd hw 31 rfl) I0.obj (argsL := [(.int i0)]) (S := []) (cAdd hw _ _ _ i0 _ I0 (by omega) _) rfl rfl rfl rfl rfl rfl (Nat.le_of_ble_eq_true rfl) (Nat.le_of_ble_eq_true rfl) ?_
        rintro _ σ2 u2 ⟨⟨z0, rfl⟩, ⟨N2, I2, hm⟩, hl2, hu2⟩
        show WGo _ (82, [wI i0, wI i1, wI i2, wI i3, wI i4, wI i5, wI 0, wI 0, wI 0, wI (kq % (7 : Int32)), wI q, wR 0, wU], [(.int z0)], σ2, u2) _
        refine .s (.pop a0_82 rfl) ?_
        exact s83 Z a0 hw n0 i0 i1 i2 i3 i4 i5 (0 : Int32) (0 : Int32) (0 : Int32) (kq % (7 : Int32)) q σ2 N2 I2 (by rw [hm, i64_inj]; exact ⟨fun h => h.elim (fun z => absurd z (mem0 q)) id, Or.inr⟩) u2 (by omega) (by omega)
      · refine .s (.iconst (1 : Int32) a0_35 rfl) <| .s (.goto a0_36) <| .s (.istore (L' := [wI i0, wI i1, wI i2, wI i3, wI i4, wI i5, wI 0, wI 0, wI 1, wU, wU, wU, wU]) a0_40 rfl) <| .s (.iload a0_42 rfl) <| .s (.iconst (3 : Int32) a0_44 rfl) <| .s (.iushr a0_45) <| .s (.ldc a0_46 (wd hw 0 rfl)) ?_
        refine .s (.iand a0_48) ?_
        generalize hg_kq : (((i5.toUInt32 >>> ((3 : Int32) &&& 31).toUInt32).toInt32) &&& (268435455 : Int32)) = kq
        refine .s (.bipush (7 : Int32) a0_49 rfl) <| .s (.irem a0_51 (by decide)) <| .s (.istore (L' := [wI i0, wI i1, wI i2, wI i3, wI i4, wI i5, wI 0, wI 0, wI 1, wI (kq % (7 : Int32)), wU, wU, wU]) a0_52 rfl) <| .s (.iload a0_54 rfl) <| .s (.iloadN a0_56 rfl) <| .s (.iloadN a0_57 rfl) <| .s (.iloadN a0_58 rfl) ?_
        refine .s (.iloadN a0_59 rfl) <| .s (.iload a0_60 rfl) ?_
        refine .callS a0_62 (ok1 hw _ _ _ _) (wd hw 1 rfl) (wd hw 2 rfl) (argsL := [(.int (kq % (7 : Int32))), (.int i0), (.int i1), (.int i2), (.int i3), (.int i4)]) (S := []) (cPick hw _ _ (kq % (7 : Int32)) i0 i1 i2 i3 i4 _ _) rfl rfl rfl rfl rfl rfl (Nat.le_of_ble_eq_true rfl) (Nat.le_of_ble_eq_true rfl) ?_
        rintro _ _ _ ⟨⟨q, rfl⟩, rfl, rfl⟩
        show WGo _ (65, [wI i0, wI i1, wI i2, wI i3, wI i4, wI i5, wI 0, wI 0, wI 1, wI (kq % (7 : Int32)), wU, wU, wU], [(.int q)], [], 0) _
        refine .s (.istore (L' := [wI i0, wI i1, wI i2, wI i3, wI i4, wI i5, wI 0, wI 0, wI 1, wI (kq % (7 : Int32)), wI q, wU, wU]) a0_65 rfl) <| .s (.newO (k := 0) [(lsH, .null)] a0_67 (wd hw 5 rfl) (wd hw 6 rfl) (wd hw 7 rfl) ⟨⟨Or.inr (wd hw 28 rfl), (.object "antecede/sets/LazySet$Node"), by decide, rfl⟩, trivial⟩ (by decide) rfl (by decide)) ?_
        show WGo _ (70, [wI i0, wI i1, wI i2, wI i3, wI i4, wI i5, wI 0, wI 0, wI 1, wI (kq % (7 : Int32)), wI q, wU, wU], [.ref 0], [(.inr (cn0, [(lsH, .null)]))], 1) _
        refine .s (.dup a0_70 rfl) ?_
        refine .callI (k := 0) a0_71 (ok2 hw _ _ _ _) rfl rfl (wd hw 8 rfl) (wd hw 9 rfl) (by decide) (argsL := []) (S := [.ref 0]) (cInit hw _ _ _) rfl rfl rfl rfl rfl rfl (Nat.le_of_ble_eq_true rfl) (Nat.le_of_ble_eq_true rfl) ?_
        rintro _ _ _ ⟨rfl, rfl, rfl⟩
        have I0 := inv0
        have l0 : ([lset (.ref 1), nd (-9223372036854775808) (.ref 2) 0, nd 9223372036854775807 .null 0] : WHp).length = 3 := rfl
        generalize ([lset (.ref 1), nd (-9223372036854775808) (.ref 2) 0, nd 9223372036854775807 .null 0] : WHp) = σ0 at I0 l0 ⊢
        show WGo _ (74, [wI i0, wI i1, wI i2, wI i3, wI i4, wI i5, wI 0, wI 0, wI 1, wI (kq % (7 : Int32)), wI q, wU, wU], [.ref 0], σ0, 7) _
        refine .s (.astore (L' := [wI i0, wI i1, wI i2, wI i3, wI i4, wI i5, wI 0, wI 0, wI 1, wI (kq % (7 : Int32)), wI q, wR 0, wU]) a0_74 rfl rfl) <| .s (.aload a0_76 rfl rfl) <| .s (.iloadN a0_78 rfl) ?_
        refine .callVW (k := 0) (z := (⟨"antecede/sets/LazySet", "add", "(I)Z"⟩ : MethodName)) a0_79 (ok5 hw _ _ _ _) ⟨rfl, by decide⟩ (wd hw 29 rfl) (wd hw 30 rfl) (fun s hZ => notFace_of_selects (args := #[]) (mvT hZ (wd hw 32 rfl))) (wd hw 32 rfl) (wd hw 31 rfl) I0.obj (argsL := [(.int i0)]) (S := []) (cAdd hw _ _ _ i0 _ I0 (by omega) _) rfl rfl rfl rfl rfl rfl (Nat.le_of_ble_eq_true rfl) (Nat.le_of_ble_eq_true rfl) ?_
        rintro _ σ2 u2 ⟨⟨z0, rfl⟩, ⟨N2, I2, hm⟩, hl2, hu2⟩
        show WGo _ (82, [wI i0, wI i1, wI i2, wI i3, wI i4, wI i5, wI 0, wI 0, wI 1, wI (kq % (7 : Int32)), wI q, wR 0, wU], [(.int z0)], σ2, u2) _
        refine .s (.pop a0_82 rfl) ?_
        exact s83 Z a0 hw n0 i0 i1 i2 i3 i4 i5 (0 : Int32) (0 : Int32) (1 : Int32) (kq % (7 : Int32)) q σ2 N2 I2 (by rw [hm, i64_inj]; exact ⟨fun h => h.elim (fun z => absurd z (mem0 q)) id, Or.inr⟩) u2 (by omega) (by omega)
    · refine .s (.iconst (1 : Int32) a0_21 rfl) <| .s (.goto a0_22) <| .s (.istore (L' := [wI i0, wI i1, wI i2, wI i3, wI i4, wI i5, wI 0, wI 1, wU, wU, wU, wU, wU]) a0_26 rfl) <| .s (.iload a0_28 rfl) <| .s (.iconst (4 : Int32) a0_30 rfl) <| .s (.iand a0_31) ?_
      refine .eq0 a0_32 (fun h32 => ?_) (fun h32 => ?_)
      · refine .s (.iconst (0 : Int32) a0_39 rfl) <| .s (.istore (L' := [wI i0, wI i1, wI i2, wI i3, wI i4, wI i5, wI 0, wI 1, wI 0, wU, wU, wU, wU]) a0_40 rfl) <| .s (.iload a0_42 rfl) <| .s (.iconst (3 : Int32) a0_44 rfl) <| .s (.iushr a0_45) <| .s (.ldc a0_46 (wd hw 0 rfl)) <| .s (.iand a0_48) ?_
        generalize hg_kq : (((i5.toUInt32 >>> ((3 : Int32) &&& 31).toUInt32).toInt32) &&& (268435455 : Int32)) = kq
        refine .s (.bipush (7 : Int32) a0_49 rfl) <| .s (.irem a0_51 (by decide)) <| .s (.istore (L' := [wI i0, wI i1, wI i2, wI i3, wI i4, wI i5, wI 0, wI 1, wI 0, wI (kq % (7 : Int32)), wU, wU, wU]) a0_52 rfl) <| .s (.iload a0_54 rfl) <| .s (.iloadN a0_56 rfl) <| .s (.iloadN a0_57 rfl) <| .s (.iloadN a0_58 rfl) ?_
        refine .s (.iloadN a0_59 rfl) <| .s (.iload a0_60 rfl) ?_
        refine .callS a0_62 (ok1 hw _ _ _ _) (wd hw 1 rfl) (wd hw 2 rfl) (argsL := [(.int (kq % (7 : Int32))), (.int i0), (.int i1), (.int i2), (.int i3), (.int i4)]) (S := []) (cPick hw _ _ (kq % (7 : Int32)) i0 i1 i2 i3 i4 _ _) rfl rfl rfl rfl rfl rfl (Nat.le_of_ble_eq_true rfl) (Nat.le_of_ble_eq_true rfl) ?_
        rintro _ _ _ ⟨⟨q, rfl⟩, rfl, rfl⟩
        show WGo _ (65, [wI i0, wI i1, wI i2, wI i3, wI i4, wI i5, wI 0, wI 1, wI 0, wI (kq % (7 : Int32)), wU, wU, wU], [(.int q)], [], 0) _
        refine .s (.istore (L' := [wI i0, wI i1, wI i2, wI i3, wI i4, wI i5, wI 0, wI 1, wI 0, wI (kq % (7 : Int32)), wI q, wU, wU]) a0_65 rfl) <| .s (.newO (k := 0) [(lsH, .null)] a0_67 (wd hw 5 rfl) (wd hw 6 rfl) (wd hw 7 rfl) ⟨⟨Or.inr (wd hw 28 rfl), (.object "antecede/sets/LazySet$Node"), by decide, rfl⟩, trivial⟩ (by decide) rfl (by decide)) ?_
        show WGo _ (70, [wI i0, wI i1, wI i2, wI i3, wI i4, wI i5, wI 0, wI 1, wI 0, wI (kq % (7 : Int32)), wI q, wU, wU], [.ref 0], [(.inr (cn0, [(lsH, .null)]))], 1) _
        refine .s (.dup a0_70 rfl) ?_
        refine .callI (k := 0) a0_71 (ok2 hw _ _ _ _) rfl rfl (wd hw 8 rfl) (wd hw 9 rfl) (by decide) (argsL := []) (S := [.ref 0]) (cInit hw _ _ _) rfl rfl rfl rfl rfl rfl (Nat.le_of_ble_eq_true rfl) (Nat.le_of_ble_eq_true rfl) ?_
        rintro _ _ _ ⟨rfl, rfl, rfl⟩
        have I0 := inv0
        have l0 : ([lset (.ref 1), nd (-9223372036854775808) (.ref 2) 0, nd 9223372036854775807 .null 0] : WHp).length = 3 := rfl
        generalize ([lset (.ref 1), nd (-9223372036854775808) (.ref 2) 0, nd 9223372036854775807 .null 0] : WHp) = σ0 at I0 l0 ⊢
        show WGo _ (74, [wI i0, wI i1, wI i2, wI i3, wI i4, wI i5, wI 0, wI 1, wI 0, wI (kq % (7 : Int32)), wI q, wU, wU], [.ref 0], σ0, 7) _
        refine .s (.astore (L' := [wI i0, wI i1, wI i2, wI i3, wI i4, wI i5, wI 0, wI 1, wI 0, wI (kq % (7 : Int32)), wI q, wR 0, wU]) a0_74 rfl rfl) <| .s (.aload a0_76 rfl rfl) <| .s (.iloadN a0_78 rfl) ?_
        refine .callVW (k := 0) (z := (⟨"antecede/sets/LazySet", "add", "(I)Z"⟩ : MethodName)) a0_79 (ok5 hw _ _ _ _) ⟨rfl, by decide⟩ (wd hw 29 rfl) (wd hw 30 rfl) (fun s hZ => notFace_of_selects (args := #[]) (mvT hZ (wd hw 32 rfl))) (wd hw 32 rfl) (wd hw 31 rfl) I0.obj (argsL := [(.int i0)]) (S := []) (cAdd hw _ _ _ i0 _ I0 (by omega) _) rfl rfl rfl rfl rfl rfl (Nat.le_of_ble_eq_true rfl) (Nat.le_of_ble_eq_true rfl) ?_
        rintro _ σ2 u2 ⟨⟨z0, rfl⟩, ⟨N2, I2, hm⟩, hl2, hu2⟩
        show WGo _ (82, [wI i0, wI i1, wI i2, wI i3, wI i4, wI i5, wI 0, wI 1, wI 0, wI (kq % (7 : Int32)), wI q, wR 0, wU], [(.int z0)], σ2, u2) _
        refine .s (.pop a0_82 rfl) ?_
        exact s83 Z a0 hw n0 i0 i1 i2 i3 i4 i5 (0 : Int32) (1 : Int32) (0 : Int32) (kq % (7 : Int32)) q σ2 N2 I2 (by rw [hm, i64_inj]; exact ⟨fun h => h.elim (fun z => absurd z (mem0 q)) id, Or.inr⟩) u2 (by omega) (by omega)
      · refine .s (.iconst (1 : Int32) a0_35 rfl) <| .s (.goto a0_36) <| .s (.istore (L' := [wI i0, wI i1, wI i2, wI i3, wI i4, wI i5, wI 0, wI 1, wI 1, wU, wU, wU, wU]) a0_40 rfl) <| .s (.iload a0_42 rfl) <| .s (.iconst (3 : Int32) a0_44 rfl) <| .s (.iushr a0_45) <| .s (.ldc a0_46 (wd hw 0 rfl)) ?_
        refine .s (.iand a0_48) ?_
        generalize hg_kq : (((i5.toUInt32 >>> ((3 : Int32) &&& 31).toUInt32).toInt32) &&& (268435455 : Int32)) = kq
        refine .s (.bipush (7 : Int32) a0_49 rfl) <| .s (.irem a0_51 (by decide)) <| .s (.istore (L' := [wI i0, wI i1, wI i2, wI i3, wI i4, wI i5, wI 0, wI 1, wI 1, wI (kq % (7 : Int32)), wU, wU, wU]) a0_52 rfl) <| .s (.iload a0_54 rfl) <| .s (.iloadN a0_56 rfl) <| .s (.iloadN a0_57 rfl) <| .s (.iloadN a0_58 rfl) ?_
        refine .s (.iloadN a0_59 rfl) <| .s (.iload a0_60 rfl) ?_
        refine .callS a0_62 (ok1 hw _ _ _ _) (wd hw 1 rfl) (wd hw 2 rfl) (argsL := [(.int (kq % (7 : Int32))), (.int i0), (.int i1), (.int i2), (.int i3), (.int i4)]) (S := []) (cPick hw _ _ (kq % (7 : Int32)) i0 i1 i2 i3 i4 _ _) rfl rfl rfl rfl rfl rfl (Nat.le_of_ble_eq_true rfl) (Nat.le_of_ble_eq_true rfl) ?_
        rintro _ _ _ ⟨⟨q, rfl⟩, rfl, rfl⟩
        show WGo _ (65, [wI i0, wI i1, wI i2, wI i3, wI i4, wI i5, wI 0, wI 1, wI 1, wI (kq % (7 : Int32)), wU, wU, wU], [(.int q)], [], 0) _
        refine .s (.istore (L' := [wI i0, wI i1, wI i2, wI i3, wI i4, wI i5, wI 0, wI 1, wI 1, wI (kq % (7 : Int32)), wI q, wU, wU]) a0_65 rfl) <| .s (.newO (k := 0) [(lsH, .null)] a0_67 (wd hw 5 rfl) (wd hw 6 rfl) (wd hw 7 rfl) ⟨⟨Or.inr (wd hw 28 rfl), (.object "antecede/sets/LazySet$Node"), by decide, rfl⟩, trivial⟩ (by decide) rfl (by decide)) ?_
        show WGo _ (70, [wI i0, wI i1, wI i2, wI i3, wI i4, wI i5, wI 0, wI 1, wI 1, wI (kq % (7 : Int32)), wI q, wU, wU], [.ref 0], [(.inr (cn0, [(lsH, .null)]))], 1) _
        refine .s (.dup a0_70 rfl) ?_
        refine .callI (k := 0) a0_71 (ok2 hw _ _ _ _) rfl rfl (wd hw 8 rfl) (wd hw 9 rfl) (by decide) (argsL := []) (S := [.ref 0]) (cInit hw _ _ _) rfl rfl rfl rfl rfl rfl (Nat.le_of_ble_eq_true rfl) (Nat.le_of_ble_eq_true rfl) ?_
        rintro _ _ _ ⟨rfl, rfl, rfl⟩
        have I0 := inv0
        have l0 : ([lset (.ref 1), nd (-9223372036854775808) (.ref 2) 0, nd 9223372036854775807 .null 0] : WHp).length = 3 := rfl
        generalize ([lset (.ref 1), nd (-9223372036854775808) (.ref 2) 0, nd 9223372036854775807 .null 0] : WHp) = σ0 at I0 l0 ⊢
        show WGo _ (74, [wI i0, wI i1, wI i2, wI i3, wI i4, wI i5, wI 0, wI 1, wI 1, wI (kq % (7 : Int32)), wI q, wU, wU], [.ref 0], σ0, 7) _
        refine .s (.astore (L' := [wI i0, wI i1, wI i2, wI i3, wI i4, wI i5, wI 0, wI 1, wI 1, wI (kq % (7 : Int32)), wI q, wR 0, wU]) a0_74 rfl rfl) <| .s (.aload a0_76 rfl rfl) <| .s (.iloadN a0_78 rfl) ?_
        refine .callVW (k := 0) (z := (⟨"antecede/sets/LazySet", "add", "(I)Z"⟩ : MethodName)) a0_79 (ok5 hw _ _ _ _) ⟨rfl, by decide⟩ (wd hw 29 rfl) (wd hw 30 rfl) (fun s hZ => notFace_of_selects (args := #[]) (mvT hZ (wd hw 32 rfl))) (wd hw 32 rfl) (wd hw 31 rfl) I0.obj (argsL := [(.int i0)]) (S := []) (cAdd hw _ _ _ i0 _ I0 (by omega) _) rfl rfl rfl rfl rfl rfl (Nat.le_of_ble_eq_true rfl) (Nat.le_of_ble_eq_true rfl) ?_
        rintro _ σ2 u2 ⟨⟨z0, rfl⟩, ⟨N2, I2, hm⟩, hl2, hu2⟩
        show WGo _ (82, [wI i0, wI i1, wI i2, wI i3, wI i4, wI i5, wI 0, wI 1, wI 1, wI (kq % (7 : Int32)), wI q, wR 0, wU], [(.int z0)], σ2, u2) _
        refine .s (.pop a0_82 rfl) ?_
        exact s83 Z a0 hw n0 i0 i1 i2 i3 i4 i5 (0 : Int32) (1 : Int32) (1 : Int32) (kq % (7 : Int32)) q σ2 N2 I2 (by rw [hm, i64_inj]; exact ⟨fun h => h.elim (fun z => absurd z (mem0 q)) id, Or.inr⟩) u2 (by omega) (by omega)
  · refine .s (.iconst (1 : Int32) a0_7 rfl) <| .s (.goto a0_8) <| .s (.istore (L' := [wI i0, wI i1, wI i2, wI i3, wI i4, wI i5, wI 1, wU, wU, wU, wU, wU, wU]) a0_12 rfl) <| .s (.iload a0_14 rfl) <| .s (.iconst (2 : Int32) a0_16 rfl) <| .s (.iand a0_17) ?_
    refine .eq0 a0_18 (fun h18 => ?_) (fun h18 => ?_)
    · refine .s (.iconst (0 : Int32) a0_25 rfl) <| .s (.istore (L' := [wI i0, wI i1, wI i2, wI i3, wI i4, wI i5, wI 1, wI 0, wU, wU, wU, wU, wU]) a0_26 rfl) <| .s (.iload a0_28 rfl) <| .s (.iconst (4 : Int32) a0_30 rfl) <| .s (.iand a0_31) ?_
      refine .eq0 a0_32 (fun h32 => ?_) (fun h32 => ?_)
      · refine .s (.iconst (0 : Int32) a0_39 rfl) <| .s (.istore (L' := [wI i0, wI i1, wI i2, wI i3, wI i4, wI i5, wI 1, wI 0, wI 0, wU, wU, wU, wU]) a0_40 rfl) <| .s (.iload a0_42 rfl) <| .s (.iconst (3 : Int32) a0_44 rfl) <| .s (.iushr a0_45) <| .s (.ldc a0_46 (wd hw 0 rfl)) <| .s (.iand a0_48) ?_
        generalize hg_kq : (((i5.toUInt32 >>> ((3 : Int32) &&& 31).toUInt32).toInt32) &&& (268435455 : Int32)) = kq
        refine .s (.bipush (7 : Int32) a0_49 rfl) <| .s (.irem a0_51 (by decide)) <| .s (.istore (L' := [wI i0, wI i1, wI i2, wI i3, wI i4, wI i5, wI 1, wI 0, wI 0, wI (kq % (7 : Int32)), wU, wU, wU]) a0_52 rfl) <| .s (.iload a0_54 rfl) <| .s (.iloadN a0_56 rfl) <| .s (.iloadN a0_57 rfl) <| .s (.iloadN a0_58 rfl) ?_
        refine .s (.iloadN a0_59 rfl) <| .s (.iload a0_60 rfl) ?_
        refine .callS a0_62 (ok1 hw _ _ _ _) (wd hw 1 rfl) (wd hw 2 rfl) (argsL := [(.int (kq % (7 : Int32))), (.int i0), (.int i1), (.int i2), (.int i3), (.int i4)]) (S := []) (cPick hw _ _ (kq % (7 : Int32)) i0 i1 i2 i3 i4 _ _) rfl rfl rfl rfl rfl rfl (Nat.le_of_ble_eq_true rfl) (Nat.le_of_ble_eq_true rfl) ?_
        rintro _ _ _ ⟨⟨q, rfl⟩, rfl, rfl⟩
        show WGo _ (65, [wI i0, wI i1, wI i2, wI i3, wI i4, wI i5, wI 1, wI 0, wI 0, wI (kq % (7 : Int32)), wU, wU, wU], [(.int q)], [], 0) _
        refine .s (.istore (L' := [wI i0, wI i1, wI i2, wI i3, wI i4, wI i5, wI 1, wI 0, wI 0, wI (kq % (7 : Int32)), wI q, wU, wU]) a0_65 rfl) <| .s (.newO (k := 0) [(lsH, .null)] a0_67 (wd hw 5 rfl) (wd hw 6 rfl) (wd hw 7 rfl) ⟨⟨Or.inr (wd hw 28 rfl), (.object "antecede/sets/LazySet$Node"), by decide, rfl⟩, trivial⟩ (by decide) rfl (by decide)) ?_
        show WGo _ (70, [wI i0, wI i1, wI i2, wI i3, wI i4, wI i5, wI 1, wI 0, wI 0, wI (kq % (7 : Int32)), wI q, wU, wU], [.ref 0], [(.inr (cn0, [(lsH, .null)]))], 1) _
        refine .s (.dup a0_70 rfl) ?_
        refine .callI (k := 0) a0_71 (ok2 hw _ _ _ _) rfl rfl (wd hw 8 rfl) (wd hw 9 rfl) (by decide) (argsL := []) (S := [.ref 0]) (cInit hw _ _ _) rfl rfl rfl rfl rfl rfl (Nat.le_of_ble_eq_true rfl) (Nat.le_of_ble_eq_true rfl) ?_
        rintro _ _ _ ⟨rfl, rfl, rfl⟩
        have I0 := inv0
        have l0 : ([lset (.ref 1), nd (-9223372036854775808) (.ref 2) 0, nd 9223372036854775807 .null 0] : WHp).length = 3 := rfl
        generalize ([lset (.ref 1), nd (-9223372036854775808) (.ref 2) 0, nd 9223372036854775807 .null 0] : WHp) = σ0 at I0 l0 ⊢
        show WGo _ (74, [wI i0, wI i1, wI i2, wI i3, wI i4, wI i5, wI 1, wI 0, wI 0, wI (kq % (7 : Int32)), wI q, wU, wU], [.ref 0], σ0, 7) _
        refine .s (.astore (L' := [wI i0, wI i1, wI i2, wI i3, wI i4, wI i5, wI 1, wI 0, wI 0, wI (kq % (7 : Int32)), wI q, wR 0, wU]) a0_74 rfl rfl) <| .s (.aload a0_76 rfl rfl) <| .s (.iloadN a0_78 rfl) ?_
        refine .callVW (k := 0) (z := (⟨"antecede/sets/LazySet", "add", "(I)Z"⟩ : MethodName)) a0_79 (ok5 hw _ _ _ _) ⟨rfl, by decide⟩ (wd hw 29 rfl) (wd hw 30 rfl) (fun s hZ => notFace_of_selects (args := #[]) (mvT hZ (wd hw 32 rfl))) (wd hw 32 rfl) (wd hw 31 rfl) I0.obj (argsL := [(.int i0)]) (S := []) (cAdd hw _ _ _ i0 _ I0 (by omega) _) rfl rfl rfl rfl rfl rfl (Nat.le_of_ble_eq_true rfl) (Nat.le_of_ble_eq_true rfl) ?_
        rintro _ σ2 u2 ⟨⟨z0, rfl⟩, ⟨N2, I2, hm⟩, hl2, hu2⟩
        show WGo _ (82, [wI i0, wI i1, wI i2, wI i3, wI i4, wI i5, wI 1, wI 0, wI 0, wI (kq % (7 : Int32)), wI q, wR 0, wU], [(.int z0)], σ2, u2) _
        refine .s (.pop a0_82 rfl) ?_
        exact s83 Z a0 hw n0 i0 i1 i2 i3 i4 i5 (1 : Int32) (0 : Int32) (0 : Int32) (kq % (7 : Int32)) q σ2 N2 I2 (by rw [hm, i64_inj]; exact ⟨fun h => h.elim (fun z => absurd z (mem0 q)) id, Or.inr⟩) u2 (by omega) (by omega)
      · refine .s (.iconst (1 : Int32) a0_35 rfl) <| .s (.goto a0_36) <| .s (.istore (L' := [wI i0, wI i1, wI i2, wI i3, wI i4, wI i5, wI 1, wI 0, wI 1, wU, wU, wU, wU]) a0_40 rfl) <| .s (.iload a0_42 rfl) <| .s (.iconst (3 : Int32) a0_44 rfl) <| .s (.iushr a0_45) <| .s (.ldc a0_46 (wd hw 0 rfl)) ?_
        refine .s (.iand a0_48) ?_
        generalize hg_kq : (((i5.toUInt32 >>> ((3 : Int32) &&& 31).toUInt32).toInt32) &&& (268435455 : Int32)) = kq
        refine .s (.bipush (7 : Int32) a0_49 rfl) <| .s (.irem a0_51 (by decide)) <| .s (.istore (L' := [wI i0, wI i1, wI i2, wI i3, wI i4, wI i5, wI 1, wI 0, wI 1, wI (kq % (7 : Int32)), wU, wU, wU]) a0_52 rfl) <| .s (.iload a0_54 rfl) <| .s (.iloadN a0_56 rfl) <| .s (.iloadN a0_57 rfl) <| .s (.iloadN a0_58 rfl) ?_
        refine .s (.iloadN a0_59 rfl) <| .s (.iload a0_60 rfl) ?_
        refine .callS a0_62 (ok1 hw _ _ _ _) (wd hw 1 rfl) (wd hw 2 rfl) (argsL := [(.int (kq % (7 : Int32))), (.int i0), (.int i1), (.int i2), (.int i3), (.int i4)]) (S := []) (cPick hw _ _ (kq % (7 : Int32)) i0 i1 i2 i3 i4 _ _) rfl rfl rfl rfl rfl rfl (Nat.le_of_ble_eq_true rfl) (Nat.le_of_ble_eq_true rfl) ?_
        rintro _ _ _ ⟨⟨q, rfl⟩, rfl, rfl⟩
        show WGo _ (65, [wI i0, wI i1, wI i2, wI i3, wI i4, wI i5, wI 1, wI 0, wI 1, wI (kq % (7 : Int32)), wU, wU, wU], [(.int q)], [], 0) _
        refine .s (.istore (L' := [wI i0, wI i1, wI i2, wI i3, wI i4, wI i5, wI 1, wI 0, wI 1, wI (kq % (7 : Int32)), wI q, wU, wU]) a0_65 rfl) <| .s (.newO (k := 0) [(lsH, .null)] a0_67 (wd hw 5 rfl) (wd hw 6 rfl) (wd hw 7 rfl) ⟨⟨Or.inr (wd hw 28 rfl), (.object "antecede/sets/LazySet$Node"), by decide, rfl⟩, trivial⟩ (by decide) rfl (by decide)) ?_
        show WGo _ (70, [wI i0, wI i1, wI i2, wI i3, wI i4, wI i5, wI 1, wI 0, wI 1, wI (kq % (7 : Int32)), wI q, wU, wU], [.ref 0], [(.inr (cn0, [(lsH, .null)]))], 1) _
        refine .s (.dup a0_70 rfl) ?_
        refine .callI (k := 0) a0_71 (ok2 hw _ _ _ _) rfl rfl (wd hw 8 rfl) (wd hw 9 rfl) (by decide) (argsL := []) (S := [.ref 0]) (cInit hw _ _ _) rfl rfl rfl rfl rfl rfl (Nat.le_of_ble_eq_true rfl) (Nat.le_of_ble_eq_true rfl) ?_
        rintro _ _ _ ⟨rfl, rfl, rfl⟩
        have I0 := inv0
        have l0 : ([lset (.ref 1), nd (-9223372036854775808) (.ref 2) 0, nd 9223372036854775807 .null 0] : WHp).length = 3 := rfl
        generalize ([lset (.ref 1), nd (-9223372036854775808) (.ref 2) 0, nd 9223372036854775807 .null 0] : WHp) = σ0 at I0 l0 ⊢
        show WGo _ (74, [wI i0, wI i1, wI i2, wI i3, wI i4, wI i5, wI 1, wI 0, wI 1, wI (kq % (7 : Int32)), wI q, wU, wU], [.ref 0], σ0, 7) _
        refine .s (.astore (L' := [wI i0, wI i1, wI i2, wI i3, wI i4, wI i5, wI 1, wI 0, wI 1, wI (kq % (7 : Int32)), wI q, wR 0, wU]) a0_74 rfl rfl) <| .s (.aload a0_76 rfl rfl) <| .s (.iloadN a0_78 rfl) ?_
        refine .callVW (k := 0) (z := (⟨"antecede/sets/LazySet", "add", "(I)Z"⟩ : MethodName)) a0_79 (ok5 hw _ _ _ _) ⟨rfl, by decide⟩ (wd hw 29 rfl) (wd hw 30 rfl) (fun s hZ => notFace_of_selects (args := #[]) (mvT hZ (wd hw 32 rfl))) (wd hw 32 rfl) (wd hw 31 rfl) I0.obj (argsL := [(.int i0)]) (S := []) (cAdd hw _ _ _ i0 _ I0 (by omega) _) rfl rfl rfl rfl rfl rfl (Nat.le_of_ble_eq_true rfl) (Nat.le_of_ble_eq_true rfl) ?_
        rintro _ σ2 u2 ⟨⟨z0, rfl⟩, ⟨N2, I2, hm⟩, hl2, hu2⟩
        show WGo _ (82, [wI i0, wI i1, wI i2, wI i3, wI i4, wI i5, wI 1, wI 0, wI 1, wI (kq % (7 : Int32)), wI q, wR 0, wU], [(.int z0)], σ2, u2) _
        refine .s (.pop a0_82 rfl) ?_
        exact s83 Z a0 hw n0 i0 i1 i2 i3 i4 i5 (1 : Int32) (0 : Int32) (1 : Int32) (kq % (7 : Int32)) q σ2 N2 I2 (by rw [hm, i64_inj]; exact ⟨fun h => h.elim (fun z => absurd z (mem0 q)) id, Or.inr⟩) u2 (by omega) (by omega)
    · refine .s (.iconst (1 : Int32) a0_21 rfl) <| .s (.goto a0_22) <| .s (.istore (L' := [wI i0, wI i1, wI i2, wI i3, wI i4, wI i5, wI 1, wI 1, wU, wU, wU, wU, wU]) a0_26 rfl) <| .s (.iload a0_28 rfl) <| .s (.iconst (4 : Int32) a0_30 rfl) <| .s (.iand a0_31) ?_
      refine .eq0 a0_32 (fun h32 => ?_) (fun h32 => ?_)
      · refine .s (.iconst (0 : Int32) a0_39 rfl) <| .s (.istore (L' := [wI i0, wI i1, wI i2, wI i3, wI i4, wI i5, wI 1, wI 1, wI 0, wU, wU, wU, wU]) a0_40 rfl) <| .s (.iload a0_42 rfl) <| .s (.iconst (3 : Int32) a0_44 rfl) <| .s (.iushr a0_45) <| .s (.ldc a0_46 (wd hw 0 rfl)) <| .s (.iand a0_48) ?_
        generalize hg_kq : (((i5.toUInt32 >>> ((3 : Int32) &&& 31).toUInt32).toInt32) &&& (268435455 : Int32)) = kq
        refine .s (.bipush (7 : Int32) a0_49 rfl) <| .s (.irem a0_51 (by decide)) <| .s (.istore (L' := [wI i0, wI i1, wI i2, wI i3, wI i4, wI i5, wI 1, wI 1, wI 0, wI (kq % (7 : Int32)), wU, wU, wU]) a0_52 rfl) <| .s (.iload a0_54 rfl) <| .s (.iloadN a0_56 rfl) <| .s (.iloadN a0_57 rfl) <| .s (.iloadN a0_58 rfl) ?_
        refine .s (.iloadN a0_59 rfl) <| .s (.iload a0_60 rfl) ?_
        refine .callS a0_62 (ok1 hw _ _ _ _) (wd hw 1 rfl) (wd hw 2 rfl) (argsL := [(.int (kq % (7 : Int32))), (.int i0), (.int i1), (.int i2), (.int i3), (.int i4)]) (S := []) (cPick hw _ _ (kq % (7 : Int32)) i0 i1 i2 i3 i4 _ _) rfl rfl rfl rfl rfl rfl (Nat.le_of_ble_eq_true rfl) (Nat.le_of_ble_eq_true rfl) ?_
        rintro _ _ _ ⟨⟨q, rfl⟩, rfl, rfl⟩
        show WGo _ (65, [wI i0, wI i1, wI i2, wI i3, wI i4, wI i5, wI 1, wI 1, wI 0, wI (kq % (7 : Int32)), wU, wU, wU], [(.int q)], [], 0) _
        refine .s (.istore (L' := [wI i0, wI i1, wI i2, wI i3, wI i4, wI i5, wI 1, wI 1, wI 0, wI (kq % (7 : Int32)), wI q, wU, wU]) a0_65 rfl) <| .s (.newO (k := 0) [(lsH, .null)] a0_67 (wd hw 5 rfl) (wd hw 6 rfl) (wd hw 7 rfl) ⟨⟨Or.inr (wd hw 28 rfl), (.object "antecede/sets/LazySet$Node"), by decide, rfl⟩, trivial⟩ (by decide) rfl (by decide)) ?_
        show WGo _ (70, [wI i0, wI i1, wI i2, wI i3, wI i4, wI i5, wI 1, wI 1, wI 0, wI (kq % (7 : Int32)), wI q, wU, wU], [.ref 0], [(.inr (cn0, [(lsH, .null)]))], 1) _
        refine .s (.dup a0_70 rfl) ?_
        refine .callI (k := 0) a0_71 (ok2 hw _ _ _ _) rfl rfl (wd hw 8 rfl) (wd hw 9 rfl) (by decide) (argsL := []) (S := [.ref 0]) (cInit hw _ _ _) rfl rfl rfl rfl rfl rfl (Nat.le_of_ble_eq_true rfl) (Nat.le_of_ble_eq_true rfl) ?_
        rintro _ _ _ ⟨rfl, rfl, rfl⟩
        have I0 := inv0
        have l0 : ([lset (.ref 1), nd (-9223372036854775808) (.ref 2) 0, nd 9223372036854775807 .null 0] : WHp).length = 3 := rfl
        generalize ([lset (.ref 1), nd (-9223372036854775808) (.ref 2) 0, nd 9223372036854775807 .null 0] : WHp) = σ0 at I0 l0 ⊢
        show WGo _ (74, [wI i0, wI i1, wI i2, wI i3, wI i4, wI i5, wI 1, wI 1, wI 0, wI (kq % (7 : Int32)), wI q, wU, wU], [.ref 0], σ0, 7) _
        refine .s (.astore (L' := [wI i0, wI i1, wI i2, wI i3, wI i4, wI i5, wI 1, wI 1, wI 0, wI (kq % (7 : Int32)), wI q, wR 0, wU]) a0_74 rfl rfl) <| .s (.aload a0_76 rfl rfl) <| .s (.iloadN a0_78 rfl) ?_
        refine .callVW (k := 0) (z := (⟨"antecede/sets/LazySet", "add", "(I)Z"⟩ : MethodName)) a0_79 (ok5 hw _ _ _ _) ⟨rfl, by decide⟩ (wd hw 29 rfl) (wd hw 30 rfl) (fun s hZ => notFace_of_selects (args := #[]) (mvT hZ (wd hw 32 rfl))) (wd hw 32 rfl) (wd hw 31 rfl) I0.obj (argsL := [(.int i0)]) (S := []) (cAdd hw _ _ _ i0 _ I0 (by omega) _) rfl rfl rfl rfl rfl rfl (Nat.le_of_ble_eq_true rfl) (Nat.le_of_ble_eq_true rfl) ?_
        rintro _ σ2 u2 ⟨⟨z0, rfl⟩, ⟨N2, I2, hm⟩, hl2, hu2⟩
        show WGo _ (82, [wI i0, wI i1, wI i2, wI i3, wI i4, wI i5, wI 1, wI 1, wI 0, wI (kq % (7 : Int32)), wI q, wR 0, wU], [(.int z0)], σ2, u2) _
        refine .s (.pop a0_82 rfl) ?_
        exact s83 Z a0 hw n0 i0 i1 i2 i3 i4 i5 (1 : Int32) (1 : Int32) (0 : Int32) (kq % (7 : Int32)) q σ2 N2 I2 (by rw [hm, i64_inj]; exact ⟨fun h => h.elim (fun z => absurd z (mem0 q)) id, Or.inr⟩) u2 (by omega) (by omega)
      · refine .s (.iconst (1 : Int32) a0_35 rfl) <| .s (.goto a0_36) <| .s (.istore (L' := [wI i0, wI i1, wI i2, wI i3, wI i4, wI i5, wI 1, wI 1, wI 1, wU, wU, wU, wU]) a0_40 rfl) <| .s (.iload a0_42 rfl) <| .s (.iconst (3 : Int32) a0_44 rfl) <| .s (.iushr a0_45) <| .s (.ldc a0_46 (wd hw 0 rfl)) ?_
        refine .s (.iand a0_48) ?_
        generalize hg_kq : (((i5.toUInt32 >>> ((3 : Int32) &&& 31).toUInt32).toInt32) &&& (268435455 : Int32)) = kq
        refine .s (.bipush (7 : Int32) a0_49 rfl) <| .s (.irem a0_51 (by decide)) <| .s (.istore (L' := [wI i0, wI i1, wI i2, wI i3, wI i4, wI i5, wI 1, wI 1, wI 1, wI (kq % (7 : Int32)), wU, wU, wU]) a0_52 rfl) <| .s (.iload a0_54 rfl) <| .s (.iloadN a0_56 rfl) <| .s (.iloadN a0_57 rfl) <| .s (.iloadN a0_58 rfl) ?_
        refine .s (.iloadN a0_59 rfl) <| .s (.iload a0_60 rfl) ?_
        refine .callS a0_62 (ok1 hw _ _ _ _) (wd hw 1 rfl) (wd hw 2 rfl) (argsL := [(.int (kq % (7 : Int32))), (.int i0), (.int i1), (.int i2), (.int i3), (.int i4)]) (S := []) (cPick hw _ _ (kq % (7 : Int32)) i0 i1 i2 i3 i4 _ _) rfl rfl rfl rfl rfl rfl (Nat.le_of_ble_eq_true rfl) (Nat.le_of_ble_eq_true rfl) ?_
        rintro _ _ _ ⟨⟨q, rfl⟩, rfl, rfl⟩
        show WGo _ (65, [wI i0, wI i1, wI i2, wI i3, wI i4, wI i5, wI 1, wI 1, wI 1, wI (kq % (7 : Int32)), wU, wU, wU], [(.int q)], [], 0) _
        refine .s (.istore (L' := [wI i0, wI i1, wI i2, wI i3, wI i4, wI i5, wI 1, wI 1, wI 1, wI (kq % (7 : Int32)), wI q, wU, wU]) a0_65 rfl) <| .s (.newO (k := 0) [(lsH, .null)] a0_67 (wd hw 5 rfl) (wd hw 6 rfl) (wd hw 7 rfl) ⟨⟨Or.inr (wd hw 28 rfl), (.object "antecede/sets/LazySet$Node"), by decide, rfl⟩, trivial⟩ (by decide) rfl (by decide)) ?_
        show WGo _ (70, [wI i0, wI i1, wI i2, wI i3, wI i4, wI i5, wI 1, wI 1, wI 1, wI (kq % (7 : Int32)), wI q, wU, wU], [.ref 0], [(.inr (cn0, [(lsH, .null)]))], 1) _
        refine .s (.dup a0_70 rfl) ?_
        refine .callI (k := 0) a0_71 (ok2 hw _ _ _ _) rfl rfl (wd hw 8 rfl) (wd hw 9 rfl) (by decide) (argsL := []) (S := [.ref 0]) (cInit hw _ _ _) rfl rfl rfl rfl rfl rfl (Nat.le_of_ble_eq_true rfl) (Nat.le_of_ble_eq_true rfl) ?_
        rintro _ _ _ ⟨rfl, rfl, rfl⟩
        have I0 := inv0
        have l0 : ([lset (.ref 1), nd (-9223372036854775808) (.ref 2) 0, nd 9223372036854775807 .null 0] : WHp).length = 3 := rfl
        generalize ([lset (.ref 1), nd (-9223372036854775808) (.ref 2) 0, nd 9223372036854775807 .null 0] : WHp) = σ0 at I0 l0 ⊢
        show WGo _ (74, [wI i0, wI i1, wI i2, wI i3, wI i4, wI i5, wI 1, wI 1, wI 1, wI (kq % (7 : Int32)), wI q, wU, wU], [.ref 0], σ0, 7) _
        refine .s (.astore (L' := [wI i0, wI i1, wI i2, wI i3, wI i4, wI i5, wI 1, wI 1, wI 1, wI (kq % (7 : Int32)), wI q, wR 0, wU]) a0_74 rfl rfl) <| .s (.aload a0_76 rfl rfl) <| .s (.iloadN a0_78 rfl) ?_
        refine .callVW (k := 0) (z := (⟨"antecede/sets/LazySet", "add", "(I)Z"⟩ : MethodName)) a0_79 (ok5 hw _ _ _ _) ⟨rfl, by decide⟩ (wd hw 29 rfl) (wd hw 30 rfl) (fun s hZ => notFace_of_selects (args := #[]) (mvT hZ (wd hw 32 rfl))) (wd hw 32 rfl) (wd hw 31 rfl) I0.obj (argsL := [(.int i0)]) (S := []) (cAdd hw _ _ _ i0 _ I0 (by omega) _) rfl rfl rfl rfl rfl rfl (Nat.le_of_ble_eq_true rfl) (Nat.le_of_ble_eq_true rfl) ?_
        rintro _ σ2 u2 ⟨⟨z0, rfl⟩, ⟨N2, I2, hm⟩, hl2, hu2⟩
        show WGo _ (82, [wI i0, wI i1, wI i2, wI i3, wI i4, wI i5, wI 1, wI 1, wI 1, wI (kq % (7 : Int32)), wI q, wR 0, wU], [(.int z0)], σ2, u2) _
        refine .s (.pop a0_82 rfl) ?_
        exact s83 Z a0 hw n0 i0 i1 i2 i3 i4 i5 (1 : Int32) (1 : Int32) (1 : Int32) (kq % (7 : Int32)) q σ2 N2 I2 (by rw [hm, i64_inj]; exact ⟨fun h => h.elim (fun z => absurd z (mem0 q)) id, Or.inr⟩) u2 (by omega) (by omega)
theorem plx : plainFor x = true := plainFor_of_name (by first | (simp [plainName, overriddenIn, x]; done) | decide +kernel)
set_option maxRecDepth 65536 in
set_option maxHeartbeats 40000000 in
theorem comes_1 {Post : Tables → Env → Array Value → State → Outcome → State → Prop} (hpost : ∀ tb e args s v u, (limb_1_1.after args s (.returned v) u = true ∧ limb_1_2.after args s (.returned v) u = true ∧ True) → FrameEnd s (.returned v) u (Jvm.fieldLocs frame_1_writes args s ++ Jvm.arrayLocs frame_1_arrays args s ++ Jvm.staticLocs frame_1_statics s) 32 128 → Post tb e args s (.returned v) u) :
    ArmFor flags0 classFile x code maxLocals ret World_1 tables_1 room_1 Calls_1 rest_1 Pre_1 Post := by
  intro l hfl _ _ p e ha hc hk s m args below hf hA hF happ hP
  obtain ⟨hcalls, hrest, hpre⟩ := hP
  obtain ⟨-, -, -, hnamed, -, -, -, hat⟩ := (Spec.applies_iff hf).mp happ
  obtain ⟨hg, hn⟩ := and_e (Cond.before_iff.mp (show (Jvm.Cond.and given_1 narrow_1).before args s = true from hpre))
  obtain ⟨gg1, gg2⟩ := and_e hg
  obtain ⟨gg3, gg4⟩ := and_e gg2
  obtain ⟨gg5, gg6⟩ := and_e gg4
  obtain ⟨gg7, gg8⟩ := and_e gg6
  obtain ⟨gg9, gg10⟩ := and_e gg8
  obtain ⟨gg11, gg12⟩ := and_e gg10
  obtain ⟨w0, w1, w2, w3, w4, w5, rfl⟩ : ∃ w0 w1 w2 w3 w4 w5 : Value, args = #[w0, w1, w2, w3, w4, w5] := by
    have hs : args.size = 6 := by simpa [Cond.value, given_1] using gg1
    obtain ⟨L⟩ := args
    match L, hs with
    | [w0, w1, w2, w3, w4, w5], _ => exact ⟨w0, w1, w2, w3, w4, w5, rfl⟩
  have hw := fun d (hd : d ∈ tables_1) => atoms_spec (ws := Jvm.Cond.code x code maxLocals ret :: tables_1) hat d (List.mem_cons_of_mem _ hd)
  obtain ⟨i0, ei0⟩ := is_v gg3
  obtain rfl : w0 = (.int i0) := Option.some.inj ei0
  obtain ⟨i1, ei1⟩ := is_v gg5
  obtain rfl : w1 = (.int i1) := Option.some.inj ei1
  obtain ⟨i2, ei2⟩ := is_v gg7
  obtain rfl : w2 = (.int i2) := Option.some.inj ei2
  obtain ⟨i3, ei3⟩ := is_v gg9
  obtain rfl : w3 = (.int i3) := Option.some.inj ei3
  obtain ⟨i4, ei4⟩ := is_v gg11
  obtain rfl : w4 = (.int i4) := Option.some.inj ei4
  obtain ⟨i5, ei5⟩ := is_v gg12
  obtain rfl : w5 = (.int i5) := Option.some.inj ei5
  obtain ⟨v, σ', u', ⟨rfl, hc1, hu1⟩, r⟩ := law_go s _ hw s.heap.size i0 i1 i2 i3 i4 i5
  have D0 : WDen s (fun k => s.heap.size + k) (s.heap.size, []) [] s.heap := ⟨rfl, ⟨Nat.zero_le _, fun _ _ _ h => h⟩, fun k o h => (by cases h), fun k h _ => absurd h (Nat.not_lt_zero _)⟩
  obtain ⟨n, o, h1, h2, h3, _, L, rfl, ⟨rfl, N, -⟩, hq⟩ := met_of (l := l) (y := x) (ws := tables_1) (argsL := [(.int i0), (.int i1), (.int i2), (.int i3), (.int i4), (.int i5)]) (h := s.heap) rfl rfl rfl rfl plx rfl (fun k _ => rfl) (fun i j h => Nat.add_left_cancel h) r D0 room_1 (Nat.le_of_ble_eq_true rfl) (Nat.le_trans (Nat.sub_le _ _) (Nat.le_trans hc1 (by decide))) (Nat.le_trans (Nat.sub_le _ _) (Nat.le_trans hu1 (by decide))) (Nat.le_of_ble_eq_true rfl) p e ha hc hk s m _ below hf ((Spec.applies_iff_loose hf).mp happ).1 ⟨rfl, State.Warmed39.refl s, rfl⟩ trivial
  refine ⟨n, _, h1, h2, h3, hpost _ _ _ _ _ _ ⟨Cond.after_iff.mpr rfl, Cond.after_iff.mpr (eq_i res_at (Term.int_eval (1)) rfl), trivial⟩ ⟨hq.1, hq.2.1, (hq.2.2.sift fun y hy => Or.inr (N y hy)).mono (Nat.le_trans (Nat.sub_le _ _) (Nat.le_trans hc1 (by decide))) (Nat.le_trans (Nat.sub_le _ _) (Nat.le_trans hu1 (by decide)))⟩⟩
theorem main_1_1 : Claimed_1_1 := comes_1 fun _ _ _ _ _ _ h hF => ⟨h.1, hF⟩
theorem main_1_2 : Claimed_1_2 := comes_1 fun _ _ _ _ _ _ h hF => ⟨h.2.1, hF⟩
end Jvm.Pilot.@@N@@
namespace Jvm.Pilot.@@N@@
open Jvm Jvm.ClassFile Sem Op Lib Jvm.Free Jvm.Stand Jvm.Pilot.@@N@@.Jvm.D
/-! MADE BY PROGRAM (witnessworld.py) out of the Statement's table words and the real class files: 13 classes; the members and pool entries that the words name. The judged class is class 1, her method 1. -/
namespace start1
open Jvm.ClassFile
def u (s : String) : CpInfo := .utf8 (stringToUtf16 s)
/-- a pool by its gaps: so many unusable entries, then the entry; so many at the end -/
def gap : Nat → List CpInfo → List CpInfo
  | 0, r => r
  | n + 1, r => .unusable :: gap n r
def poolList (es : List (Nat × CpInfo)) (last : Nat) : List CpInfo := es.foldr (fun e r => gap e.1 (e.2 :: r)) (gap last [])
def pool (es : List (Nat × CpInfo)) (last : Nat) : Array CpInfo := ⟨poolList es last⟩
def fileOf (pool : Array CpInfo) (this : Nat) (attrs : Array Attribute := #[]) (ms : Array MethodInfo := #[]) (fl : Nat := 33) (sup : Nat := 0) (ifs : Array Nat := #[]) (fds : Array FieldInfo := #[]) : ClassFile where
  minorVersion := 0
  majorVersion := 65
  constantPool := pool
  accessFlags := fl
  thisClass := this
  superClass := sup
  interfaces := ifs
  fields := fds
  methods := ms
  attributes := attrs
def plain (name : String) (sup : Option ClassId) : Class where
  name := name
  kind := .ordinary
  loader := none
  accessFlags := 33
  super := sup
  interfaces := #[]
  cf := none
  fields := #[]
  methods := #[]
  instanceTypes := #[]
  staticTypes := #[]
  resolved := #[]
  callSites := []
  init := .initialized
  statics := none
  mirror := none

def pool0 : Array CpInfo := pool [(5, u "<init>"), (0, u "()V"), (1, .class_ 10), (1, u "java/lang/Object")] 113

def k0c0 : Code := { maxStack := 0, maxLocals := 1, code := object_method_1_code, exceptionTable := #[], attributes := #[] }
def k0m0 : Method := { name := "<init>", desc := "()V", sig := { parameters := [], returnType := none }, accessFlags := 1, code := some k0c0 }
/-- java/lang/Object -/
def k0 : Class := { plain "java/lang/Object" none with
  accessFlags := 33
  interfaces := #[]
  cf := some (fileOf pool0 8 #[] #[{ accessFlags := 1, nameIndex := 5, descriptorIndex := 6, attributes := #[] }] 33 0 #[] #[])
  fields := #[]
  methods := #[k0m0]
  instanceTypes := #[]
  staticTypes := #[]
  resolved := Array.replicate 124 none
  statics := none }

def pool1 : Array CpInfo := pool [(2, .class_ 4), (0, .nameAndType 5 6), (0, u "java/lang/Object"), (0, u "<init>"), (0, u "()V"), (0, .integer 268435455), (0, .methodref 9 10), (0, .class_ 11), (0, .nameAndType 12 13), (0, u "antecede/sets/LazySetContainsPinLaw"), (0, u "pick"), (0, u "(IIIIII)I"), (0, .class_ 15), (0, u "antecede/sets/LazySet"), (0, .methodref 14 3), (0, .methodref 14 18), (0, .nameAndType 19 20), (0, u "add"), (0, u "(I)Z"), (0, .methodref 14 22), (0, .nameAndType 23 20), (0, u "remove"), (0, .methodref 14 25), (0, .nameAndType 26 20), (0, u "contains"), (2, u "law"), (0, u "(IIIIII)Z")] 3

def k1m0 : Method := { name := "<init>", desc := "()V", sig := { parameters := [], returnType := none }, accessFlags := 1, code := none }
def k1c1 : Code := { maxStack := 6, maxLocals := 13, code := code, exceptionTable := #[], attributes := #[] }
def k1m1 : Method := { name := "law", desc := "(IIIIII)Z", sig := { parameters := [.int, .int, .int, .int, .int, .int], returnType := some .boolean }, accessFlags := 9, code := some k1c1 }
def k1c2 : Code := { maxStack := 2, maxLocals := 6, code := method_3_code, exceptionTable := #[], attributes := #[] }
def k1m2 : Method := { name := "pick", desc := "(IIIIII)I", sig := { parameters := [.int, .int, .int, .int, .int, .int], returnType := some .int }, accessFlags := 10, code := some k1c2 }
/-- antecede/sets/LazySetContainsPinLaw -/
def k1 : Class := { plain "antecede/sets/LazySetContainsPinLaw" (some 0) with
  accessFlags := 49
  interfaces := #[]
  cf := some (fileOf pool1 9 #[] #[{ accessFlags := 1, nameIndex := 5, descriptorIndex := 6, attributes := #[] }, { accessFlags := 9, nameIndex := 29, descriptorIndex := 30, attributes := #[] }, { accessFlags := 10, nameIndex := 12, descriptorIndex := 13, attributes := #[] }] 49 2 #[] #[])
  fields := #[]
  methods := #[k1m0, k1m1, k1m2]
  instanceTypes := #[]
  staticTypes := #[]
  resolved := Array.replicate 34 none
  statics := none }

def pool2 : Array CpInfo := pool [(1, .class_ 2), (0, u "antecede/sets/IntSet"), (0, .class_ 4), (0, u "java/lang/Object")] 6

/-- antecede/sets/IntSet -/
def k2 : Class := { plain "antecede/sets/IntSet" (some 0) with
  accessFlags := 1537
  interfaces := #[]
  cf := some (fileOf pool2 1 #[] #[] 1537 3 #[] #[])
  fields := #[]
  methods := #[]
  instanceTypes := #[]
  staticTypes := #[]
  resolved := Array.replicate 11 none
  statics := none }

def pool3 : Array CpInfo := pool [(1, .methodref 2 3), (0, .class_ 4), (0, .nameAndType 5 6), (0, u "java/lang/Object"), (0, u "<init>"), (0, u "()V"), (0, .class_ 8), (0, u "antecede/sets/LazySet$Node"), (2, .long 9223372036854775808), (1, .long 9223372036854775807), (1, .methodref 7 16), (0, .nameAndType 5 17), (0, u "(JLantecede/sets/LazySet$Node;)V"), (0, .fieldref 19 20), (0, .class_ 21), (0, .nameAndType 22 23), (0, u "antecede/sets/LazySet"), (0, u "head"), (0, u "Lantecede/sets/LazySet$Node;"), (0, .methodref 19 25), (0, .nameAndType 26 27), (0, u "walk"), (0, u "(I)Lantecede/sets/LazySet$Window;"), (0, .methodref 29 30), (0, .class_ 31), (0, .nameAndType 32 33), (0, u "antecede/sets/LazySet$Window"), (0, u "pred"), (0, u "()Lantecede/sets/LazySet$Node;"), (0, .methodref 29 35), (0, .nameAndType 36 33), (0, u "curr"), (0, .methodref 19 38), (0, .nameAndType 39 40), (0, u "unchanged"), (0, u "(Lantecede/sets/LazySet$Node;Lantecede/sets/LazySet$Node;)Z"), (0, .fieldref 7 42), (0, .nameAndType 43 44), (0, u "key"), (0, u "J"), (0, .fieldref 7 46), (0, .nameAndType 47 23), (0, u "next"), (0, .fieldref 7 49), (0, .nameAndType 50 51), (0, u "marked"), (0, u "Z"), (0, .methodref 29 53), (0, .nameAndType 5 54), (0, u "(Lantecede/sets/LazySet$Node;Lantecede/sets/LazySet$Node;)V"), (0, .class_ 56), (0, u "antecede/sets/IntSet"), (2, u "add"), (0, u "(I)Z"), (3, u "remove"), (0, u "contains")] 6

def k3c0 : Code := { maxStack := 10, maxLocals := 1, code := prog_83_method_1_code, exceptionTable := #[], attributes := #[] }
def k3m0 : Method := { name := "<init>", desc := "()V", sig := { parameters := [], returnType := none }, accessFlags := 1, code := some k3c0 }
def k3c1 : Code := { maxStack := 6, maxLocals := 10, code := prog_83_method_2_code, exceptionTable := #[{ startPc := 28, endPc := 80, handlerPc := 90, catchType := 0 }, { startPc := 84, endPc := 87, handlerPc := 90, catchType := 0 }, { startPc := 90, endPc := 95, handlerPc := 90, catchType := 0 }, { startPc := 22, endPc := 83, handlerPc := 104, catchType := 0 }, { startPc := 84, endPc := 101, handlerPc := 104, catchType := 0 }, { startPc := 104, endPc := 109, handlerPc := 104, catchType := 0 }], attributes := #[] }
def k3m1 : Method := { name := "add", desc := "(I)Z", sig := { parameters := [.int], returnType := some .boolean }, accessFlags := 1, code := some k3c1 }
def k3c2 : Code := { maxStack := 4, maxLocals := 10, code := prog_83_method_3_code, exceptionTable := #[{ startPc := 28, endPc := 80, handlerPc := 90, catchType := 0 }, { startPc := 84, endPc := 87, handlerPc := 90, catchType := 0 }, { startPc := 90, endPc := 95, handlerPc := 90, catchType := 0 }, { startPc := 22, endPc := 83, handlerPc := 104, catchType := 0 }, { startPc := 84, endPc := 101, handlerPc := 104, catchType := 0 }, { startPc := 104, endPc := 109, handlerPc := 104, catchType := 0 }], attributes := #[] }
def k3m2 : Method := { name := "remove", desc := "(I)Z", sig := { parameters := [.int], returnType := some .boolean }, accessFlags := 1, code := some k3c2 }
def k3c3 : Code := { maxStack := 4, maxLocals := 3, code := prog_83_method_4_code, exceptionTable := #[], attributes := #[] }
def k3m3 : Method := { name := "contains", desc := "(I)Z", sig := { parameters := [.int], returnType := some .boolean }, accessFlags := 1, code := some k3c3 }
def k3c4 : Code := { maxStack := 4, maxLocals := 4, code := prog_83_method_5_code, exceptionTable := #[], attributes := #[] }
def k3m4 : Method := { name := "walk", desc := "(I)Lantecede/sets/LazySet$Window;", sig := { parameters := [.int], returnType := some (.object "antecede/sets/LazySet$Window") }, accessFlags := 2, code := some k3c4 }
def k3c5 : Code := { maxStack := 2, maxLocals := 2, code := prog_83_method_6_code, exceptionTable := #[], attributes := #[] }
def k3m5 : Method := { name := "unchanged", desc := "(Lantecede/sets/LazySet$Node;Lantecede/sets/LazySet$Node;)Z", sig := { parameters := [(.object "antecede/sets/LazySet$Node"), (.object "antecede/sets/LazySet$Node")], returnType := some .boolean }, accessFlags := 10, code := some k3c5 }
/-- antecede/sets/LazySet -/
def k3 : Class := { plain "antecede/sets/LazySet" (some 0) with
  accessFlags := 49
  interfaces := #[2]
  cf := some (fileOf pool3 19 #[.nestMembers #[29, 7]] #[{ accessFlags := 1, nameIndex := 5, descriptorIndex := 6, attributes := #[] }, { accessFlags := 1, nameIndex := 59, descriptorIndex := 60, attributes := #[] }, { accessFlags := 1, nameIndex := 64, descriptorIndex := 60, attributes := #[] }, { accessFlags := 1, nameIndex := 65, descriptorIndex := 60, attributes := #[] }, { accessFlags := 2, nameIndex := 26, descriptorIndex := 27, attributes := #[] }, { accessFlags := 10, nameIndex := 39, descriptorIndex := 40, attributes := #[] }] 49 2 #[55] #[{ accessFlags := 18, nameIndex := 22, descriptorIndex := 23, attributes := #[] }])
  fields := #[{ name := "head", type := (.object "antecede/sets/LazySet$Node"), accessFlags := 18, slot := 0, constantValue := 0 }]
  methods := #[k3m0, k3m1, k3m2, k3m3, k3m4, k3m5]
  instanceTypes := #[(.object "antecede/sets/LazySet$Node")]
  staticTypes := #[]
  resolved := ((Array.replicate 72 none).setIfInBounds 29 (some (.cls 6))).setIfInBounds 52 (some (.method ⟨6, 0⟩))
  statics := none }

def pool4 : Array CpInfo := pool [(1, .methodref 2 3), (0, .class_ 4), (0, .nameAndType 5 6), (0, u "java/lang/Object"), (0, u "<init>"), (0, u "()V"), (0, .fieldref 8 9), (0, .class_ 10), (0, .nameAndType 11 12), (0, u "antecede/sets/LazySet$Node"), (0, u "key"), (0, u "J"), (0, .fieldref 8 14), (0, .nameAndType 15 16), (0, u "next"), (0, u "Lantecede/sets/LazySet$Node;"), (0, u "marked"), (0, u "Z"), (0, u "(JLantecede/sets/LazySet$Node;)V"), (5, .class_ 26), (0, u "antecede/sets/LazySet")] 2

def k4c0 : Code := { maxStack := 3, maxLocals := 4, code := prog_84_method_1_code, exceptionTable := #[], attributes := #[] }
def k4m0 : Method := { name := "<init>", desc := "(JLantecede/sets/LazySet$Node;)V", sig := { parameters := [.long, (.object "antecede/sets/LazySet$Node")], returnType := none }, accessFlags := 0, code := some k4c0 }
/-- antecede/sets/LazySet$Node -/
def k4 : Class := { plain "antecede/sets/LazySet$Node" (some 0) with
  accessFlags := 48
  interfaces := #[]
  cf := some (fileOf pool4 8 #[.nestHost 25] #[{ accessFlags := 0, nameIndex := 5, descriptorIndex := 19, attributes := #[] }] 48 2 #[] #[{ accessFlags := 16, nameIndex := 11, descriptorIndex := 12, attributes := #[] }, { accessFlags := 64, nameIndex := 15, descriptorIndex := 16, attributes := #[] }, { accessFlags := 64, nameIndex := 17, descriptorIndex := 18, attributes := #[] }])
  fields := #[{ name := "key", type := .long, accessFlags := 16, slot := 0, constantValue := 0 }, { name := "next", type := (.object "antecede/sets/LazySet$Node"), accessFlags := 64, slot := 1, constantValue := 0 }, { name := "marked", type := .boolean, accessFlags := 64, slot := 2, constantValue := 0 }]
  methods := #[k4m0]
  instanceTypes := #[.long, (.object "antecede/sets/LazySet$Node"), .boolean]
  staticTypes := #[]
  resolved := Array.replicate 29 none
  statics := none }

def pool5 : Array CpInfo := pool [(1, .methodref 2 3), (0, .class_ 4), (0, .nameAndType 5 6), (0, u "java/lang/Object"), (0, u "<init>"), (0, u "()V"), (0, .class_ 8), (0, u "java/lang/Record")] 13

def k5c0 : Code := { maxStack := 1, maxLocals := 1, code := jdk_30_method_1_code, exceptionTable := #[], attributes := #[] }
def k5m0 : Method := { name := "<init>", desc := "()V", sig := { parameters := [], returnType := none }, accessFlags := 4, code := some k5c0 }
/-- java/lang/Record -/
def k5 : Class := { plain "java/lang/Record" (some 0) with
  accessFlags := 1057
  interfaces := #[]
  cf := some (fileOf pool5 7 #[] #[{ accessFlags := 4, nameIndex := 5, descriptorIndex := 6, attributes := #[] }] 1057 2 #[] #[])
  fields := #[]
  methods := #[k5m0]
  instanceTypes := #[]
  staticTypes := #[]
  resolved := Array.replicate 22 none
  statics := none }

def pool6 : Array CpInfo := pool [(1, .methodref 2 3), (0, .class_ 4), (0, .nameAndType 5 6), (0, u "java/lang/Record"), (0, u "<init>"), (0, u "()V"), (0, .fieldref 8 9), (0, .class_ 10), (0, .nameAndType 11 12), (0, u "antecede/sets/LazySet$Window"), (0, u "pred"), (0, u "Lantecede/sets/LazySet$Node;"), (0, .fieldref 8 14), (0, .nameAndType 15 12), (0, u "curr"), (12, u "(Lantecede/sets/LazySet$Node;Lantecede/sets/LazySet$Node;)V"), (6, u "()Lantecede/sets/LazySet$Node;"), (3, .class_ 40), (0, u "antecede/sets/LazySet")] 23

def k6c0 : Code := { maxStack := 2, maxLocals := 3, code := prog_85_method_1_code, exceptionTable := #[], attributes := #[] }
def k6m0 : Method := { name := "<init>", desc := "(Lantecede/sets/LazySet$Node;Lantecede/sets/LazySet$Node;)V", sig := { parameters := [(.object "antecede/sets/LazySet$Node"), (.object "antecede/sets/LazySet$Node")], returnType := none }, accessFlags := 2, code := some k6c0 }
def k6c1 : Code := { maxStack := 1, maxLocals := 1, code := prog_85_method_5_code, exceptionTable := #[], attributes := #[] }
def k6m1 : Method := { name := "pred", desc := "()Lantecede/sets/LazySet$Node;", sig := { parameters := [], returnType := some (.object "antecede/sets/LazySet$Node") }, accessFlags := 1, code := some k6c1 }
def k6c2 : Code := { maxStack := 1, maxLocals := 1, code := prog_85_method_6_code, exceptionTable := #[], attributes := #[] }
def k6m2 : Method := { name := "curr", desc := "()Lantecede/sets/LazySet$Node;", sig := { parameters := [], returnType := some (.object "antecede/sets/LazySet$Node") }, accessFlags := 1, code := some k6c2 }
/-- antecede/sets/LazySet$Window -/
def k6 : Class := { plain "antecede/sets/LazySet$Window" (some 5) with
  accessFlags := 48
  interfaces := #[]
  cf := some (fileOf pool6 8 #[.nestHost 39] #[{ accessFlags := 2, nameIndex := 5, descriptorIndex := 28, attributes := #[] }, { accessFlags := 1, nameIndex := 11, descriptorIndex := 35, attributes := #[] }, { accessFlags := 1, nameIndex := 15, descriptorIndex := 35, attributes := #[] }] 48 2 #[] #[{ accessFlags := 18, nameIndex := 11, descriptorIndex := 12, attributes := #[] }, { accessFlags := 18, nameIndex := 15, descriptorIndex := 12, attributes := #[] }])
  fields := #[{ name := "pred", type := (.object "antecede/sets/LazySet$Node"), accessFlags := 18, slot := 0, constantValue := 0 }, { name := "curr", type := (.object "antecede/sets/LazySet$Node"), accessFlags := 18, slot := 1, constantValue := 0 }]
  methods := #[k6m0, k6m1, k6m2]
  instanceTypes := #[(.object "antecede/sets/LazySet$Node"), (.object "antecede/sets/LazySet$Node")]
  staticTypes := #[]
  resolved := Array.replicate 64 none
  statics := none }

def pool7 : Array CpInfo := pool [(1, u "java/lang/Cloneable"), (0, .class_ 1), (0, u "java/lang/Object"), (0, .class_ 3)] 3

/-- java/lang/Cloneable -/
def k7 : Class := { plain "java/lang/Cloneable" (some 0) with
  accessFlags := 1537
  interfaces := #[]
  cf := some (fileOf pool7 2 #[] #[] 1537 4 #[] #[])
  fields := #[]
  methods := #[]
  instanceTypes := #[]
  staticTypes := #[]
  resolved := Array.replicate 8 none
  statics := none }

def pool8 : Array CpInfo := pool [(1, u "java/io/Serializable"), (0, .class_ 1), (0, u "java/lang/Object"), (0, .class_ 3)] 3

/-- java/io/Serializable -/
def k8 : Class := { plain "java/io/Serializable" (some 0) with
  accessFlags := 1537
  interfaces := #[]
  cf := some (fileOf pool8 2 #[] #[] 1537 4 #[] #[])
  fields := #[]
  methods := #[]
  instanceTypes := #[]
  staticTypes := #[]
  resolved := Array.replicate 8 none
  statics := none }

/-- the primitive byte -/
def k9 : Class := { plain "byte" none with kind := .primitive 'B', accessFlags := 0x411 }
/-- [B -/
def k10 : Class := { plain "[B" (some 0) with kind := .array 9 .byte, interfaces := #[7, 8], accessFlags := 1041 }

/-- the primitive int -/
def k11 : Class := { plain "int" none with kind := .primitive 'I', accessFlags := 0x411 }
/-- [I -/
def k12 : Class := { plain "[I" (some 0) with kind := .array 11 .int, interfaces := #[7, 8], accessFlags := 1041 }

def heap : Heap := #[]
def classes : Array Class := #[k0, k1, k2, k3, k4, k5, k6, k7, k8, k9, k10, k11, k12]
def interned : List (Array UInt16 × Addr) := []
def slotsUsed : Nat := 0
def theMethod : MethodId := ⟨1, 1⟩
def args0 : Array Value := #[.int 5, .int 7, .int 5, .int 9, .int 3, .int 7]
def aboutOver (below : List Frame) : State where
  vm := { classes := classes, interned := interned.toArray }
  heap := heap
  slotsUsed := slotsUsed
  threads := #[{ frames := .invoking theMethod args0 :: below }]
def below0 : List Frame := [.native { method := ⟨0, 0⟩, args := #[] }]
def about1 : State := aboutOver below0
def p0 : Program := .bare "" "" ""
def e0 : Env := launch0.env 0 0 0
theorem w_frames : about1.frames = Frame.invoking theMethod args0 :: below0 := rfl
set_option maxRecDepth 65536 in
theorem w_args : argsFit about1.vm theMethod args0 = true := by decide +kernel
set_option maxRecDepth 65536 in
theorem w_heap : heapFits about1 = true := by decide +kernel
set_option maxRecDepth 65536 in
theorem w_runnable : about1.curStatus? = some .runnable := by decide +kernel
set_option maxRecDepth 65536 in
theorem w_alone : about1.alone = true := by decide +kernel
set_option maxRecDepth 65536 in
theorem w_named : about1.methodNamed? x = some theMethod := by decide +kernel
set_option maxRecDepth 65536 in
theorem w_hears : about1.hears theMethod below0 = true := by decide +kernel
set_option maxRecDepth 65536 in
theorem w_ripe : about1.ripe theMethod args0 below0 = true := by decide +kernel
theorem w_running : about1.status = .running := rfl
set_option maxRecDepth 65536 in
theorem w_room : about1.hasRoom e0.platform room_1 = true :=
  launch0.hasRoom_least _ room_1 (by decide +kernel) (by decide +kernel) (by decide +kernel) (by decide +kernel) (by decide +kernel) (by decide +kernel)
theorem allAtoms_all (ts : List Jvm.Cond) (a : Array Jvm.Value) (st : Jvm.State) : (allAtoms ts).before a st = ts.all (fun c => c.before a st) := by
  induction ts with
  | nil => rfl
  | cons c t ih =>
    show (Jvm.Cond.and c (allAtoms t)).before a st = _
    rw [Jvm.Cond.before_and, ih, List.all_cons]
def words1 : List Jvm.Cond := Jvm.Cond.code x code maxLocals ret :: tables_1
/-- a 'code' word, met by the world's own term for the bytes: nothing is compared byte by byte -/
theorem code_word {y : MethodName} {bytes : ByteArray} {mx : Nat} {rt : Option FieldType} {a : Array Value} {s : State} {m : MethodId} {meth : Method} {c : Code} (h1 : s.methodNamed? y = some m) (h2 : s.vm.method? m = some meth) (h3 : meth.code = some c) (h4 : c.code = bytes)
    (h5 : (c.maxLocals == mx && c.exceptionTable.isEmpty && decide (c.maxStack ≤ mostOperands) && decide (meth.sig.returnType = rt) && !meth.locks && decide (parseMethodDescriptor y.desc = some meth.sig)) = true) : (Jvm.Cond.code y bytes mx rt).before a s = true := by
  simp only [Bool.and_eq_true, beq_iff_eq, Bool.not_eq_true', decide_eq_true_eq] at h5
  obtain ⟨⟨⟨⟨⟨g1, g2⟩, g3⟩, g4⟩, g5⟩, g6⟩ := h5
  simp [Cond.before, Cond.holds, Cond.value, h1, h2, h3, h4, g1, g2, g3, g4, g5, g6]
def isCode : Jvm.Cond → Bool
  | .code _ _ _ _ => true
  | _ => false
theorem all_split {L : List Jvm.Cond} {P : Jvm.Cond → Bool} (h1 : L.all (fun c => isCode c || P c) = true) (h2 : ∀ c ∈ L.filter isCode, P c = true) : L.all P = true := by
  refine List.all_eq_true.mpr fun c hc => ?_
  have h := List.all_eq_true.mp h1 c hc
  rcases Bool.eq_false_or_eq_true (isCode c) with hi | hi
  · exact h2 c (List.mem_filter.mpr ⟨hc, hi⟩)
  · simpa [hi] using h
set_option maxRecDepth 65536 in
theorem w_c0 : (Jvm.Cond.code x code maxLocals ret).before args0 about1 = true := code_word (m := ⟨1, 1⟩) (meth := k1m1) (c := k1c1) (by decide +kernel) rfl rfl rfl (by decide +kernel)
set_option maxRecDepth 65536 in
theorem w_c1 : (Jvm.Cond.code ({ cls := "antecede/sets/LazySetContainsPinLaw", name := "pick", desc := "(IIIIII)I" } : Jvm.MethodName) method_3_code (6 : Nat) (Option.some Jvm.ClassFile.FieldType.int)).before args0 about1 = true := code_word (m := ⟨1, 2⟩) (meth := k1m2) (c := k1c2) (by decide +kernel) rfl rfl rfl (by decide +kernel)
set_option maxRecDepth 65536 in
theorem w_c2 : (Jvm.Cond.code ({ cls := "antecede/sets/LazySet", name := "<init>", desc := "()V" } : Jvm.MethodName) prog_83_method_1_code (1 : Nat) (Option.none : Option Jvm.ClassFile.FieldType)).before args0 about1 = true := code_word (m := ⟨3, 0⟩) (meth := k3m0) (c := k3c0) (by decide +kernel) rfl rfl rfl (by decide +kernel)
set_option maxRecDepth 65536 in
theorem w_c3 : (Jvm.Cond.code ({ cls := "java/lang/Object", name := "<init>", desc := "()V" } : Jvm.MethodName) object_method_1_code (1 : Nat) (Option.none : Option Jvm.ClassFile.FieldType)).before args0 about1 = true := code_word (m := ⟨0, 0⟩) (meth := k0m0) (c := k0c0) (by decide +kernel) rfl rfl rfl (by decide +kernel)
set_option maxRecDepth 65536 in
theorem w_c4 : (Jvm.Cond.code ({ cls := "antecede/sets/LazySet$Node", name := "<init>", desc := "(JLantecede/sets/LazySet$Node;)V" } : Jvm.MethodName) prog_84_method_1_code (4 : Nat) (Option.none : Option Jvm.ClassFile.FieldType)).before args0 about1 = true := code_word (m := ⟨4, 0⟩) (meth := k4m0) (c := k4c0) (by decide +kernel) rfl rfl rfl (by decide +kernel)
set_option maxRecDepth 65536 in
theorem w_c5 : (Jvm.Cond.code ({ cls := "antecede/sets/LazySet", name := "walk", desc := "(I)Lantecede/sets/LazySet$Window;" } : Jvm.MethodName) prog_83_method_5_code (4 : Nat) (Option.some (Jvm.ClassFile.FieldType.object "antecede/sets/LazySet$Window"))).before args0 about1 = true := code_word (m := ⟨3, 4⟩) (meth := k3m4) (c := k3c4) (by decide +kernel) rfl rfl rfl (by decide +kernel)
set_option maxRecDepth 65536 in
theorem w_c6 : (Jvm.Cond.code ({ cls := "antecede/sets/LazySet$Window", name := "<init>", desc := "(Lantecede/sets/LazySet$Node;Lantecede/sets/LazySet$Node;)V" } : Jvm.MethodName) prog_85_method_1_code (3 : Nat) (Option.none : Option Jvm.ClassFile.FieldType)).before args0 about1 = true := code_word (m := ⟨6, 0⟩) (meth := k6m0) (c := k6c0) (by decide +kernel) rfl rfl rfl (by decide +kernel)
set_option maxRecDepth 65536 in
theorem w_c7 : (Jvm.Cond.code ({ cls := "java/lang/Record", name := "<init>", desc := "()V" } : Jvm.MethodName) jdk_30_method_1_code (1 : Nat) (Option.none : Option Jvm.ClassFile.FieldType)).before args0 about1 = true := code_word (m := ⟨5, 0⟩) (meth := k5m0) (c := k5c0) (by decide +kernel) rfl rfl rfl (by decide +kernel)
set_option maxRecDepth 65536 in
theorem w_c8 : (Jvm.Cond.code ({ cls := "antecede/sets/LazySet$Window", name := "pred", desc := "()Lantecede/sets/LazySet$Node;" } : Jvm.MethodName) prog_85_method_5_code (1 : Nat) (Option.some (Jvm.ClassFile.FieldType.object "antecede/sets/LazySet$Node"))).before args0 about1 = true := code_word (m := ⟨6, 1⟩) (meth := k6m1) (c := k6c1) (by decide +kernel) rfl rfl rfl (by decide +kernel)
set_option maxRecDepth 65536 in
theorem w_c9 : (Jvm.Cond.code ({ cls := "antecede/sets/LazySet$Window", name := "curr", desc := "()Lantecede/sets/LazySet$Node;" } : Jvm.MethodName) prog_85_method_6_code (1 : Nat) (Option.some (Jvm.ClassFile.FieldType.object "antecede/sets/LazySet$Node"))).before args0 about1 = true := code_word (m := ⟨6, 2⟩) (meth := k6m2) (c := k6c2) (by decide +kernel) rfl rfl rfl (by decide +kernel)
set_option maxRecDepth 65536 in
theorem w_c10 : (Jvm.Cond.code ({ cls := "antecede/sets/LazySet", name := "unchanged", desc := "(Lantecede/sets/LazySet$Node;Lantecede/sets/LazySet$Node;)Z" } : Jvm.MethodName) prog_83_method_6_code (2 : Nat) (Option.some Jvm.ClassFile.FieldType.boolean)).before args0 about1 = true := code_word (m := ⟨3, 5⟩) (meth := k3m5) (c := k3c5) (by decide +kernel) rfl rfl rfl (by decide +kernel)
set_option maxRecDepth 65536 in
theorem w_c11 : (Jvm.Cond.code ({ cls := "antecede/sets/LazySet", name := "contains", desc := "(I)Z" } : Jvm.MethodName) prog_83_method_4_code (3 : Nat) (Option.some Jvm.ClassFile.FieldType.boolean)).before args0 about1 = true := code_word (m := ⟨3, 3⟩) (meth := k3m3) (c := k3c3) (by decide +kernel) rfl rfl rfl (by decide +kernel)
def codes1 : List Jvm.Cond := [Jvm.Cond.code x code maxLocals ret, Jvm.Cond.code ({ cls := "antecede/sets/LazySetContainsPinLaw", name := "pick", desc := "(IIIIII)I" } : Jvm.MethodName) method_3_code (6 : Nat) (Option.some Jvm.ClassFile.FieldType.int), Jvm.Cond.code ({ cls := "antecede/sets/LazySet", name := "<init>", desc := "()V" } : Jvm.MethodName) prog_83_method_1_code (1 : Nat) (Option.none : Option Jvm.ClassFile.FieldType), Jvm.Cond.code ({ cls := "java/lang/Object", name := "<init>", desc := "()V" } : Jvm.MethodName) object_method_1_code (1 : Nat) (Option.none : Option Jvm.ClassFile.FieldType), Jvm.Cond.code ({ cls := "antecede/sets/LazySet$Node", name := "<init>", desc := "(JLantecede/sets/LazySet$Node;)V" } : Jvm.MethodName) prog_84_method_1_code (4 : Nat) (Option.none : Option Jvm.ClassFile.FieldType), Jvm.Cond.code ({ cls := "antecede/sets/LazySet", name := "walk", desc := "(I)Lantecede/sets/LazySet$Window;" } : Jvm.MethodName) prog_83_method_5_code (4 : Nat) (Option.some (Jvm.ClassFile.FieldType.object "antecede/sets/LazySet$Window")), Jvm.Cond.code ({ cls := "antecede/sets/LazySet$Window", name := "<init>", desc := "(Lantecede/sets/LazySet$Node;Lantecede/sets/LazySet$Node;)V" } : Jvm.MethodName) prog_85_method_1_code (3 : Nat) (Option.none : Option Jvm.ClassFile.FieldType), Jvm.Cond.code ({ cls := "java/lang/Record", name := "<init>", desc := "()V" } : Jvm.MethodName) jdk_30_method_1_code (1 : Nat) (Option.none : Option Jvm.ClassFile.FieldType), Jvm.Cond.code ({ cls := "antecede/sets/LazySet$Window", name := "pred", desc := "()Lantecede/sets/LazySet$Node;" } : Jvm.MethodName) prog_85_method_5_code (1 : Nat) (Option.some (Jvm.ClassFile.FieldType.object "antecede/sets/LazySet$Node")), Jvm.Cond.code ({ cls := "antecede/sets/LazySet$Window", name := "curr", desc := "()Lantecede/sets/LazySet$Node;" } : Jvm.MethodName) prog_85_method_6_code (1 : Nat) (Option.some (Jvm.ClassFile.FieldType.object "antecede/sets/LazySet$Node")), Jvm.Cond.code ({ cls := "antecede/sets/LazySet", name := "unchanged", desc := "(Lantecede/sets/LazySet$Node;Lantecede/sets/LazySet$Node;)Z" } : Jvm.MethodName) prog_83_method_6_code (2 : Nat) (Option.some Jvm.ClassFile.FieldType.boolean), Jvm.Cond.code ({ cls := "antecede/sets/LazySet", name := "contains", desc := "(I)Z" } : Jvm.MethodName) prog_83_method_4_code (3 : Nat) (Option.some Jvm.ClassFile.FieldType.boolean)]
set_option maxRecDepth 65536 in
theorem codes_eq : words1.filter isCode = codes1 := rfl
theorem w_codes : ∀ c ∈ words1.filter isCode, c.before args0 about1 = true := by
  rw [codes_eq]
  intro c hc
  simp only [codes1, List.mem_cons, List.not_mem_nil, or_false] at hc
  rcases hc with rfl | rfl | rfl | rfl | rfl | rfl | rfl | rfl | rfl | rfl | rfl | rfl
  · exact w_c0
  · exact w_c1
  · exact w_c2
  · exact w_c3
  · exact w_c4
  · exact w_c5
  · exact w_c6
  · exact w_c7
  · exact w_c8
  · exact w_c9
  · exact w_c10
  · exact w_c11
set_option maxRecDepth 65536 in
theorem w_t1 : (words1.take 24).all (fun c => isCode c || c.before args0 about1) = true := by decide +kernel
set_option maxRecDepth 65536 in
theorem w_t2 : ((words1.drop 24).take 24).all (fun c => isCode c || c.before args0 about1) = true := by decide +kernel
set_option maxRecDepth 65536 in
theorem w_t3 : (((words1.drop 24).drop 24).take 24).all (fun c => isCode c || c.before args0 about1) = true := by decide +kernel
set_option maxRecDepth 65536 in
theorem w_t4 : (((words1.drop 24).drop 24).drop 24).all (fun c => isCode c || c.before args0 about1) = true := by decide +kernel
theorem w_tables : (allAtoms (Jvm.Cond.code x code maxLocals ret :: tables_1)).before args0 about1 = true := by
  rw [allAtoms_all]
  show words1.all (fun c => c.before args0 about1) = true
  refine all_split ?_ w_codes
  rw [← List.take_append_drop 24 words1, List.all_append, w_t1, ← List.take_append_drop 24 (words1.drop 24), List.all_append, w_t2, ← List.take_append_drop 24 ((words1.drop 24).drop 24), List.all_append, w_t3, w_t4]
  rfl
set_option maxRecDepth 65536 in
theorem w_case : (Jvm.Cond.and given_1 narrow_1).before args0 about1 = true := by decide +kernel
theorem w_applies : (headSpec (Jvm.Cond.code x code maxLocals ret :: tables_1) room_1).applies x e0.platform about1 = true :=
  (Spec.applies_iff w_frames).mpr ⟨w_running, w_runnable, w_alone, w_named, w_hears, w_ripe, w_room, w_tables⟩
theorem atStart : AtStart classFile x code maxLocals ret World_1 tables_1 room_1 Calls_1 rest_1 Pre_1 launch0 p0 e0 about1 theMethod args0 below0 :=
  ⟨lists_1, trivial, launch0.admits_env _ _ _, launch0.least_env, fairChoices_fair.cas, fairChoices_fair.clock, w_frames, w_args, w_heap, w_applies, trivial, trivial, w_case⟩
end start1
theorem witness_1 : WitnessClaimed_1 := ⟨start1.p0, start1.e0, start1.about1, start1.theMethod, start1.args0, start1.below0, start1.atStart⟩
end Jvm.Pilot.@@N@@
