/- Part of the proof that laws.FnGroup returns true for all 32 bytes p, q and x: the law for drawn regions, for the reference's numbers.
   Conditions: those that each theorem states. -/
import Derived.Test.YtkibnongmkhbaaaGreatDoorQA
import Derived.Test.YtkibnongmkhbaaaGreatDoorRB
import Derived.Test.YtkibnongmkhbaaaGreatDoorRC

section
open Go Go.RowKit
namespace Go.Proofs.YtkibnongmkhbaaaGreatDoor
open Ed

abbrev FF : Nat → Nat → Prop := fun _ _ => False
def C0 (w0 : World) (_ : Act) (w : World) : Prop := Upd w0 w FF
def G0 (w0 : World) (w : World) : Prop := Upd w0 w FF
theorem cls0 (w0 : World) : Cls (G0 w0) (C0 w0) none := ⟨fun _ _ h => h, fun _ _ _ h k => h.trans k (fun _ _ _ h => h), fun _ _ _ _ _ => Iff.rfl⟩
def C1 (w0 : World) (t : Tmp) (Z : Nat → World → Prop) (a : Act) (w : World) : Prop := Upd w0 w FF ∧ ∀ b, a.eval (.tmp t) = .pointer (some ⟨b, 0, none⟩) → w0.heap.size ≤ b → Z b w
theorem eval_put (a : Act) (d : Option Tmp) (t : Tmp) (v : Value) (h : d ≠ some t) : (a.put d v).eval (.tmp t) = a.eval (.tmp t) := by
  cases d with
  | none => rfl
  | some d =>
    have hd : d ≠ t := fun e => h (by rw [e])
    simp only [Act.put, Act.eval, go_sem]
    simp [hd]
theorem cls1 (w0 : World) (t : Tmp) (Z : Nat → World → Prop) (hZ : ∀ b w w', Z b w → Upd w w' FF → Z b w') : Cls (G0 w0) (C1 w0 t Z) (some t) where
  g := fun _ _ h => h.1
  grow := fun _ _ _ h k => ⟨h.1.trans k (fun _ _ _ h => h), fun b h1 h2 => hZ _ _ _ (h.2 b h1 h2) k⟩
  put := fun a w d v hd => by unfold C1; rw [eval_put a d t v hd]

theorem wanted_none {o : Oper} (h : o.guard = none) (y : Nat → Option Bool) : Region.wanted o y = true := by unfold Region.wanted; rw [h]

section
variable {ops : Array Oper} {C : Act → World → Prop} {t : Option Tmp} {Lq : Act → Prop} {w0 : World} {o : Oper} {rest : List Oper} {a : Act}

theorem hd_pure (hgd : o.guard = none) (hd : o.dst ≠ t) (v : Value) (hv : ∀ w, (execOp a.eval o).run Tryz.prog w = .ok (.value v) w)
    (h : wpHd Tryz.prog ops C (G0 w0) t Lq rest (a.put o.dst v)) : wpHd Tryz.prog ops C (G0 w0) t Lq (o :: rest) a :=
  .inl ⟨hd, v, .inl ⟨wanted_none hgd _, fun w _ => by rw [hv w]; exact ⟨rfl, rfl⟩⟩, h⟩
theorem hd_load45 (hgd : o.guard = none) (hd : o.dst ≠ t) (x : Operand) (ho : o.op = .load 45 x) (b f : Nat) (hx : a.eval x = .pointer (some ⟨b, f, none⟩)) (N : Int) (hN : Nu w0 b f N)
    (h : wpHd Tryz.prog ops C (G0 w0) t Lq rest (a.put o.dst (.agg (Na N)))) : wpHd Tryz.prog ops C (G0 w0) t Lq (o :: rest) a := by
  refine .inl ⟨hd, _, .inl ⟨wanted_none hgd _, fun w hw => ?_⟩, h⟩
  obtain ⟨d, hu, hr⟩ := row45
  have hk := (hN.keep hw (fun _ _ h => h)).range
  unfold execOp
  simp only [ho, hx, Instr.loadAt, Instr.sureAddr, Sem.run_bind, Sem.run_pure, Result.andThen_ok, run_loadVar_mid w b f 45 (NaL N) d hk hu hr (by rw [NaL_len]; exact size45)]
  exact ⟨rfl, rfl⟩
theorem hd_call (hgd : o.guard = none) (hd : o.dst ≠ t) (f : FuncId) (args : Array Value) (v : Value) (hf : ∀ w, (execOp a.eval o).run Tryz.prog w = .ok (.enter f args) w)
    (hC : ∀ w, Calls Tryz.prog f args w fun e w' => e = .returned v ∧ Upd w w' FF) (h : wpHd Tryz.prog ops C (G0 w0) t Lq rest (a.put o.dst v)) : wpHd Tryz.prog ops C (G0 w0) t Lq (o :: rest) a :=
  .inl ⟨hd, v, .inl ⟨wanted_none hgd _, fun w _ => by rw [hf w]; exact ⟨rfl, hC w⟩⟩, h⟩
theorem hd_callG (hgd : o.guard = none) (hd : o.dst ≠ t) (f : FuncId) (args : Array Value) (v : Value) (hf : ∀ w, (execOp a.eval o).run Tryz.prog w = .ok (.enter f args) w)
    (hC : ∀ w, Upd w0 w FF → Calls Tryz.prog f args w fun e w' => e = .returned v ∧ Upd w w' FF) (h : wpHd Tryz.prog ops C (G0 w0) t Lq rest (a.put o.dst v)) : wpHd Tryz.prog ops C (G0 w0) t Lq (o :: rest) a :=
  .inl ⟨hd, v, .inl ⟨wanted_none hgd _, fun w hw => by rw [hf w]; exact ⟨rfl, hC w hw⟩⟩, h⟩
theorem hd_alloc {t : Tmp} {Z : Nat → World → Prop} (hgd : o.guard = none) (hd : o.dst = some t) (X : Obj) (hv : ∀ w : World, (execOp a.eval o).run Tryz.prog w = .ok (.value (.pointer (some ⟨w.heap.size, 0, none⟩))) (w.alloc X))
    (he : ∀ v, (a.put (some t) v).eval (.tmp t) = v) (hZ : ∀ w : World, Z w.heap.size (w.alloc X)) (h : ∀ b, w0.heap.size ≤ b → Lq (a.put o.dst (.pointer (some ⟨b, 0, none⟩)))) : wpHd Tryz.prog ops (C1 w0 t Z) (G0 w0) (some t) Lq [o] a := by
  refine .inr ⟨rfl, wanted_none hgd _, fun w hw => ?_⟩
  rw [hv w]
  refine ⟨⟨hw.1.alloc X, fun b hb _ => ?_⟩, h _ hw.1.size⟩
  rw [hd, he] at hb
  cases hb
  exact hZ w
end

def ZN (b : Nat) (w : World) : Prop := Nu w b 0 0
theorem clsN (w0 : World) (t : Tmp) : Cls (G0 w0) (C1 w0 t ZN) (some t) := cls1 w0 t ZN (fun _ _ _ h k => Nu.keep k h (fun _ _ h => h))
theorem zn_new (w : World) : ZN w.heap.size (w.alloc (Z4 45)) := Nu.zero w 45
theorem begin1 (w0 : World) (t : Tmp) (Z : Nat → World → Prop) (a : Act) (h : a.eval (.tmp t) = undef) : C1 w0 t Z a w0 := ⟨Upd.refl _ _, fun b hb _ => by rw [h] at hb; cases hb⟩

end Go.Proofs.YtkibnongmkhbaaaGreatDoor
end

section
open Go Go.RowKit
namespace Go.Proofs.YtkibnongmkhbaaaGreatDoor
open Ed

theorem getD_set_other {l : Array Bool} {i s : Nat} (h : (i == s) = false) : (l.setIfInBounds i true).getD s false = l.getD s false := getD_set_ne false (by simpa using h)

/-- an alloc into the temporary t, a store into it as operation s -/
def CC (w0 : World) (t : Tmp) (s : Nat) (Z : Bool → Nat → World → Prop) (l : Array Bool) (a : Act) (w : World) : Prop :=
  Upd w0 w FF ∧ ∀ b, a.eval (.tmp t) = .pointer (some ⟨b, 0, none⟩) → w0.heap.size ≤ b → Z (l.getD s false) b w
theorem cldC (w0 : World) (t : Tmp) (s : Nat) (Z : Bool → Nat → World → Prop) (hZ : ∀ x b w w', Z x b w → Upd w w' FF → Z x b w') : Cld (G0 w0) (CC w0 t s Z) (some t) (fun i => i == s) where
  g := fun _ _ _ h => h.1
  grow := fun _ _ _ _ h k => ⟨h.1.trans k (fun _ _ _ h => h), fun b h1 h2 => hZ _ _ _ _ (h.2 b h1 h2) k⟩
  put := fun l a w i d v hd hs => by unfold CC; rw [eval_put a d t v hd, getD_set_other hs]
/-- a store into an old block as operation s -/
def CS (w0 : World) (S : Nat → Nat → Prop) (s : Nat) (Z : Bool → World → Prop) (l : Array Bool) (_ : Act) (w : World) : Prop := Upd w0 w S ∧ Z (l.getD s false) w
def GS (w0 : World) (S : Nat → Nat → Prop) (w : World) : Prop := Upd w0 w S
theorem cldS (w0 : World) (S : Nat → Nat → Prop) (s : Nat) (Z : Bool → World → Prop) (hZ : ∀ x w w', Z x w → Upd w w' FF → Z x w') : Cld (GS w0 S) (CS w0 S s Z) none (fun i => i == s) where
  g := fun _ _ _ h => h.1
  grow := fun _ _ _ _ h k => ⟨h.1.trans k (fun _ _ _ h => h.elim), hZ _ _ _ h.2 k⟩
  put := fun l a w i d v _ hs => by unfold CS; rw [getD_set_other hs]

section
variable {ops : Array Oper} {C : Array Bool → Act → World → Prop} {t : Option Tmp} {sp : Nat → Bool} {Q : Exit → Act → World → Prop} {w0 : World} {S : Nat → Nat → Prop} {o : Oper} {r : List (Nat × Bool)} {a : Act} {l : Array Bool} {i : Nat}

theorem wq_pure {G : World → Prop} (ho : ops.toList[i]? = some o) (hgd : o.guard = none) (hd : o.dst ≠ t) (hs : sp i = false) (v : Value) (hv : ∀ w, (execOp a.eval o).run Tryz.prog w = .ok (.value v) w)
    (h : wpW Tryz.prog ops C G t sp Q r (l.setIfInBounds i true) (a.put o.dst v)) : wpW Tryz.prog ops C G t sp Q ((i, false) :: r) l a :=
  ⟨o, (Array.getElem?_toList (xs := ops)) ▸ ho, hd, hs, v, .inl ⟨wanted_none hgd _, fun w _ => by rw [hv w]; exact ⟨rfl, rfl⟩⟩, h⟩
theorem wq_load45 (ho : ops.toList[i]? = some o) (hgd : o.guard = none) (hd : o.dst ≠ t) (hs : sp i = false) (x : Operand) (hop : o.op = .load 45 x) (b f : Nat) (hx : a.eval x = .pointer (some ⟨b, f, none⟩)) (N : Int) (hN : Nu w0 b f N) (hn : ∀ i, i < 4 → ¬ S b (f + i))
    (h : wpW Tryz.prog ops C (GS w0 S) t sp Q r (l.setIfInBounds i true) (a.put o.dst (.agg (Na N)))) : wpW Tryz.prog ops C (GS w0 S) t sp Q ((i, false) :: r) l a := by
  refine ⟨o, (Array.getElem?_toList (xs := ops)) ▸ ho, hd, hs, _, .inl ⟨wanted_none hgd _, fun w hw => ?_⟩, h⟩
  obtain ⟨d, hu, hr⟩ := row45
  have hk := (hN.keep hw hn).range
  unfold execOp
  simp only [hop, hx, Instr.loadAt, Instr.sureAddr, Sem.run_bind, Sem.run_pure, Result.andThen_ok, run_loadVar_mid w b f 45 (NaL N) d hk hu hr (by rw [NaL_len]; exact size45)]
  exact ⟨rfl, rfl⟩
theorem wq_call {G : World → Prop} (ho : ops.toList[i]? = some o) (hgd : o.guard = none) (hd : o.dst ≠ t) (hs : sp i = false) (f : FuncId) (args : Array Value) (v : Value) (hf : ∀ w, (execOp a.eval o).run Tryz.prog w = .ok (.enter f args) w)
    (hC : ∀ w, Calls Tryz.prog f args w fun e w' => e = .returned v ∧ Upd w w' FF) (h : wpW Tryz.prog ops C G t sp Q r (l.setIfInBounds i true) (a.put o.dst v)) : wpW Tryz.prog ops C G t sp Q ((i, false) :: r) l a :=
  ⟨o, (Array.getElem?_toList (xs := ops)) ▸ ho, hd, hs, v, .inl ⟨wanted_none hgd _, fun w _ => by rw [hf w]; exact ⟨rfl, hC w⟩⟩, h⟩
theorem wq_alloc {t : Tmp} {s : Nat} {Z : Bool → Nat → World → Prop} {G : World → Prop} (ho : ops.toList[i]? = some o) (hgd : o.guard = none) (hd : o.dst = some t) (X : Obj) (hv : ∀ w : World, (execOp a.eval o).run Tryz.prog w = .ok (.value (.pointer (some ⟨w.heap.size, 0, none⟩))) (w.alloc X))
    (he : ∀ v, (a.put (some t) v).eval (.tmp t) = v) (hl : (l.setIfInBounds i true).getD s false = false) (hZ : ∀ w : World, Z false w.heap.size (w.alloc X))
    (h : ∀ b, w0.heap.size ≤ b → wpW Tryz.prog ops (CC w0 t s Z) G (some t) sp Q r (l.setIfInBounds i true) (a.put o.dst (.pointer (some ⟨b, 0, none⟩)))) : wpW Tryz.prog ops (CC w0 t s Z) G (some t) sp Q ((i, true) :: r) l a := by
  refine ⟨o, (Array.getElem?_toList (xs := ops)) ▸ ho, wanted_none hgd _, fun w hw => ?_⟩
  rw [hv w]
  refine ⟨⟨hw.1.alloc X, fun b hb _ => ?_⟩, h _ hw.1.size⟩
  rw [hd, he] at hb
  cases hb
  rw [hl]
  exact hZ w
theorem wq_store {G : World → Prop} (ho : ops.toList[i]? = some o) (hgd : o.guard = none) (hrun : ∀ w, C l a w → ∃ w', (execOp a.eval o).run Tryz.prog w = .ok .skip w' ∧ C (l.setIfInBounds i true) (a.put o.dst undef) w')
    (h : wpW Tryz.prog ops C G t sp Q r (l.setIfInBounds i true) (a.put o.dst undef)) : wpW Tryz.prog ops C G t sp Q ((i, true) :: r) l a := by
  refine ⟨o, (Array.getElem?_toList (xs := ops)) ▸ ho, wanted_none hgd _, fun w hw => ?_⟩
  obtain ⟨w', h1, h2⟩ := hrun w hw
  rw [h1]
  exact ⟨h2, h⟩
end

/-- the store of a number -/
theorem run_store45 {o : Oper} {a : Act} {w : World} (x y : Operand) (ho : o.op = .store 45 x y) (b f : Nat) (N M : Int) (hx : a.eval x = .pointer (some ⟨b, f, none⟩)) (hy : a.eval y = .agg (Na N)) (hW : Nu w b f M) :
    ∃ w', (execOp a.eval o).run Tryz.prog w = .ok .skip w' ∧ Nu w' b f N ∧ Upd w w' (Rg b f 4) ∧ w' = w.setCells b f (NaL N) := by
  have ht : w.there b f (NaL N).length := hW.there
  have hr := World.rangeAt_setCells_same w b f _ ht
  refine ⟨w.setCells b f (NaL N), ?_, fun i hi => ⟨hr i _ (NaL_get N i hi), by rw [World.frozen?_setCells]; exact (hW i hi).2⟩, (Upd.refl w _).cells b (NaL N) f (fun i hi _ => ⟨rfl, by omega, by rw [NaL_len] at hi; omega⟩), rfl⟩
  unfold execOp
  simp only [ho, hx, hy, Instr.storeAt, Instr.sureAddr, Sem.run_bind, Sem.run_pure, Result.andThen_ok, run_storeVar_mid w b f 45 (Na N) hW.there size45 (all_oneCell_toArray (NaL_one N))]
  rfl

def ZZ (N : Int) (x : Bool) (b : Nat) (w : World) : Prop := Nu w b 0 (if x then N else 0)
theorem cldZ (w0 : World) (t : Tmp) (s : Nat) (N : Int) : Cld (GS w0 FF) (CC w0 t s (ZZ N)) (some t) (fun i => i == s) := cldC w0 t s (ZZ N) (fun _ _ _ _ h k => Nu.keep k h (fun _ _ h => h))
theorem zz_new (N : Int) (w : World) : ZZ N false w.heap.size (w.alloc (Z4 45)) := Nu.zero w 45
theorem begin2 (w0 : World) (t : Tmp) (s : Nat) (Z : Bool → Nat → World → Prop) (l : Array Bool) (a : Act) (h : a.eval (.tmp t) = undef) : CC w0 t s Z l a w0 := ⟨Upd.refl _ _, fun b hb _ => by rw [h] at hb; cases hb⟩

theorem wq_store45 {ops : Array Oper} {t : Tmp} {sp : Nat → Bool} {Q : Exit → Act → World → Prop} {w0 : World} {G : World → Prop} {o : Oper} {r : List (Nat × Bool)} {a : Act} {l : Array Bool} {i : Nat} (N : Int) (ho : ops.toList[i]? = some o) (hgd : o.guard = none) (hdst : o.dst = none)
    (x y : Operand) (hop : o.op = .store 45 x y) (b : Nat) (hb : w0.heap.size ≤ b) (hx : a.eval x = .pointer (some ⟨b, 0, none⟩)) (ht : a.eval (.tmp t) = .pointer (some ⟨b, 0, none⟩)) (hy : a.eval y = .agg (Na N)) (hl0 : l.getD i false = false) (hl1 : (l.setIfInBounds i true).getD i false = true)
    (h : wpW Tryz.prog ops (CC w0 t i (ZZ N)) G (some t) sp Q r (l.setIfInBounds i true) a) : wpW Tryz.prog ops (CC w0 t i (ZZ N)) G (some t) sp Q ((i, true) :: r) l a := by
  refine wq_store ho hgd (fun w hw => ?_) (by rw [hdst]; exact h)
  have hz : Nu w b 0 0 := by have := hw.2 b ht hb; rw [hl0] at this; exact this
  obtain ⟨w', h1, h2, h3, _⟩ := run_store45 x y hop b 0 N 0 hx hy hz
  refine ⟨w', h1, hw.1.trans h3 (fun b' o' hb' h => by have := h.1; omega), fun b' hb' _ => ?_⟩
  rw [hdst] at hb'
  have hb2 : a.eval (.tmp t) = .pointer (some ⟨b', 0, none⟩) := hb'
  rw [ht] at hb2
  cases hb2
  rw [hl1]
  exact h2

set_option maxRecDepth 100000 in
theorem exec_alloc45 (ρ : Operand → Value) (d : Option Tmp) (ty : TypeId) (pos : String) (after : Array Edge) (g) (w : World) :
    (execOp ρ { dst := d, op := .alloc 45, type := ty, pos := pos, after := after, guard := g }).run Tryz.prog w = .ok (.value (.pointer (some ⟨w.heap.size, 0, none⟩))) (w.alloc (Z4 45)) := by
  go_simp
  rfl
theorem eval_put_same (a : Act) (t : Tmp) (v : Value) (h : t < a.tmps.size) : (a.put (some t) v).eval (.tmp t) = v := by
  simp only [Act.put, Act.eval]
  simp [h]

end Go.Proofs.YtkibnongmkhbaaaGreatDoor
end
