/- Part of the proof that laws.FnGroup returns true for all 32 bytes p, q and x: drawn regions with two special operations.
   Conditions: those that each theorem states. -/
import Derived.Test.YtkibnongmkhbaaaGreatDoorQB
import Derived.Test.YtkibnongmkhbaaaGreatDoorRG

section
open Go
namespace Go.Proofs.YtkibnongmkhbaaaGreatDoor

/-! The same, where two special operations may come up in either order: a tree of orders. -/
section
variable {P : Program} {md : Region.Mode} {ops : Array Oper} {C : Array Bool → Act → World → Prop} {G : World → Prop}

structure Clt (G : World → Prop) (C : Array Bool → Act → World → Prop) (tr : Option Tmp → Bool) (sp : Nat → Bool) : Prop where
  g : ∀ l a w, C l a w → G w
  grow : ∀ l a w w', C l a w → Upd w w' (fun _ _ => False) → C l a w'
  put : ∀ l a w i d v, tr d = false → sp i = false → (C (l.setIfInBounds i true) (a.put d v) w ↔ C l a w)

theorem oneT_mOp {tr : Option Tmp → Bool} {sp : Nat → Bool} (hcl : Clt G C tr sp) {l : Array Bool} {i : Nat} {o : Oper} {v : Value} {a : Act} (hi : ops[i]? = some o) (hd : tr o.dst = false) (hs : sp i = false) (hy : One P ops G o v a) {K : Act → Prop} (h : K (a.put o.dst v)) : mOp P ops C l i K a := by
  unfold YtkibnongmkhbaaaGreatDoor.mOp
  rw [hi]
  dsimp only
  rcases hy with ⟨hw, hv⟩ | ⟨hw, rfl⟩
  · rw [if_pos hw]
    intro w hc
    have h3 := hv w (hcl.g l a w hc)
    generalize (execOp a.eval o).run P w = r at *
    cases r with
    | ok n w' =>
      cases n <;> simp only [oneUp] at h3 <;> simp only [upD]
      case value u => obtain ⟨rfl, rfl⟩ := h3; exact ⟨(hcl.put _ _ _ _ _ _ hd hs).2 hc, h⟩
      case skip => obtain ⟨rfl, rfl⟩ := h3; exact ⟨(hcl.put _ _ _ _ _ _ hd hs).2 hc, h⟩
      case enter f args =>
        obtain ⟨rfl, h3⟩ := h3
        exact h3.mono fun e w'' ⟨h1, h2⟩ => ⟨v, h1, (hcl.put _ _ _ _ _ _ hd hs).2 (hcl.grow _ _ _ _ hc h2), h⟩
    | halt x w' => simp only [oneUp] at h3
  · rw [if_neg (by rw [hw]; decide)]
    exact ⟨fun w hc => (hcl.put _ _ _ _ _ _ hd hs).2 hc, h⟩

theorem mOpT_put {tr : Option Tmp → Bool} {sp : Nat → Bool} (hcl : Clt G C tr sp) {l : Array Bool} {i j : Nat} {oi oj : Oper} {v : Value} (hj : ops[j]? = some oj) (hij : j ≠ i) (hap : oi.apart ops oj = true)
    (hsi : ∀ cs b, oi.op ≠ .select cs b) (hsj : ∀ cs b, oj.op ≠ .select cs b) (hd : tr oi.dst = false) (hsp : sp i = false) {K : Act → Prop} {a : Act}
    (hy : One P ops G oi v a) (h : mOp P ops C (l.setIfInBounds i true) j K (a.put oi.dst v)) : mOp P ops C l j (fun a' => One P ops G oi v a' ∧ K (a'.put oi.dst v)) a := by
  obtain ⟨h1, h2, h3⟩ := Oper.apart_spec hap
  have stay : ∀ u, One P ops G oi v (a.put oj.dst u) := fun u => hy.same (execOp_put oi hsi a oj.dst u h3) (wanted_put oi a oj.dst u h3)
  have back : ∀ (x : Act) (w : World), C ((l.setIfInBounds i true).setIfInBounds j true) (x.put oi.dst v) w → C (l.setIfInBounds j true) x w := fun x w hx => by
    rw [Array.setIfInBounds_comm _ _ (Ne.symm hij)] at hx
    exact (hcl.put _ _ _ _ _ _ hd hsp).1 hx
  unfold mOp at *
  rw [hj] at h ⊢
  dsimp only at h ⊢
  rw [wanted_put oj a oi.dst v h1] at h
  split
  · rename_i hw
    rw [if_pos hw] at h
    intro w hc
    have h4 := h w ((hcl.put _ _ _ _ _ _ hd hsp).2 hc)
    rw [execOp_put oj hsj a oi.dst v h1] at h4
    generalize (execOp a.eval oj).run P w = r at *
    cases r with
    | ok n w' =>
      cases n <;> simp only [upD] at h4 ⊢
      case value u =>
        rw [Act.put_comm a v u h2] at h4
        exact ⟨back _ _ h4.1, stay u, h4.2⟩
      case skip =>
        rw [Act.put_comm a v undef h2] at h4
        exact ⟨back _ _ h4.1, stay undef, h4.2⟩
      case enter f args =>
        exact h4.mono fun e w'' ⟨u, k1, k2, k3⟩ => by
          rw [Act.put_comm a v u h2] at k2 k3
          exact ⟨u, k1, back _ _ k2, stay u, k3⟩
    | halt x w' => simp only [upD] at h4
  · rename_i hw
    rw [if_neg hw] at h
    rw [Act.put_comm a v undef h2] at h
    exact ⟨fun w hc => back _ _ (h.1 w ((hcl.put _ _ _ _ _ _ hd hsp).2 hc)), stay undef, h.2⟩

theorem wpT_first {tr : Option Tmp → Bool} {sp : Nat → Bool} (hcl : Clt G C tr sp) {Q : Exit → Act → World → Prop} {i : Nat} {oi : Oper} {v : Value} (hi : ops[i]? = some oi) (hd : tr oi.dst = false) (hsp : sp i = false)
    (hsel : ∀ (j : Nat) (o : Oper) cs b, ops[j]? = some o → o.op ≠ .select cs b) :
    ∀ (f : Nat) (listed : Array Bool) (a : Act),
      (∀ j oj, ops[j]? = some oj → j ≠ i → listed.getD j true = false → (∀ e ∈ oj.after, Region.binds md e = true → e.on ≠ i) → oi.apart ops oj = true) →
      i ∈ Region.ready md ops listed → One P ops G oi v a →
      wpD P md ops C Q f (listed.setIfInBounds i true) (a.put oi.dst v) → wpD P md ops C Q (f + 1) listed a := by
  intro f
  induction f with
  | zero =>
    intro listed a _ hr hy H
    refine ⟨fun h => (by rw [h] at hr; cases hr), fun j hj => ?_⟩
    by_cases hji : j = i
    · subst hji; exact oneT_mOp hcl hi hd hsp hy H
    · have := ready_mono hj hji
      rw [H.1] at this
      cases this
  | succ f ih =>
    intro listed a hfree hr hy H
    refine ⟨fun h => (by rw [h] at hr; cases hr), fun j hj => ?_⟩
    by_cases hji : j = i
    · subst hji; exact oneT_mOp hcl hi hd hsp hy H
    · have h1 := H.2 j (ready_mono hj hji)
      obtain ⟨hjun, oj, hoj, hall⟩ := mem_ready.1 hj
      have hnot : ∀ e ∈ oj.after, Region.binds md e = true → e.on ≠ i := fun e he hb heq => by
        have h1 := hall e he hb
        have h0 := (mem_ready.1 hr).1
        rw [heq, getD_both h0] at h1
        cases h1
      have h2 := mOpT_put hcl hoj hji (hfree j oj hoj hji hjun hnot) (fun cs b => hsel i oi cs b hi) (fun cs b => hsel j oj cs b hoj) hd hsp hy h1
      have hfree' : ∀ k ok, ops[k]? = some ok → k ≠ i → (listed.setIfInBounds j true).getD k true = false →
          (∀ e ∈ ok.after, Region.binds md e = true → e.on ≠ i) → oi.apart ops ok = true := fun k ok hk hki hun hno => by
        refine hfree k ok hk hki ?_ hno
        by_cases hjk : j = k
        · subst hjk; exact hjun
        · rw [getD_set_ne true hjk] at hun; exact hun
      refine mOp_mono (fun a' h3 => ih (listed.setIfInBounds j true) a' hfree' (ready_mono hr (Ne.symm hji)) h3.1 ?_) h2
      rw [Array.setIfInBounds_comm _ _ hji]
      exact h3.2


/-- a tree of orders: a quiet operation, a special one that alone is ready, two special ones -/
inductive OT where
  | nil : OT
  | q : Nat → OT → OT
  | s : Nat → OT → OT
  | two : Nat → Nat → OT → OT → OT

def ordT (md : Region.Mode) (ops : Array Oper) : Nat → OT → Array Bool → Bool
  | 0, .nil, l => (Region.ready md ops l).isEmpty
  | f + 1, .q i r, l => (Region.ready md ops l).contains i && Region.free md ops l i && ordT md ops f r (l.setIfInBounds i true)
  | f + 1, .s i r, l => decide (Region.ready md ops l = [i]) && ordT md ops f r (l.setIfInBounds i true)
  | f + 1, .two i j r k, l => decide (Region.ready md ops l = [i, j]) && (ordT md ops f r (l.setIfInBounds i true) && ordT md ops f k (l.setIfInBounds j true))
  | _, _, _ => false

def spT (P : Program) (ops : Array Oper) (C : Array Bool → Act → World → Prop) (i : Nat) (l : Array Bool) (a : Act) (K : Act → Prop) : Prop :=
  ∃ o, ops[i]? = some o ∧ Region.wanted o (yielded ops a.tmps) = true ∧ ∀ w, C l a w → upD P C l i o a K ((execOp a.eval o).run P w)

def wpT (P : Program) (ops : Array Oper) (C : Array Bool → Act → World → Prop) (G : World → Prop) (tr : Option Tmp → Bool) (sp : Nat → Bool) (Q : Act → World → Prop) : OT → Array Bool → Act → Prop
  | .nil, l, a => ∀ w, C l a w → Q a w
  | .q i r, l, a => ∃ o, ops[i]? = some o ∧ tr o.dst = false ∧ sp i = false ∧ ∃ v, One P ops G o v a ∧ wpT P ops C G tr sp Q r (l.setIfInBounds i true) (a.put o.dst v)
  | .s i r, l, a => spT P ops C i l a (wpT P ops C G tr sp Q r (l.setIfInBounds i true))
  | .two i j r k, l, a => spT P ops C i l a (wpT P ops C G tr sp Q r (l.setIfInBounds i true)) ∧ spT P ops C j l a (wpT P ops C G tr sp Q k (l.setIfInBounds j true))

theorem mOp_of_spT {l : Array Bool} {i : Nat} {a : Act} {K K' : Act → Prop} (h : ∀ a, K a → K' a) (hh : spT P ops C i l a K) : mOp P ops C l i K' a := by
  obtain ⟨o, ho, hw, hK⟩ := hh
  unfold mOp
  rw [ho]
  dsimp only
  rw [if_pos hw]
  exact fun w hc => upD_mono h (hK w hc)

theorem wpD_tree {tr : Option Tmp → Bool} {sp : Nat → Bool} (hcl : Clt G C tr sp) {Q : Exit → Act → World → Prop} (hsel : Region.noSelect ops = true) :
    ∀ (f : Nat) (r : OT) (l : Array Bool) (a : Act), ordT md ops f r l = true → wpT P ops C G tr sp (Q .normal) r l a → wpD P md ops C Q f l a
  | 0, .nil, l, a, hB, h => ⟨by simpa [ordT] using hB, h⟩
  | f + 1, .q i r, l, a, hB, h => by
    simp only [ordT, Bool.and_eq_true] at hB
    obtain ⟨⟨hr, hf⟩, hB'⟩ := hB
    obtain ⟨o, ho, hd, hsp, v, hy, hK⟩ := h
    exact wpT_first hcl ho hd hsp (Region.noSelect_spec hsel) f l a (Region.free_spec ho hf) (by simpa using hr) hy (wpD_tree hcl hsel f r _ _ hB' hK)
  | f + 1, .s i r, l, a, hB, h => by
    simp only [ordT, Bool.and_eq_true, decide_eq_true_eq] at hB
    obtain ⟨hr, hB'⟩ := hB
    refine ⟨fun h => (by rw [h] at hr; cases hr), fun j hj => ?_⟩
    rw [hr] at hj
    have hji : j = i := by simpa using hj
    subst hji
    exact mOp_of_spT (fun a' h' => wpD_tree hcl hsel f r _ _ hB' h') h
  | f + 1, .two i k r r2, l, a, hB, h => by
    simp only [ordT, Bool.and_eq_true, decide_eq_true_eq] at hB
    obtain ⟨hr, hB1, hB2⟩ := hB
    refine ⟨fun h => (by rw [h] at hr; cases hr), fun j hj => ?_⟩
    rw [hr] at hj
    have hji : j = i ∨ j = k := by simpa using hj
    rcases hji with rfl | rfl
    · exact mOp_of_spT (fun a' h' => wpD_tree hcl hsel f r _ _ hB1 h') h.1
    · exact mOp_of_spT (fun a' h' => wpD_tree hcl hsel f r2 _ _ hB2 h') h.2
  | 0, .q _ _, _, _, hB, _ => by simp [ordT] at hB
  | 0, .s _ _, _, _, hB, _ => by simp [ordT] at hB
  | 0, .two _ _ _ _, _, _, hB, _ => by simp [ordT] at hB
  | _ + 1, .nil, _, _, hB, _ => by simp [ordT] at hB

/-- a drawn region by a tree of orders, with a post of its own -/
theorem wp_region_tree {id : Nat} {Q : Exit → Act → World → Prop} {a : Act} {w : World} (r : OT) {tr : Option Tmp → Bool} {sp : Nat → Bool} (hcl : Clt G C tr sp) (R : Act → World → Prop) (hm : P.follows .mixedOrders = true)
    (hsel : Region.noSelect ops = true) (hB : ordT .any ops ops.size r (Array.replicate ops.size false) = true)
    (h0 : C (Array.replicate ops.size false) a w.drew) (h : wpT P ops C G tr sp R r (Array.replicate ops.size false) a) (hR : ∀ a' w', R a' w' → Q .normal a' w') : (Code.region id ops true).wp P Q a w := by
  refine wp_region_any hm (wpAny_of_D _ _ _ _ h0 ?_)
  refine wpD_tree (md := .any) (Q := Q) hcl hsel _ r _ a hB ?_
  have : ∀ (r : OT) (l : Array Bool) (a : Act), wpT P ops C G tr sp R r l a → wpT P ops C G tr sp (Q .normal) r l a := by
    intro r
    induction r with
    | nil => exact fun l a h w hc => hR _ _ (h w hc)
    | q i r ih => exact fun l a ⟨o, h1, h2, h3, v, h4, h5⟩ => ⟨o, h1, h2, h3, v, h4, ih _ _ h5⟩
    | s i r ih => exact fun l a ⟨o, h1, h2, h3⟩ => ⟨o, h1, h2, fun w hc => upD_mono (fun a' h' => ih _ _ h') (h3 w hc)⟩
    | two i j r k ih1 ih2 => exact fun l a ⟨⟨o, h1, h2, h3⟩, o', h1', h2', h3'⟩ => ⟨⟨o, h1, h2, fun w hc => upD_mono (fun a' h' => ih1 _ _ h') (h3 w hc)⟩, o', h1', h2', fun w hc => upD_mono (fun a' h' => ih2 _ _ h') (h3' w hc)⟩
  exact this _ _ _ h

end
end Go.Proofs.YtkibnongmkhbaaaGreatDoor
end

section
open Go Go.RowKit
namespace Go.Proofs.YtkibnongmkhbaaaGreatDoor
open Ed

/-! The same for arrays of 32 bytes, and for a call that hands back a slice of its own. -/

theorem run_store22 {o : Oper} {a : Act} {w : World} (x y : Operand) (ho : o.op = .store 22 x y) (b : Nat) (R : Nat → Int) (hx : a.eval x = .pointer (some ⟨b, 0, none⟩)) (hy : a.eval y = .agg (Arr R)) (hW : Wy w b 0 32) :
    ∃ w', (execOp a.eval o).run Tryz.prog w = .ok .skip w' ∧ By w' b 0 32 R ∧ Wy w' b 0 32 ∧ Upd w w' (Rg b 0 32) := by
  have ht : w.there b 0 (ArrL R).length := by rw [ArrL_len]; exact hW.there
  have hB : By (w.setCells b 0 (ArrL R)) b 0 32 R := By.of_range (World.rangeAt_setCells_same w b 0 _ ht)
  refine ⟨w.setCells b 0 (ArrL R), ?_, hB, fun i hi => ⟨⟨_, hB i hi⟩, ?_⟩, (Upd.refl w _).cells b (ArrL R) 0 (fun i hi _ => ⟨rfl, by omega, by rw [ArrL_len] at hi; omega⟩)⟩
  · unfold execOp
    simp only [ho, hx, hy, Instr.storeAt, Instr.sureAddr, Sem.run_bind, Sem.run_pure, Result.andThen_ok, run_storeVar_mid w b 0 22 (Arr R) (by rw [Arr_eq, ArrL_size]; exact hW.there) (by rw [Arr_eq, ArrL_size]; exact size22) (all_oneCell_toArray (ArrL_one R))]
    rfl
  · rw [World.frozen?_setCells]
    exact (hW i hi).2

/-- an array in block b: written or not yet -/
def ZS (b : Nat) (R : Nat → Int) (x : Bool) (w : World) : Prop := Wy w b 0 32 ∧ (x = true → By w b 0 32 R)
theorem ZS.keep {b : Nat} {R : Nat → Int} {x : Bool} {w w' : World} {S : Nat → Nat → Prop} (hu : Upd w w' S) (h : ZS b R x w) (hn : ∀ i, i < 32 → ¬ S b (0 + i)) : ZS b R x w' :=
  ⟨h.1.keep hu hn, fun e => (h.2 e).keep hu hn⟩

section
variable {ops : Array Oper} {C : Array Bool → Act → World → Prop} {t : Option Tmp} {sp : Nat → Bool} {Q : Exit → Act → World → Prop} {w0 : World} {S : Nat → Nat → Prop} {o : Oper} {r : List (Nat × Bool)} {a : Act} {l : Array Bool} {i : Nat}

theorem wq_callG {G : World → Prop} (ho : ops.toList[i]? = some o) (hgd : o.guard = none) (hd : o.dst ≠ t) (hs : sp i = false) (f : FuncId) (args : Array Value) (v : Value) (hf : ∀ w, (execOp a.eval o).run Tryz.prog w = .ok (.enter f args) w)
    (hC : ∀ w, G w → Calls Tryz.prog f args w fun e w' => e = .returned v ∧ Upd w w' FF) (h : wpW Tryz.prog ops C G t sp Q r (l.setIfInBounds i true) (a.put o.dst v)) : wpW Tryz.prog ops C G t sp Q ((i, false) :: r) l a :=
  ⟨o, (Array.getElem?_toList (xs := ops)) ▸ ho, hd, hs, v, .inl ⟨wanted_none hgd _, fun w hw => by rw [hf w]; exact ⟨rfl, hC w hw⟩⟩, h⟩

/-- the store of an array into an old block -/
theorem wq_store22 {s b : Nat} {R : Nat → Int} {G : World → Prop} (hi : i = s) (ho : ops.toList[i]? = some o) (hgd : o.guard = none) (x y : Operand) (hop : o.op = .store 22 x y) (hx : a.eval x = .pointer (some ⟨b, 0, none⟩)) (hy : a.eval y = .agg (Arr R)) (hl : (l.setIfInBounds i true).getD s false = true)
    (h : wpW Tryz.prog ops (CS w0 (Rg b 0 32) s (ZS b R)) G t sp Q r (l.setIfInBounds i true) (a.put o.dst undef)) : wpW Tryz.prog ops (CS w0 (Rg b 0 32) s (ZS b R)) G t sp Q ((i, true) :: r) l a := by
  subst hi
  refine wq_store ho hgd (fun w hw => ?_) h
  obtain ⟨hU, hZ⟩ := hw
  obtain ⟨w', h1, h2, h3, h4⟩ := run_store22 x y hop b R hx hy hZ.1
  refine ⟨w', h1, hU.trans h4 (fun _ _ _ h => h), ?_⟩
  rw [hl]
  exact ⟨h3, fun _ => h2⟩
end

theorem cldS22 (w0 : World) (b : Nat) (R : Nat → Int) (s : Nat) : Cld (GS w0 (Rg b 0 32)) (CS w0 (Rg b 0 32) s (ZS b R)) none (fun i => i == s) := cldS w0 _ s (ZS b R) (fun _ _ _ h k => h.keep k (fun _ _ h => h))

/-! a tree of orders: a slice in slot ts, an array in slot ta that operation s writes -/
def CT (w0 : World) (ts ta : Tmp) (s : Nat) (bs R : Nat → Int) (l : Array Bool) (a : Act) (w : World) : Prop :=
  Upd w0 w FF ∧ (∀ b cap, a.eval (.tmp ts) = .slice (some ⟨b, 0, none⟩) 32 cap → w0.heap.size ≤ b → l.getD s false = false → By w b 0 32 bs) ∧ (∀ b, a.eval (.tmp ta) = .pointer (some ⟨b, 0, none⟩) → w0.heap.size ≤ b → ZS b R (l.getD s false) w)
def trT (ts ta : Tmp) (d : Option Tmp) : Bool := d == some ts || d == some ta
theorem cltT (w0 : World) (ts ta : Tmp) (s : Nat) (bs R : Nat → Int) : Clt (GS w0 FF) (CT w0 ts ta s bs R) (trT ts ta) (fun i => i == s) where
  g := fun _ _ _ h => h.1
  grow := fun _ _ _ _ h k => ⟨h.1.trans k (fun _ _ _ h => h), fun b cap h1 h2 h3 => (h.2.1 b cap h1 h2 h3).keep k (fun _ _ h => h), fun b h1 h2 => (h.2.2 b h1 h2).keep k (fun _ _ h => h)⟩
  put := fun l a w i d v hd hs => by
    unfold trT at hd
    simp only [Bool.or_eq_false_iff, beq_eq_false_iff_ne] at hd
    unfold CT
    rw [eval_put a d ts v hd.1, eval_put a d ta v hd.2, getD_set_other hs]

section
variable {ops : Array Oper} {Q : Act → World → Prop} {w0 : World} {ts ta : Tmp} {s : Nat} {bs R : Nat → Int} {o : Oper} {r : OT} {a : Act} {l : Array Bool} {i : Nat} {K : Act → Prop}

theorem wt_pure (ho : ops.toList[i]? = some o) (hgd : o.guard = none) (hd : trT ts ta o.dst = false) (hs : (i == s) = false) (v : Value) (hv : ∀ w, (execOp a.eval o).run Tryz.prog w = .ok (.value v) w)
    (h : wpT Tryz.prog ops (CT w0 ts ta s bs R) (GS w0 FF) (trT ts ta) (fun i => i == s) Q r (l.setIfInBounds i true) (a.put o.dst v)) : wpT Tryz.prog ops (CT w0 ts ta s bs R) (GS w0 FF) (trT ts ta) (fun i => i == s) Q (.q i r) l a :=
  ⟨o, (Array.getElem?_toList (xs := ops)) ▸ ho, hd, hs, v, .inl ⟨wanted_none hgd _, fun w _ => by rw [hv w]; exact ⟨rfl, rfl⟩⟩, h⟩
theorem wt_call (ho : ops.toList[i]? = some o) (hgd : o.guard = none) (hd : trT ts ta o.dst = false) (hs : (i == s) = false) (f : FuncId) (args : Array Value) (v : Value) (hf : ∀ w, (execOp a.eval o).run Tryz.prog w = .ok (.enter f args) w)
    (hC : ∀ w, Upd w0 w FF → Calls Tryz.prog f args w fun e w' => e = .returned v ∧ Upd w w' FF)
    (h : wpT Tryz.prog ops (CT w0 ts ta s bs R) (GS w0 FF) (trT ts ta) (fun i => i == s) Q r (l.setIfInBounds i true) (a.put o.dst v)) : wpT Tryz.prog ops (CT w0 ts ta s bs R) (GS w0 FF) (trT ts ta) (fun i => i == s) Q (.q i r) l a :=
  ⟨o, (Array.getElem?_toList (xs := ops)) ▸ ho, hd, hs, v, .inl ⟨wanted_none hgd _, fun w hw => by rw [hf w]; exact ⟨rfl, hC w hw⟩⟩, h⟩
theorem wt_load22 (ho : ops.toList[i]? = some o) (hgd : o.guard = none) (hd : trT ts ta o.dst = false) (hs : (i == s) = false) (x : Operand) (hop : o.op = .load 22 x) (b : Nat) (hx : a.eval x = .pointer (some ⟨b, 0, none⟩)) (cs : Nat → Int) (hB : By w0 b 0 32 cs)
    (h : wpT Tryz.prog ops (CT w0 ts ta s bs R) (GS w0 FF) (trT ts ta) (fun i => i == s) Q r (l.setIfInBounds i true) (a.put o.dst (.agg (Arr cs)))) : wpT Tryz.prog ops (CT w0 ts ta s bs R) (GS w0 FF) (trT ts ta) (fun i => i == s) Q (.q i r) l a := by
  refine ⟨o, (Array.getElem?_toList (xs := ops)) ▸ ho, hd, hs, _, .inl ⟨wanted_none hgd _, fun w hw => ?_⟩, h⟩
  obtain ⟨d, hu, hr⟩ := isRow_of row22
  have hk := (hB.keep hw (fun _ _ h => h)).range
  unfold execOp
  simp only [hop, hx, Instr.loadAt, Instr.sureAddr, Sem.run_bind, Sem.run_pure, Result.andThen_ok, run_loadVar_mid w b 0 22 (ArrL cs) d hk hu hr (by rw [ArrL_len]; exact size22)]
  exact ⟨rfl, rfl⟩
/-- a call that hands back a slice of its own -/
theorem sp_slice (hne : ts ≠ ta) (hts : ts < a.tmps.size) (ho : ops.toList[i]? = some o) (hgd : o.guard = none) (hd : o.dst = some ts) (hs : (i == s) = false) (f : FuncId) (args : Array Value) (hf : ∀ w, (execOp a.eval o).run Tryz.prog w = .ok (.enter f args) w)
    (hC : ∀ w, Upd w0 w FF → Calls Tryz.prog f args w fun e w' => ∃ b cap, e = .returned (.slice (some ⟨b, 0, none⟩) 32 cap) ∧ w.heap.size ≤ b ∧ 32 ≤ cap ∧ Upd w w' FF ∧ By w' b 0 32 bs)
    (h : ∀ b cap, w0.heap.size ≤ b → 32 ≤ cap → K (a.put o.dst (.slice (some ⟨b, 0, none⟩) 32 cap))) : spT Tryz.prog ops (CT w0 ts ta s bs R) i l a K := by
  refine ⟨o, (Array.getElem?_toList (xs := ops)) ▸ ho, wanted_none hgd _, fun w hw => ?_⟩
  rw [hf w]
  refine (hC w hw.1).mono fun e w' ⟨b, cap, he, hb, hc, hU, hB⟩ => ⟨_, he, ⟨hw.1.trans hU (fun _ _ _ h => h), fun b' cap' hb' _ _ => ?_, fun b' hb' hl => ?_⟩, h b cap (Nat.le_trans hw.1.size hb) hc⟩
  · rw [hd, eval_put_same a ts _ hts] at hb'
    cases hb'
    exact hB
  · rw [hd, eval_put a (some ts) ta _ (fun e => hne (Option.some.inj e))] at hb'
    rw [getD_set_other hs]
    exact (hw.2.2 b' hb' hl).keep hU (fun _ _ h => h)
/-- a call that reads the slice -/
theorem sp_call (ho : ops.toList[i]? = some o) (hgd : o.guard = none) (hd : trT ts ta o.dst = false) (hs : (i == s) = false) (f : FuncId) (args : Array Value) (v : Value) (hf : ∀ w, (execOp a.eval o).run Tryz.prog w = .ok (.enter f args) w)
    (b cap : Nat) (hb : a.eval (.tmp ts) = .slice (some ⟨b, 0, none⟩) 32 cap) (hl : w0.heap.size ≤ b) (hl0 : l.getD s false = false)
    (hC : ∀ w, Upd w0 w FF → By w b 0 32 bs → Calls Tryz.prog f args w fun e w' => e = .returned v ∧ Upd w w' FF)
    (h : K (a.put o.dst v)) : spT Tryz.prog ops (CT w0 ts ta s bs R) i l a K := by
  refine ⟨o, (Array.getElem?_toList (xs := ops)) ▸ ho, wanted_none hgd _, fun w hw => ?_⟩
  rw [hf w]
  refine (hC w hw.1 (hw.2.1 b cap hb hl hl0)).mono fun e w' ⟨he, hU⟩ => ⟨_, he, ?_, h⟩
  exact ((cltT w0 ts ta s bs R).put _ _ _ _ _ _ hd hs).2 ((cltT w0 ts ta s bs R).grow _ _ _ _ hw hU)
/-- the alloc of the array -/
theorem sp_alloc22 (hne : ts ≠ ta) (hta : ta < a.tmps.size) (ho : ops.toList[i]? = some o) (hgd : o.guard = none) (hd : o.dst = some ta) (hs : (i == s) = false) (hl : l.getD s false = false) (hv : ∀ w : World, (execOp a.eval o).run Tryz.prog w = .ok (.value (.pointer (some ⟨w.heap.size, 0, none⟩))) (w.alloc zero32))
    (h : ∀ b, w0.heap.size ≤ b → K (a.put o.dst (.pointer (some ⟨b, 0, none⟩)))) : spT Tryz.prog ops (CT w0 ts ta s bs R) i l a K := by
  refine ⟨o, (Array.getElem?_toList (xs := ops)) ▸ ho, wanted_none hgd _, fun w hw => ?_⟩
  rw [hv w]
  have B := (Upd.refl w FF).alloc zero32
  refine ⟨⟨hw.1.alloc _, fun b cap hb hl2 _ => ?_, fun b hb hl' => ?_⟩, h _ hw.1.size⟩
  · rw [hd, eval_put a (some ta) ts _ (fun e => hne (Option.some.inj e).symm)] at hb
    exact (hw.2.1 b cap hb hl2 hl).keep B (fun _ _ h => h)
  · rw [hd, eval_put_same a ta _ hta] at hb
    cases hb
    rw [getD_set_other hs, hl]
    exact ⟨zero32_wy w, fun e => (by cases e)⟩
/-- the store into it -/
theorem sp_store22 (hi : i = s) (ho : ops.toList[i]? = some o) (hgd : o.guard = none) (hdst : o.dst = none) (x y : Operand) (hop : o.op = .store 22 x y) (b : Nat) (hb : w0.heap.size ≤ b) (hx : a.eval x = .pointer (some ⟨b, 0, none⟩)) (ht : a.eval (.tmp ta) = .pointer (some ⟨b, 0, none⟩)) (hy : a.eval y = .agg (Arr R)) (hl : (l.setIfInBounds i true).getD s false = true)
    (h : K a) : spT Tryz.prog ops (CT w0 ts ta s bs R) i l a K := by
  subst hi
  refine ⟨o, (Array.getElem?_toList (xs := ops)) ▸ ho, wanted_none hgd _, fun w hw => ?_⟩
  have hz := hw.2.2 b ht hb
  obtain ⟨w', h1, h2, h3, h4⟩ := run_store22 x y hop b R hx hy hz.1
  rw [h1]
  show CT w0 ts ta i bs R (l.setIfInBounds i true) (a.put o.dst undef) w' ∧ K (a.put o.dst undef)
  rw [hdst]
  refine ⟨⟨hw.1.trans h4 (fun b' o hb' h => by have := h.1; omega), fun b' cap _ _ h0 => ?_, fun b' hb' hl' => ?_⟩, h⟩
  · rw [hl] at h0; cases h0
  · have hb2 : a.eval (.tmp ta) = .pointer (some ⟨b', 0, none⟩) := hb'
    rw [ht] at hb2
    cases hb2
    rw [hl]
    exact ⟨h3, fun _ => h2⟩
end
end Go.Proofs.YtkibnongmkhbaaaGreatDoor
end

section
open Go Go.RowKit
namespace Go.Proofs.YtkibnongmkhbaaaGreatDoor
open Ed

theorem wpList_load22g {ops : Array Oper} {rest : List Oper} {op : Oper} {a : Act} {w : World} {Q : Exit → Act → World → Prop} (x : Operand) (ho : op.op = .load 22 x) (hw : Region.wanted op (yielded ops a.tmps) = true)
    (b o : Nat) (hx : a.eval x = .pointer (some ⟨b, o, none⟩)) (bs : Nat → Int) (hB : By w b o 32 bs)
    (h : wpList Tryz.prog ops Q rest (a.put op.dst (.agg (Arr bs))) w) : wpList Tryz.prog ops Q (op :: rest) a w := by
  obtain ⟨d, hu, hd⟩ := isRow_of row22
  show (if _ then _ else _)
  rw [if_pos hw]
  exact .inl (wp_load_mid 22 x ho b o hx (ArrL bs) d hB.range hu hd (by rw [ArrL_len]; exact size22) h)

theorem wt_s {ops : Array Oper} {C : Array Bool → Act → World → Prop} {G : World → Prop} {tr : Option Tmp → Bool} {sp : Nat → Bool} {Q : Act → World → Prop} {i : Nat} {r : OT} {l : Array Bool} {a : Act} (h : spT Tryz.prog ops C i l a (wpT Tryz.prog ops C G tr sp Q r (l.setIfInBounds i true))) : wpT Tryz.prog ops C G tr sp Q (.s i r) l a := h
theorem wt_two {ops : Array Oper} {C : Array Bool → Act → World → Prop} {G : World → Prop} {tr : Option Tmp → Bool} {sp : Nat → Bool} {Q : Act → World → Prop} {i j : Nat} {r k : OT} {l : Array Bool} {a : Act} (h1 : spT Tryz.prog ops C i l a (wpT Tryz.prog ops C G tr sp Q r (l.setIfInBounds i true))) (h2 : spT Tryz.prog ops C j l a (wpT Tryz.prog ops C G tr sp Q k (l.setIfInBounds j true))) : wpT Tryz.prog ops C G tr sp Q (.two i j r k) l a := ⟨h1, h2⟩

/-- a drawn region that makes a slice, reads it, and lays an array: whatever the order, the same comes out -/
theorem wp_region_treeF {ops : Array Oper} {id : Nat} {Q : Exit → Act → World → Prop} {a : Act} {w : World} (r : OT) (ts ta : Tmp) (s : Nat) (bs R : Nat → Int) (F : Nat → Nat → Nat → Act) (hm : Tryz.prog.follows .mixedOrders = true)
    (hsel : Region.noSelect ops = true) (hB : ordT .any ops ops.size r (Array.replicate ops.size false) = true) (h1 : a.eval (.tmp ts) = undef) (h2 : a.eval (.tmp ta) = undef)
    (h : wpT Tryz.prog ops (CT w.drew ts ta s bs R) (GS w.drew FF) (trT ts ta) (fun i => i == s) (fun a' w' => ∃ b cap b2, w.drew.heap.size ≤ b2 ∧ a' = F b cap b2 ∧ Upd w.drew w' FF ∧ By w' b2 0 32 R) r (Array.replicate ops.size false) a)
    (hR : ∀ b cap b2 w', w.drew.heap.size ≤ b2 → Upd w.drew w' FF → By w' b2 0 32 R → Q .normal (F b cap b2) w') : (Code.region id ops true).wp Tryz.prog Q a w := by
  refine wp_region_tree r (cltT w.drew ts ta s bs R) _ hm hsel hB ⟨Upd.refl _ _, fun b cap hb => ?_, fun b hb => ?_⟩ h (fun a' w' ⟨b, cap, b2, h3, h4, h5, h6⟩ => ?_)
  · rw [h1] at hb; cases hb
  · rw [h2] at hb; cases hb
  · subst h4
    exact hR b cap b2 w' h3 h5 h6

end Go.Proofs.YtkibnongmkhbaaaGreatDoor
end
