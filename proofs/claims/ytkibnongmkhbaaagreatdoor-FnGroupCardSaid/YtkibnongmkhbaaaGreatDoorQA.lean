/- Part of the proof that laws.FnGroup returns true for all 32 bytes p, q and x: a law for regions that draw their order.
   Conditions: those that each theorem states. -/
import Derived.StillTail
import Derived.Test.YtkibnongmkhbaaaGreatDoorAA

section
open Go
namespace Go.Proofs.YtkibnongmkhbaaaGreatDoor

/-! A region that draws its order: operations that have one value in every world of a class and that only make new blocks; one alloc; a forced tail. -/
section
variable {P : Program} {ops : Array Oper} {C : Act → World → Prop} {G : World → Prop}

def upC (P : Program) (C : Act → World → Prop) (o : Oper) (a : Act) (K : Act → Prop) : Result Next → Prop
  | .ok (.value u) w' => C (a.put o.dst u) w' ∧ K (a.put o.dst u)
  | .ok .skip w' => C (a.put o.dst undef) w' ∧ K (a.put o.dst undef)
  | .ok (.enter f args) w' => Calls P f args w' (fun e w'' => ∃ v, e = .returned v ∧ C (a.put o.dst v) w'' ∧ K (a.put o.dst v))
  | _ => False

def lOp (P : Program) (ops : Array Oper) (C : Act → World → Prop) (i : Nat) (K : Act → Prop) (a : Act) : Prop :=
  match ops[i]? with
  | none => False
  | some o => if Region.wanted o (yielded ops a.tmps) then ∀ w, C a w → upC P C o a K ((execOp a.eval o).run P w) else (∀ w, C a w → C (a.put o.dst undef) w) ∧ K (a.put o.dst undef)

theorem upC_mono {o : Oper} {a : Act} {K K' : Act → Prop} (h : ∀ a, K a → K' a) {r : Result Next} (hr : upC P C o a K r) : upC P C o a K' r := by
  cases r with
  | ok n w' =>
    cases n <;> simp only [upC] at hr ⊢
    case value u => exact ⟨hr.1, h _ hr.2⟩
    case skip => exact ⟨hr.1, h _ hr.2⟩
    case enter f args => exact hr.mono fun e w'' ⟨v, h1, h2, h3⟩ => ⟨v, h1, h2, h _ h3⟩
  | halt x w' => simp only [upC] at hr

theorem lOp_mono {i : Nat} {a : Act} {K K' : Act → Prop} (h : ∀ a, K a → K' a) (hh : lOp P ops C i K a) : lOp P ops C i K' a := by
  unfold lOp at *
  cases ho : ops[i]? with
  | none => rw [ho] at hh; exact hh
  | some o =>
    rw [ho] at hh
    dsimp only at hh ⊢
    split
    · rename_i hw
      rw [if_pos hw] at hh
      exact fun w hc => upC_mono h (hh w hc)
    · rename_i hw
      rw [if_neg hw] at hh
      exact ⟨hh.1, h _ hh.2⟩

theorem wpOp_of_lOp {Q : Exit → Act → World → Prop} {i : Nat} {a : Act} {w : World} {K : Act → Prop} {K' : Act → World → Prop} (hc : C a w) (h : ∀ a' w', C a' w' → K a' → K' a' w') (hh : lOp P ops C i K a) : wpOp P ops Q i K' a w := by
  unfold lOp at hh
  unfold wpOp
  cases ho : ops[i]? with
  | none => rw [ho] at hh; exact hh.elim
  | some o =>
    rw [ho] at hh
    dsimp only at hh ⊢
    split
    · rename_i hw
      rw [if_pos hw] at hh
      have h3 := hh w hc
      refine .inl ?_
      unfold Oper.wp
      generalize (execOp a.eval o).run P w = r at *
      cases r with
      | ok n w' =>
        cases n <;> simp only [upC] at h3 <;> simp only [Oper.upon]
        case value u => exact h _ _ h3.1 h3.2
        case skip => exact h _ _ h3.1 h3.2
        case enter f args => exact h3.mono fun e w'' ⟨v, h1, h2, h4⟩ => by subst h1; exact h _ _ h2 h4
      | halt x w' => simp only [upC] at h3
    · rename_i hw
      rw [if_neg hw] at hh
      exact h _ _ (hh.1 w hc) hh.2

/-- one value, in every world of the class; new blocks at most -/
def oneUp (P : Program) (w : World) (v : Value) : Result Next → Prop
  | .ok (.value u) w' => w' = w ∧ u = v
  | .ok .skip w' => w' = w ∧ v = undef
  | .ok (.enter f args) w' => w' = w ∧ Calls P f args w (fun e w'' => e = .returned v ∧ Upd w w'' (fun _ _ => False))
  | _ => False
def One (P : Program) (ops : Array Oper) (G : World → Prop) (o : Oper) (v : Value) (a : Act) : Prop :=
  (Region.wanted o (yielded ops a.tmps) = true ∧ ∀ w, G w → oneUp P w v ((execOp a.eval o).run P w)) ∨ (Region.wanted o (yielded ops a.tmps) = false ∧ v = undef)

/-- what the class must be like -/
structure Cls (G : World → Prop) (C : Act → World → Prop) (t : Option Tmp) : Prop where
  g : ∀ a w, C a w → G w
  grow : ∀ a w w', C a w → Upd w w' (fun _ _ => False) → C a w'
  put : ∀ a w d v, d ≠ t → (C (a.put d v) w ↔ C a w)

theorem One.same {o : Oper} {v : Value} {a a' : Act} (hy : One P ops G o v a) (he : execOp a'.eval o = execOp a.eval o)
    (hw : Region.wanted o (yielded ops a'.tmps) = Region.wanted o (yielded ops a.tmps)) : One P ops G o v a' := by
  unfold One at *
  rw [he, hw]
  exact hy

theorem One.lOp {t : Option Tmp} (hcl : Cls G C t) {i : Nat} {o : Oper} {v : Value} {a : Act} (hi : ops[i]? = some o) (hd : o.dst ≠ t) (hy : One P ops G o v a) {K : Act → Prop} (h : K (a.put o.dst v)) : lOp P ops C i K a := by
  unfold YtkibnongmkhbaaaGreatDoor.lOp
  rw [hi]
  dsimp only
  rcases hy with ⟨hw, hv⟩ | ⟨hw, rfl⟩
  · rw [if_pos hw]
    intro w hc
    have h3 := hv w (hcl.g a w hc)
    generalize (execOp a.eval o).run P w = r at *
    cases r with
    | ok n w' =>
      cases n <;> simp only [oneUp] at h3 <;> simp only [upC]
      case value u => obtain ⟨rfl, rfl⟩ := h3; exact ⟨(hcl.put _ _ _ _ hd).2 hc, h⟩
      case skip => obtain ⟨rfl, rfl⟩ := h3; exact ⟨(hcl.put _ _ _ _ hd).2 hc, h⟩
      case enter f args =>
        obtain ⟨rfl, h3⟩ := h3
        exact h3.mono fun e w'' ⟨h1, h2⟩ => ⟨v, h1, (hcl.put _ _ _ _ hd).2 (hcl.grow _ _ _ hc h2), h⟩
    | halt x w' => simp only [oneUp] at h3
  · rw [if_neg (by rw [hw]; decide)]
    exact ⟨fun w hc => (hcl.put _ _ _ _ hd).2 hc, h⟩

theorem lOp_put {t : Option Tmp} (hcl : Cls G C t) {j : Nat} {oi oj : Oper} {v : Value} (hj : ops[j]? = some oj) (hap : oi.apart ops oj = true)
    (hsi : ∀ cs b, oi.op ≠ .select cs b) (hsj : ∀ cs b, oj.op ≠ .select cs b) (hd : oi.dst ≠ t) {K : Act → Prop} {a : Act}
    (hy : One P ops G oi v a) (h : lOp P ops C j K (a.put oi.dst v)) : lOp P ops C j (fun a' => One P ops G oi v a' ∧ K (a'.put oi.dst v)) a := by
  obtain ⟨h1, h2, h3⟩ := Oper.apart_spec hap
  have stay : ∀ u, One P ops G oi v (a.put oj.dst u) := fun u => hy.same (execOp_put oi hsi a oj.dst u h3) (wanted_put oi a oj.dst u h3)
  unfold lOp at *
  rw [hj] at h ⊢
  dsimp only at h ⊢
  rw [wanted_put oj a oi.dst v h1] at h
  split
  · rename_i hw
    rw [if_pos hw] at h
    intro w hc
    have h4 := h w ((hcl.put _ _ _ _ hd).2 hc)
    rw [execOp_put oj hsj a oi.dst v h1] at h4
    generalize (execOp a.eval oj).run P w = r at *
    cases r with
    | ok n w' =>
      cases n <;> simp only [upC] at h4 ⊢
      case value u =>
        rw [Act.put_comm a v u h2] at h4
        exact ⟨(hcl.put _ _ _ _ hd).1 h4.1, stay u, h4.2⟩
      case skip =>
        rw [Act.put_comm a v undef h2] at h4
        exact ⟨(hcl.put _ _ _ _ hd).1 h4.1, stay undef, h4.2⟩
      case enter f args =>
        exact h4.mono fun e w'' ⟨u, k1, k2, k3⟩ => by
          rw [Act.put_comm a v u h2] at k2 k3
          exact ⟨u, k1, (hcl.put _ _ _ _ hd).1 k2, stay u, k3⟩
    | halt x w' => simp only [upC] at h4
  · rename_i hw
    rw [if_neg hw] at h
    rw [Act.put_comm a v undef h2] at h
    exact ⟨fun w hc => (hcl.put _ _ _ _ hd).1 (h.1 w ((hcl.put _ _ _ _ hd).2 hc)), stay undef, h.2⟩

def wpC (P : Program) (md : Region.Mode) (ops : Array Oper) (C : Act → World → Prop) (n : Nat) (L : Array Bool → Act → Prop) : Nat → Array Bool → Act → Prop
  | 0, listed, a => L listed a
  | f + 1, listed, a => Region.ready md ops listed ≠ [] ∧ ∀ i ∈ Region.ready md ops listed, i < n ∧ lOp P ops C i (wpC P md ops C n L f (listed.setIfInBounds i true)) a

theorem wpAny_of_C {md : Region.Mode} {n g : Nat} {L : Array Bool → Act → Prop} {Q : Exit → Act → World → Prop} (hL : ∀ listed a w, L listed a → C a w → wpAny P md ops Q g listed a w) :
    ∀ (f : Nat) (listed : Array Bool) (a : Act) (w : World), C a w → wpC P md ops C n L f listed a → wpAny P md ops Q (f + g) listed a w
  | 0, listed, a, w, hc, h => by rw [Nat.zero_add]; exact hL _ _ _ h hc
  | f + 1, listed, a, w, hc, h => by
    rw [show f + 1 + g = (f + g) + 1 by omega]
    exact ⟨fun h0 => absurd h0 h.1, fun i hi => wpOp_of_lOp hc (fun a' w' hc' h' => wpAny_of_C hL f _ a' w' hc' h') (h.2 i hi).2⟩

theorem wpC_first {md : Region.Mode} {t : Option Tmp} (hcl : Cls G C t) {n i : Nat} {oi : Oper} {v : Value} {L : Array Bool → Act → Prop} (hi : ops[i]? = some oi) (hd : oi.dst ≠ t)
    (hsel : ∀ (j : Nat) (o : Oper) cs b, ops[j]? = some o → o.op ≠ .select cs b)
    (hs : Region.sinkB md ops n = true) (hc : Region.chainB md ops n = true) (hn : n < ops.size) (hin : i < n)
    (hdone : ∀ listed a, L listed a → ∀ j ∈ Region.ready md ops listed, n ≤ j) :
    ∀ (f : Nat) (listed : Array Bool) (a : Act), HeadInv md ops n listed →
      (∀ j oj, ops[j]? = some oj → j ≠ i → listed.getD j true = false → (∀ e ∈ oj.after, Region.binds md e = true → e.on ≠ i) → oi.apart ops oj = true) →
      i ∈ Region.ready md ops listed → One P ops G oi v a →
      wpC P md ops C n L f (listed.setIfInBounds i true) (a.put oi.dst v) → wpC P md ops C n L (f + 1) listed a := by
  intro f
  induction f with
  | zero =>
    intro listed a inv _ hr hy H
    have hun := (mem_ready.1 hr).1
    refine ⟨fun h => (by rw [h] at hr; cases hr), fun j hj => ?_⟩
    have hjn : j < n := by
      rcases Nat.lt_or_ge j n with h | h
      · exact h
      · exact absurd hj (tail_waits hs hc hn inv _ i rfl hin hun j h)
    refine ⟨hjn, ?_⟩
    by_cases hji : j = i
    · subst hji; exact hy.lOp hcl hi hd H
    · have := hdone _ _ H j (ready_mono hj hji)
      omega
  | succ f ih =>
    intro listed a inv hfree hr hy H
    have hun := (mem_ready.1 hr).1
    refine ⟨fun h => (by rw [h] at hr; cases hr), fun j hj => ?_⟩
    have hjn : j < n := by
      rcases Nat.lt_or_ge j n with h | h
      · exact h
      · exact absurd hj (tail_waits hs hc hn inv _ i rfl hin hun j h)
    refine ⟨hjn, ?_⟩
    by_cases hji : j = i
    · subst hji; exact hy.lOp hcl hi hd H
    · have h1 := (H.2 j (ready_mono hj hji)).2
      obtain ⟨hjun, oj, hoj, hall⟩ := mem_ready.1 hj
      have hnot : ∀ e ∈ oj.after, Region.binds md e = true → e.on ≠ i := fun e he hb heq => by
        have h1 := hall e he hb
        rw [heq, getD_both hun] at h1
        cases h1
      have h2 := lOp_put hcl hoj (hfree j oj hoj hji hjun hnot) (fun cs b => hsel i oi cs b hi) (fun cs b => hsel j oj cs b hoj) hd hy h1
      have hfree' : ∀ k ok, ops[k]? = some ok → k ≠ i → (listed.setIfInBounds j true).getD k true = false →
          (∀ e ∈ ok.after, Region.binds md e = true → e.on ≠ i) → oi.apart ops ok = true := fun k ok hk hki hun hno => by
        refine hfree k ok hk hki ?_ hno
        by_cases hjk : j = k
        · subst hjk; exact hjun
        · rw [getD_set_ne true hjk] at hun; exact hun
      refine lOp_mono (fun a' h3 => ih (listed.setIfInBounds j true) a' (inv.set hj hjn) hfree' (ready_mono hr (Ne.symm hji)) h3.1 ?_) h2
      rw [Array.setIfInBounds_comm _ _ hji]
      exact h3.2

/-- the lexical walk of the head; its last operation may be one of many values -/
def wpHd (P : Program) (ops : Array Oper) (C : Act → World → Prop) (G : World → Prop) (t : Option Tmp) (Lq : Act → Prop) : List Oper → Act → Prop
  | [], a => Lq a
  | o :: rest, a => (o.dst ≠ t ∧ ∃ v, One P ops G o v a ∧ wpHd P ops C G t Lq rest (a.put o.dst v)) ∨
    (rest = [] ∧ Region.wanted o (yielded ops a.tmps) = true ∧ ∀ w, C a w → upC P C o a Lq ((execOp a.eval o).run P w))

theorem wpC_lex {md : Region.Mode} {t : Option Tmp} (hcl : Cls G C t) {n g : Nat} {Lq : Act → Prop} (hsel : Region.noSelect ops = true) (hs : Region.sinkB md ops n = true) (hc : Region.chainB md ops n = true) (hn : n < ops.size) :
    ∀ (l : List Oper) (k : Nat) (listed : Array Bool) (a : Act), (∀ j, j < l.length → l[j]? = ops[k + j]?) → k + l.length = n → HeadInv md ops n listed → (∀ j, j < k → listed.getD j false = true) →
    Region.lexHead md ops g l.length k listed = true → wpHd P ops C G t Lq l a →
    wpC P md ops C n (fun listed' a' => Region.seqB md ops g n listed' = true ∧ Lq a') l.length listed a
  | [], k, listed, a, _, hk, _, _, hB, h => by
    have : k = n := by simpa using hk
    subst this
    exact ⟨by simpa [Region.lexHead] using hB, h⟩
  | o :: l, k, listed, a, hl, hk, inv, hlow, hB, h => by
    have h0 : ops[k]? = some o := by simpa using (hl 0 (by simp)).symm
    simp only [List.length_cons, Region.lexHead, Bool.and_eq_true] at hB
    obtain ⟨⟨hr, hf⟩, hB'⟩ := hB
    have hkn : k < n := by simp only [List.length_cons] at hk; omega
    have hr' : k ∈ Region.ready md ops listed := by simpa using hr
    rcases h with ⟨hd, v, hy, hK⟩ | ⟨hnil, hw, hK⟩
    · exact wpC_first hcl h0 hd (Region.noSelect_spec hsel) hs hc hn hkn (fun listed' a' hL => seqB_ready hL.1) l.length listed a inv (Region.free_spec h0 hf) hr' hy
        (wpC_lex hcl hsel hs hc hn l (k + 1) _ _ (fun j hj => by have := hl (j + 1) (by simp; omega); simpa [Nat.add_assoc, Nat.add_comm 1 j] using this) (by simp only [List.length_cons] at hk; omega) (inv.set hr' hkn)
          (fun j hj => by
            by_cases e : k = j
            · subst e
              have hun := (mem_ready.1 hr').1
              have hsz : k < listed.size := by rw [inv.size]; omega
              simp [hsz]
            · rw [getD_set_ne false e]; exact hlow j (by omega)) hB' hK)
    · subst hnil
      have hun := (mem_ready.1 hr').1
      refine ⟨fun h => (by rw [h] at hr'; cases hr'), fun j hj => ?_⟩
      have hjn : j < n := by
        rcases Nat.lt_or_ge j n with h | h
        · exact h
        · exact absurd hj (tail_waits hs hc hn inv _ k rfl hkn hun j h)
      have hjk : j = k := by
        rcases Nat.lt_or_ge j k with h | h
        · have h1 := (mem_ready.1 hj).1
          have h2 := hlow j h
          rw [getD_both h1] at h2
          cases h2
        · simp only [List.length_cons, List.length_nil] at hk; omega
      subst hjk
      refine ⟨hjn, ?_⟩
      unfold lOp
      rw [h0]
      dsimp only
      rw [if_pos hw]
      have hB2 : Region.seqB md ops g n (listed.setIfInBounds j true) = true := by
        have : j + 1 = n := by simp only [List.length_cons, List.length_nil] at hk; omega
        rw [← this]
        simpa [Region.lexHead] using hB'
      exact fun w hcw => upC_mono (fun a' h' => ⟨hB2, h'⟩) (hK w hcw)

theorem wp_region_loose {id : Nat} {Q : Exit → Act → World → Prop} {a : Act} {w : World} {l : List Oper} (n : Nat) {t : Option Tmp} (hcl : Cls G C t) (hm : P.follows .mixedOrders = true) (hB : Region.lexTailB .any l.toArray n = true)
    (h0 : C a w.drew) (h : wpHd P l.toArray C G t (fun a' => ∀ w', C a' w' → wpList P l.toArray Q (l.drop n) a' w') (l.take n) a) : (Code.region id l.toArray true).wp P Q a w := by
  simp only [Region.lexTailB, Bool.and_eq_true, decide_eq_true_eq] at hB
  obtain ⟨⟨⟨⟨hsel, hn⟩, hs⟩, hc⟩, hlex⟩ := hB
  have hn' : n < l.length := by simpa using hn
  have htl : (l.take n).length = n := by simp; omega
  have hdl : (l.drop n).length = l.toArray.size - n := by simp
  have inv0 : HeadInv .any l.toArray n (Array.replicate l.toArray.size false) :=
    ⟨by simp, fun j oj _ hl => (by rw [getD_replicate_false] at hl; cases hl), fun t _ ht => getD_in (by simpa using ht) (getD_replicate_false _ _)⟩
  have H := wpC_lex hcl (md := .any) (g := l.toArray.size - n) hsel hs hc hn (l.take n) 0 _ a (fun j hj => by
    have hj' : j < n := by rw [htl] at hj; exact hj
    simp [hj']) (by simpa using htl) inv0 (fun j hj => by omega) (by rw [htl]; exact hlex) h
  refine wp_region_any hm ?_
  have := wpAny_of_C (Q := Q) (g := l.toArray.size - n) (fun listed a' w' hL hcw => by
    have := wpAny_of_seq (md := .any) (Q' := Q) (l.drop n) n listed a' w' (fun j => by simp [List.getElem?_drop]) (by rw [hdl]; exact hL.1) (hL.2 w' hcw)
    rwa [hdl] at this) _ _ _ _ h0 H
  rw [htl, show n + (l.toArray.size - n) = l.toArray.size by omega] at this
  exact this

end
end Go.Proofs.YtkibnongmkhbaaaGreatDoor
end

section
open Go
namespace Go.Proofs.YtkibnongmkhbaaaGreatDoor

/-! The same with a class that may look at what has come up, and an order of one's own: whatever is quiet is taken first; an alloc, a store when nothing else is left. -/
section
variable {P : Program} {md : Region.Mode} {ops : Array Oper} {C : Array Bool → Act → World → Prop} {G : World → Prop}

def upD (P : Program) (C : Array Bool → Act → World → Prop) (l : Array Bool) (i : Nat) (o : Oper) (a : Act) (K : Act → Prop) : Result Next → Prop
  | .ok (.value u) w' => C (l.setIfInBounds i true) (a.put o.dst u) w' ∧ K (a.put o.dst u)
  | .ok .skip w' => C (l.setIfInBounds i true) (a.put o.dst undef) w' ∧ K (a.put o.dst undef)
  | .ok (.enter f args) w' => Calls P f args w' (fun e w'' => ∃ v, e = .returned v ∧ C (l.setIfInBounds i true) (a.put o.dst v) w'' ∧ K (a.put o.dst v))
  | _ => False

def mOp (P : Program) (ops : Array Oper) (C : Array Bool → Act → World → Prop) (l : Array Bool) (i : Nat) (K : Act → Prop) (a : Act) : Prop :=
  match ops[i]? with
  | none => False
  | some o => if Region.wanted o (yielded ops a.tmps) then ∀ w, C l a w → upD P C l i o a K ((execOp a.eval o).run P w) else (∀ w, C l a w → C (l.setIfInBounds i true) (a.put o.dst undef) w) ∧ K (a.put o.dst undef)

theorem upD_mono {l : Array Bool} {i : Nat} {o : Oper} {a : Act} {K K' : Act → Prop} (h : ∀ a, K a → K' a) {r : Result Next} (hr : upD P C l i o a K r) : upD P C l i o a K' r := by
  cases r with
  | ok n w' =>
    cases n <;> simp only [upD] at hr ⊢
    case value u => exact ⟨hr.1, h _ hr.2⟩
    case skip => exact ⟨hr.1, h _ hr.2⟩
    case enter f args => exact hr.mono fun e w'' ⟨v, h1, h2, h3⟩ => ⟨v, h1, h2, h _ h3⟩
  | halt x w' => simp only [upD] at hr

theorem mOp_mono {l : Array Bool} {i : Nat} {a : Act} {K K' : Act → Prop} (h : ∀ a, K a → K' a) (hh : mOp P ops C l i K a) : mOp P ops C l i K' a := by
  unfold mOp at *
  cases ho : ops[i]? with
  | none => rw [ho] at hh; exact hh
  | some o =>
    rw [ho] at hh
    dsimp only at hh ⊢
    split
    · rename_i hw
      rw [if_pos hw] at hh
      exact fun w hc => upD_mono h (hh w hc)
    · rename_i hw
      rw [if_neg hw] at hh
      exact ⟨hh.1, h _ hh.2⟩

theorem wpOp_of_mOp {Q : Exit → Act → World → Prop} {l : Array Bool} {i : Nat} {a : Act} {w : World} {K : Act → Prop} {K' : Act → World → Prop} (hc : C l a w) (h : ∀ a' w', C (l.setIfInBounds i true) a' w' → K a' → K' a' w') (hh : mOp P ops C l i K a) : wpOp P ops Q i K' a w := by
  unfold mOp at hh
  unfold wpOp
  cases ho : ops[i]? with
  | none => rw [ho] at hh; exact hh.elim
  | some o =>
    rw [ho] at hh
    dsimp only at hh ⊢
    split
    · rename_i hw
      rw [if_pos hw] at hh
      have h3 := hh w hc
      refine .inl ?_
      unfold Oper.wp
      generalize (execOp a.eval o).run P w = r at *
      cases r with
      | ok n w' =>
        cases n <;> simp only [upD] at h3 <;> simp only [Oper.upon]
        case value u => exact h _ _ h3.1 h3.2
        case skip => exact h _ _ h3.1 h3.2
        case enter f args => exact h3.mono fun e w'' ⟨v, h1, h2, h4⟩ => by subst h1; exact h _ _ h2 h4
      | halt x w' => simp only [upD] at h3
    · rename_i hw
      rw [if_neg hw] at hh
      exact h _ _ (hh.1 w hc) hh.2

structure Cld (G : World → Prop) (C : Array Bool → Act → World → Prop) (t : Option Tmp) (sp : Nat → Bool) : Prop where
  g : ∀ l a w, C l a w → G w
  grow : ∀ l a w w', C l a w → Upd w w' (fun _ _ => False) → C l a w'
  put : ∀ l a w i d v, d ≠ t → sp i = false → (C (l.setIfInBounds i true) (a.put d v) w ↔ C l a w)

theorem One.mOp {t : Option Tmp} {sp : Nat → Bool} (hcl : Cld G C t sp) {l : Array Bool} {i : Nat} {o : Oper} {v : Value} {a : Act} (hi : ops[i]? = some o) (hd : o.dst ≠ t) (hs : sp i = false) (hy : One P ops G o v a) {K : Act → Prop} (h : K (a.put o.dst v)) : mOp P ops C l i K a := by
  unfold YtkibnongmkhbaaaGreatDoor.mOp
  rw [hi]
  dsimp only
  rcases hy with ⟨hw, hv⟩ | ⟨hw, rfl⟩
  · rw [if_pos hw]
    intro w hc
    have h3 := hv w (hcl.g l a w hc)
    generalize (execOp a.eval o).run P w = r at *
    cases r with
    | ok n w' =>
      cases n <;> simp only [oneUp] at h3 <;> simp only [upD]
      case value u => obtain ⟨rfl, rfl⟩ := h3; exact ⟨(hcl.put _ _ _ _ _ _ hd hs).2 hc, h⟩
      case skip => obtain ⟨rfl, rfl⟩ := h3; exact ⟨(hcl.put _ _ _ _ _ _ hd hs).2 hc, h⟩
      case enter f args =>
        obtain ⟨rfl, h3⟩ := h3
        exact h3.mono fun e w'' ⟨h1, h2⟩ => ⟨v, h1, (hcl.put _ _ _ _ _ _ hd hs).2 (hcl.grow _ _ _ _ hc h2), h⟩
    | halt x w' => simp only [oneUp] at h3
  · rw [if_neg (by rw [hw]; decide)]
    exact ⟨fun w hc => (hcl.put _ _ _ _ _ _ hd hs).2 hc, h⟩

theorem mOp_put {t : Option Tmp} {sp : Nat → Bool} (hcl : Cld G C t sp) {l : Array Bool} {i j : Nat} {oi oj : Oper} {v : Value} (hj : ops[j]? = some oj) (hij : j ≠ i) (hap : oi.apart ops oj = true)
    (hsi : ∀ cs b, oi.op ≠ .select cs b) (hsj : ∀ cs b, oj.op ≠ .select cs b) (hd : oi.dst ≠ t) (hsp : sp i = false) {K : Act → Prop} {a : Act}
    (hy : One P ops G oi v a) (h : mOp P ops C (l.setIfInBounds i true) j K (a.put oi.dst v)) : mOp P ops C l j (fun a' => One P ops G oi v a' ∧ K (a'.put oi.dst v)) a := by
  obtain ⟨h1, h2, h3⟩ := Oper.apart_spec hap
  have stay : ∀ u, One P ops G oi v (a.put oj.dst u) := fun u => hy.same (execOp_put oi hsi a oj.dst u h3) (wanted_put oi a oj.dst u h3)
  have back : ∀ (x : Act) (w : World), C ((l.setIfInBounds i true).setIfInBounds j true) (x.put oi.dst v) w → C (l.setIfInBounds j true) x w := fun x w hx => by
    rw [Array.setIfInBounds_comm _ _ (Ne.symm hij)] at hx
    exact (hcl.put _ _ _ _ _ _ hd hsp).1 hx
  unfold mOp at *
  rw [hj] at h ⊢
  dsimp only at h ⊢
  rw [wanted_put oj a oi.dst v h1] at h
  split
  · rename_i hw
    rw [if_pos hw] at h
    intro w hc
    have h4 := h w ((hcl.put _ _ _ _ _ _ hd hsp).2 hc)
    rw [execOp_put oj hsj a oi.dst v h1] at h4
    generalize (execOp a.eval oj).run P w = r at *
    cases r with
    | ok n w' =>
      cases n <;> simp only [upD] at h4 ⊢
      case value u =>
        rw [Act.put_comm a v u h2] at h4
        exact ⟨back _ _ h4.1, stay u, h4.2⟩
      case skip =>
        rw [Act.put_comm a v undef h2] at h4
        exact ⟨back _ _ h4.1, stay undef, h4.2⟩
      case enter f args =>
        exact h4.mono fun e w'' ⟨u, k1, k2, k3⟩ => by
          rw [Act.put_comm a v u h2] at k2 k3
          exact ⟨u, k1, back _ _ k2, stay u, k3⟩
    | halt x w' => simp only [upD] at h4
  · rename_i hw
    rw [if_neg hw] at h
    rw [Act.put_comm a v undef h2] at h
    exact ⟨fun w hc => back _ _ (h.1 w ((hcl.put _ _ _ _ _ _ hd hsp).2 hc)), stay undef, h.2⟩

def wpD (P : Program) (md : Region.Mode) (ops : Array Oper) (C : Array Bool → Act → World → Prop) (Q : Exit → Act → World → Prop) : Nat → Array Bool → Act → Prop
  | 0, listed, a => Region.ready md ops listed = [] ∧ ∀ w, C listed a w → Q .normal a w
  | f + 1, listed, a => (Region.ready md ops listed = [] → ∀ w, C listed a w → Q .normal a w) ∧ ∀ i ∈ Region.ready md ops listed, mOp P ops C listed i (wpD P md ops C Q f (listed.setIfInBounds i true)) a

theorem wpAny_of_D {Q : Exit → Act → World → Prop} : ∀ (f : Nat) (listed : Array Bool) (a : Act) (w : World), C listed a w → wpD P md ops C Q f listed a → wpAny P md ops Q f listed a w
  | 0, _listed, _a, w, hc, h => ⟨h.1, h.2 w hc⟩
  | f + 1, _listed, _a, w, hc, h => ⟨fun h0 => h.1 h0 w hc, fun i hi => wpOp_of_mOp hc (fun a' w' hc' h' => wpAny_of_D f _ a' w' hc' h') (h.2 i hi)⟩

theorem wpD_first {t : Option Tmp} {sp : Nat → Bool} (hcl : Cld G C t sp) {Q : Exit → Act → World → Prop} {i : Nat} {oi : Oper} {v : Value} (hi : ops[i]? = some oi) (hd : oi.dst ≠ t) (hsp : sp i = false)
    (hsel : ∀ (j : Nat) (o : Oper) cs b, ops[j]? = some o → o.op ≠ .select cs b) :
    ∀ (f : Nat) (listed : Array Bool) (a : Act),
      (∀ j oj, ops[j]? = some oj → j ≠ i → listed.getD j true = false → (∀ e ∈ oj.after, Region.binds md e = true → e.on ≠ i) → oi.apart ops oj = true) →
      i ∈ Region.ready md ops listed → One P ops G oi v a →
      wpD P md ops C Q f (listed.setIfInBounds i true) (a.put oi.dst v) → wpD P md ops C Q (f + 1) listed a := by
  intro f
  induction f with
  | zero =>
    intro listed a _ hr hy H
    refine ⟨fun h => (by rw [h] at hr; cases hr), fun j hj => ?_⟩
    by_cases hji : j = i
    · subst hji; exact hy.mOp hcl hi hd hsp H
    · have := ready_mono hj hji
      rw [H.1] at this
      cases this
  | succ f ih =>
    intro listed a hfree hr hy H
    refine ⟨fun h => (by rw [h] at hr; cases hr), fun j hj => ?_⟩
    by_cases hji : j = i
    · subst hji; exact hy.mOp hcl hi hd hsp H
    · have h1 := H.2 j (ready_mono hj hji)
      obtain ⟨hjun, oj, hoj, hall⟩ := mem_ready.1 hj
      have hnot : ∀ e ∈ oj.after, Region.binds md e = true → e.on ≠ i := fun e he hb heq => by
        have h1 := hall e he hb
        have h0 := (mem_ready.1 hr).1
        rw [heq, getD_both h0] at h1
        cases h1
      have h2 := mOp_put hcl hoj hji (hfree j oj hoj hji hjun hnot) (fun cs b => hsel i oi cs b hi) (fun cs b => hsel j oj cs b hoj) hd hsp hy h1
      have hfree' : ∀ k ok, ops[k]? = some ok → k ≠ i → (listed.setIfInBounds j true).getD k true = false →
          (∀ e ∈ ok.after, Region.binds md e = true → e.on ≠ i) → oi.apart ops ok = true := fun k ok hk hki hun hno => by
        refine hfree k ok hk hki ?_ hno
        by_cases hjk : j = k
        · subst hjk; exact hjun
        · rw [getD_set_ne true hjk] at hun; exact hun
      refine mOp_mono (fun a' h3 => ih (listed.setIfInBounds j true) a' hfree' (ready_mono hr (Ne.symm hji)) h3.1 ?_) h2
      rw [Array.setIfInBounds_comm _ _ hji]
      exact h3.2

/-- whether an order will do: (number, whether it is an alloc or a store) -/
def ordB (md : Region.Mode) (ops : Array Oper) : List (Nat × Bool) → Array Bool → Bool
  | [], l => (Region.ready md ops l).isEmpty
  | (i, false) :: r, l => (Region.ready md ops l).contains i && Region.free md ops l i && ordB md ops r (l.setIfInBounds i true)
  | (i, true) :: r, l => decide (Region.ready md ops l = [i]) && ordB md ops r (l.setIfInBounds i true)

def wpW (P : Program) (ops : Array Oper) (C : Array Bool → Act → World → Prop) (G : World → Prop) (t : Option Tmp) (sp : Nat → Bool) (Q : Exit → Act → World → Prop) : List (Nat × Bool) → Array Bool → Act → Prop
  | [], l, a => ∀ w, C l a w → Q .normal a w
  | (i, false) :: r, l, a => ∃ o, ops[i]? = some o ∧ o.dst ≠ t ∧ sp i = false ∧ ∃ v, One P ops G o v a ∧ wpW P ops C G t sp Q r (l.setIfInBounds i true) (a.put o.dst v)
  | (i, true) :: r, l, a => ∃ o, ops[i]? = some o ∧ Region.wanted o (yielded ops a.tmps) = true ∧ ∀ w, C l a w → upD P C l i o a (wpW P ops C G t sp Q r (l.setIfInBounds i true)) ((execOp a.eval o).run P w)

theorem wpD_ord {t : Option Tmp} {sp : Nat → Bool} (hcl : Cld G C t sp) {Q : Exit → Act → World → Prop} (hsel : Region.noSelect ops = true) :
    ∀ (r : List (Nat × Bool)) (l : Array Bool) (a : Act), ordB md ops r l = true → wpW P ops C G t sp Q r l a → wpD P md ops C Q r.length l a
  | [], l, a, hB, h => ⟨by simpa [ordB] using hB, h⟩
  | (i, false) :: r, l, a, hB, h => by
    simp only [ordB, Bool.and_eq_true] at hB
    obtain ⟨⟨hr, hf⟩, hB'⟩ := hB
    obtain ⟨o, ho, hd, hsp, v, hy, hK⟩ := h
    exact wpD_first hcl ho hd hsp (Region.noSelect_spec hsel) r.length l a (Region.free_spec ho hf) (by simpa using hr) hy (wpD_ord hcl hsel r _ _ hB' hK)
  | (i, true) :: r, l, a, hB, h => by
    simp only [ordB, Bool.and_eq_true, decide_eq_true_eq] at hB
    obtain ⟨hr, hB'⟩ := hB
    obtain ⟨o, ho, hw, hK⟩ := h
    refine ⟨fun h => (by rw [h] at hr; cases hr), fun j hj => ?_⟩
    rw [hr] at hj
    have hji : j = i := by simpa using hj
    subst hji
    unfold mOp
    rw [ho]
    dsimp only
    rw [if_pos hw]
    exact fun w hc => upD_mono (fun a' h' => wpD_ord hcl hsel r _ _ hB' h') (hK w hc)

theorem wp_region_ord {id : Nat} {Q : Exit → Act → World → Prop} {a : Act} {w : World} (r : List (Nat × Bool)) {t : Option Tmp} {sp : Nat → Bool} (hcl : Cld G C t sp) (hm : P.follows .mixedOrders = true)
    (hsel : Region.noSelect ops = true) (hlen : r.length = ops.size) (hB : ordB .any ops r (Array.replicate ops.size false) = true)
    (h0 : C (Array.replicate ops.size false) a w.drew) (h : wpW P ops C G t sp Q r (Array.replicate ops.size false) a) : (Code.region id ops true).wp P Q a w := by
  refine wp_region_any hm (wpAny_of_D _ _ _ _ h0 ?_)
  have := wpD_ord (md := .any) hcl hsel r _ a hB h
  rw [hlen] at this
  exact this

end
end Go.Proofs.YtkibnongmkhbaaaGreatDoor
end
