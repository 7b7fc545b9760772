/- Part of the proof that laws.FnGroup returns true for all 32 bytes p, q and x: the reference's numbers, sums and differences.
   Conditions: those that each theorem states. -/
import Derived.Deep.RegionHeld3
import Derived.IntWalk
import Derived.Test.YtkibnongmkhbaaaGreatDoorAM

section
open Go Go.RowKit
namespace Go.Proofs.YtkibnongmkhbaaaGreatDoor
open Ed

/-- word i of N -/
def wd (N : Int) (i : Nat) : Int := N / 18446744073709551616 ^ i % 18446744073709551616
theorem wd_rng (N : Int) (i : Nat) : 0 ≤ wd N i ∧ wd N i < 18446744073709551616 := by unfold wd; omega
/-- the number N as four words -/
def NaL (N : Int) : List Value := [.int .u64 (N % 18446744073709551616), .int .u64 (N / 18446744073709551616 % 18446744073709551616), .int .u64 (N / 340282366920938463463374607431768211456 % 18446744073709551616), .int .u64 (N / 6277101735386680763835789423207666416102355444464034512896 % 18446744073709551616)]
def Na (N : Int) : Array Value := (NaL N).toArray
theorem NaL_get (N : Int) (i : Nat) (hi : i < 4) : (NaL N)[i]? = some (.int .u64 (wd N i)) := by
  have : i = 0 ∨ i = 1 ∨ i = 2 ∨ i = 3 := by omega
  rcases this with rfl | rfl | rfl | rfl <;> simp [NaL, wd]
theorem NaL_len (N : Int) : (NaL N).length = 4 := rfl
theorem NaL_one (N : Int) : ∀ v ∈ NaL N, v.oneCell' = true := fun v hv => by
  simp only [NaL, List.mem_cons, List.not_mem_nil, or_false] at hv
  rcases hv with rfl | rfl | rfl | rfl <;> rfl
theorem Na_congr {N M : Int} (h : ∀ i, i < 4 → wd N i = wd M i) : Na N = Na M := by
  have h0 := h 0 (by decide); have h1 := h 1 (by decide); have h2 := h 2 (by decide); have h3 := h 3 (by decide)
  unfold wd at h0 h1 h2 h3
  simp only [Int.reducePow, Int.ediv_one] at h0 h1 h2 h3
  unfold Na NaL
  rw [h0, h1, h2, h3]

/-- the number N in memory -/
def Nu (w : World) (b o : Nat) (N : Int) : Prop := ∀ i, i < 4 → w.cell? ⟨b, o + i, none⟩ = some (.int .u64 (wd N i)) ∧ w.frozen? ⟨b, o + i, none⟩ = false
theorem Nu.lt {w : World} {b o : Nat} {N : Int} (h : Nu w b o N) : b < w.heap.size := World.block_lt_of_cell? w _ (h 0 (by decide)).1
theorem Nu.keep {w w' : World} {S : Nat → Nat → Prop} {b o : Nat} {N : Int} (hu : Upd w w' S) (h : Nu w b o N) (hn : ∀ i, i < 4 → ¬ S b (o + i)) : Nu w' b o N := fun i hi =>
  ⟨(hu.cell b _ h.lt (hn i hi)).trans (h i hi).1, (hu.froz b _ h.lt).trans (h i hi).2⟩
theorem Nu.drew {w : World} {b o : Nat} {N : Int} (h : Nu w b o N) : Nu w.drew b o N := h
theorem Nu.boxed (w : World) (N : Int) (t : TypeId) : Nu (w.alloc (.cells (Na N) t)) w.heap.size 0 N := fun i hi => by
  rw [Nat.zero_add]
  refine ⟨?_, World.frozen?_alloc_new _ _ _ _⟩
  rw [World.cell?_alloc_new]
  unfold Na
  rw [List.getElem?_toArray, NaL_get N i hi]
theorem Na_zero : Na 0 = #[.int .u64 0, .int .u64 0, .int .u64 0, .int .u64 0] := rfl
def Z4 (t : TypeId) : Obj := .cells #[.int .u64 0, .int .u64 0, .int .u64 0, .int .u64 0] t
theorem Nu.zero (w : World) (t : TypeId) : Nu (w.alloc (Z4 t)) w.heap.size 0 0 := Nu.boxed w 0 t
theorem Nu.congr {w : World} {b o : Nat} {N M : Int} (h : Nu w b o N) (e : ∀ i, i < 4 → wd N i = wd M i) : Nu w b o M := fun i hi => by rw [← e i hi]; exact h i hi

theorem row45 : ∃ d, Tryz.prog.underlying 45 = some d ∧ d.isRow = true := isRow_of (by kernel_rfl)
theorem size45 : (Tryz.prog.info? 45).map (·.size) = some 4 := by kernel_rfl
theorem Nu.range {w : World} {b o : Nat} {N : Int} (h : Nu w b o N) : w.rangeAt b o (NaL N) := fun j v hv => by
  have hj : j < 4 := by have := (List.getElem?_eq_some_iff.1 hv).1; rw [NaL_len] at this; exact this
  rw [NaL_get N j hj] at hv
  cases hv
  exact (h j hj).1
theorem Nu.there {w : World} {b o : Nat} {N : Int} (h : Nu w b o N) : w.there b o 4 := fun j hj => ⟨by rw [(h j hj).1]; rfl, (h j hj).2⟩
theorem load45 {w : World} {b o : Nat} {N : Int} (h : Nu w b o N) : (loadVar 45 ⟨b, o, none⟩).run Tryz.prog w = .ok (.agg (Na N)) w := by
  obtain ⟨t, hu, hd⟩ := row45
  exact run_loadVar_mid w b o 45 (NaL N) t h.range hu hd (by rw [NaL_len]; exact size45)
theorem wpList_load45 {ops : Array Oper} {rest : List Oper} {op : Oper} {a : Act} {w : World} {Q : Exit → Act → World → Prop} (hgd : op.guard = none) (x : Operand) (ho : op.op = .load 45 x)
    (b o : Nat) (hx : a.eval x = .pointer (some ⟨b, o, none⟩)) (N : Int) (hB : Nu w b o N)
    (h : wpList Tryz.prog ops Q rest (a.put op.dst (.agg (Na N))) w) : wpList Tryz.prog ops Q (op :: rest) a w := by
  obtain ⟨t, hu, hd⟩ := row45
  exact wpList_load_mid hgd 45 x ho b o hx (NaL N) t hB.range hu hd (by rw [NaL_len]; exact size45) h
theorem wpList_store45 {ops : Array Oper} {rest : List Oper} {op : Oper} {a : Act} {w : World} {Q : Exit → Act → World → Prop} (hgd : op.guard = none) (x y : Operand) (ho : op.op = .store 45 x y)
    (b o : Nat) (N M : Int) (hx : a.eval x = .pointer (some ⟨b, o, none⟩)) (hy : a.eval y = .agg (Na N)) (hW : Nu w b o M)
    (h : ∀ w', Upd w w' (Rg b o 4) → Nu w' b o N → wpList Tryz.prog ops Q rest (a.put op.dst undef) w') : wpList Tryz.prog ops Q (op :: rest) a w := by
  have ht : w.there b o (NaL N).length := hW.there
  have hr := World.rangeAt_setCells_same w b o _ ht
  refine wpList_store_mid hgd 45 x y ho b o (Na N) hx hy hW.there size45 (all_oneCell_toArray (NaL_one N)) ?_
  refine h (w.setCells b o (NaL N)) ((Upd.refl w _).cells b (NaL N) o (fun i hi _ => ⟨rfl, by omega, by rw [NaL_len] at hi; omega⟩)) (fun i hi => ⟨hr i _ (NaL_get N i hi), ?_⟩)
  rw [World.frozen?_setCells]
  exact (hW i hi).2

/-- one word is written -/
theorem Nu.setw {w : World} {b : Nat} {f : Nat → Int} (h : ∀ i, i < 4 → w.cell? ⟨b, i, none⟩ = some (.int .u64 (f i)) ∧ w.frozen? ⟨b, i, none⟩ = false) (k : Nat) (v : Int) :
    ∀ i, i < 4 → (w.setCell ⟨b, k, none⟩ (.int .u64 v)).cell? ⟨b, i, none⟩ = some (.int .u64 (if i = k then v else f i)) ∧ (w.setCell ⟨b, k, none⟩ (.int .u64 v)).frozen? ⟨b, i, none⟩ = false := fun i hi => by
  refine ⟨?_, (World.frozen?_setCell _ _ _ _).trans (h i hi).2⟩
  by_cases e : i = k
  · subst e
    rw [if_pos rfl]
    exact World.cell?_setCell_same _ _ _ (h i hi).1
  · rw [if_neg e]
    exact (World.cell?_setCell_other _ _ _ _ (by intro h; cases h; exact e rfl)).trans (h i hi).1

def cry (A C : Int) (k : Nat) : Int := (A % 18446744073709551616 ^ k + C % 18446744073709551616 ^ k) / 18446744073709551616 ^ k
def brw (A C : Int) (k : Nat) : Int := if A % 18446744073709551616 ^ k < C % 18446744073709551616 ^ k then 1 else 0
theorem cry_step (A C : Int) (k : Nat) (hk : k < 4) : 0 ≤ cry A C k ∧ cry A C k ≤ 1 ∧ (wd A k + wd C k + cry A C k) % 18446744073709551616 = wd (A + C) k ∧ (wd A k + wd C k + cry A C k) / 18446744073709551616 = cry A C (k + 1) := by
  have : k = 0 ∨ k = 1 ∨ k = 2 ∨ k = 3 := by omega
  unfold cry wd
  rcases this with rfl | rfl | rfl | rfl
  · simp only [Int.reducePow, Nat.reduceAdd]; omega
  · simp only [Int.reducePow, Nat.reduceAdd]; omega
  · simp only [Int.reducePow, Nat.reduceAdd]; omega
  · simp only [Int.reducePow, Nat.reduceAdd]; omega
theorem brw_step (A C : Int) (k : Nat) (hk : k < 4) : 0 ≤ brw A C k ∧ brw A C k ≤ 1 ∧ (wd A k - wd C k - brw A C k) % 18446744073709551616 = wd (A - C) k ∧ (if wd A k < wd C k + brw A C k then (1 : Int) else 0) = brw A C (k + 1) := by
  have : k = 0 ∨ k = 1 ∨ k = 2 ∨ k = 3 := by omega
  unfold brw wd
  rcases this with rfl | rfl | rfl | rfl
  · simp only [Int.reducePow, Nat.reduceAdd]; omega
  · simp only [Int.reducePow, Nat.reduceAdd]; omega
  · simp only [Int.reducePow, Nat.reduceAdd]; omega
  · simp only [Int.reducePow, Nat.reduceAdd]; omega

end Go.Proofs.YtkibnongmkhbaaaGreatDoor
end

section
open Go Go.RowKit
namespace Go.Proofs.YtkibnongmkhbaaaGreatDoor
open Ed

def Nw (w : World) (b : Nat) (f : Nat → Int) : Prop := ∀ i, i < 4 → w.cell? ⟨b, i, none⟩ = some (.int .u64 (f i)) ∧ w.frozen? ⟨b, i, none⟩ = false
theorem Nu.nw {w : World} {b : Nat} {N : Int} (h : Nu w b 0 N) : Nw w b (wd N) := fun i hi => by have := h i hi; rw [Nat.zero_add] at this; exact this
theorem Nw.nu {w : World} {b : Nat} {f : Nat → Int} {N : Int} (h : Nw w b f) (e : ∀ i, i < 4 → f i = wd N i) : Nu w b 0 N := fun i hi => by rw [Nat.zero_add, ← e i hi]; exact h i hi

def SumRel (w : World) (ob : Nat) (A C : Int) (c i : Value) (wr : World) : Prop :=
  ∃ k : Nat, k ≤ 4 ∧ i = .int .i64 k ∧ c = .int .u64 (cry A C k) ∧ Upd w wr (fun b _ => b = ob) ∧ ∃ f, Nw wr ob f ∧ ∀ j, j < k → f j = wd (A + C) j

set_option maxRecDepth 100000 in
set_option maxHeartbeats 8000000 in
theorem sum_c (A C : Int) (w : World) : Calls Tryz.prog 72 #[.agg (Na A), .agg (Na C)] w fun e w' => e = .returned (.agg (Na (A + C))) ∧ Upd w w' (fun _ _ => False) := by
  have A1 := (((((Upd.refl w (fun _ _ => False)).alloc (.cells (Na A) 45)).alloc (.cells (Na C) 45)).alloc (Z4 45)).alloc (Z4 45))
  have n1 := ((Nu.boxed w A 45).keep ((((Upd.refl _ (fun _ _ => False)).alloc (.cells (Na C) 45)).alloc (Z4 45)).alloc (Z4 45)) (fun _ _ h => h))
  have n2 := ((Nu.boxed (w.alloc (.cells (Na A) 45)) C 45).keep (((Upd.refl _ (fun _ _ => False)).alloc (Z4 45)).alloc (Z4 45)) (fun _ _ h => h))
  have n3 := ((Nu.zero ((w.alloc (.cells (Na A) 45)).alloc (.cells (Na C) 45)) 45).keep ((Upd.refl _ (fun _ _ => False)).alloc (Z4 45)) (fun _ _ h => h))
  have n4 := Nu.zero (((w.alloc (.cells (Na A) 45)).alloc (.cells (Na C) 45)).alloc (Z4 45)) 45
  simp only [World.size_alloc] at n1 n2 n3 n4
  go_enter Tryz.func72, Tryz.ntmps72
  go_wp2_with (first
    | (refine wpList_store45 rfl _ _ rfl (w.heap.size + 1 + 1 + 1) 0 0 0 (by rfl) (by rfl) n4 ?_; intro w1 hU1 n4))
  have m1 := n1.keep hU1 (fun i hi h => absurd h.1 (by omega))
  have m2 := n2.keep hU1 (fun i hi h => absurd h.1 (by omega))
  have m3 := n3.keep hU1 (fun i hi h => absurd h.1 (by omega))
  have A2 := A1.trans hU1 (fun b o hb h => absurd h.1 (by omega))
  have s1 := n4.lt
  clear n1 n2 n3 A1 hU1
  go_loopw [6, 7] (fun c i wr => SumRel w1 (w.heap.size + 1 + 1 + 1) A C c i wr) (fun _ i _ => 4 - (intOf i).toNat)
  case atStart => exact ⟨0, by omega, rfl, by unfold cry; simp, Upd.refl _ _, _, n4.nw, fun j hj => by omega⟩
  case round =>
    obtain ⟨k, hk, rfl, rfl, hU, f, hf, hj⟩ := hrel
    have m1 := (m1.keep hU (fun i hi h => by omega)).nw
    have m2 := (m2.keep hU (fun i hi h => by omega)).nw
    have m3 := m3.keep hU (fun i hi h => by omega)
    by_cases hlt : k = 4
    · subst hlt
      have n5 : Nu wr (w.heap.size + 1 + 1 + 1) 0 (A + C) := hf.nu hj
      clear hf hj m1 m2 n4
      go_wp2_with (first
        | (refine wpList_load45 rfl _ rfl (w.heap.size + 1 + 1 + 1) 0 (by rfl) (A + C) n5 ?_)
        | (refine wpList_store45 rfl _ _ rfl (w.heap.size + 1 + 1) 0 (A + C) 0 (by rfl) (by rfl) m3 ?_; intro w2 hU2 n6))
      refine bodyPost_ret (results_cell rfl (by rfl) (load45 n6)) rfl ⟨rfl, ?_⟩
      exact (A2.trans hU (fun b o hb h => by omega)).trans hU2 (fun b o hb h => absurd h.1 (by omega))
    · have hk4 : (k : Int) < 4 := by omega
      have hk0 : (0 : Int) ≤ (k : Int) := by omega
      obtain ⟨x0, -⟩ := m1 k (by omega)
      obtain ⟨y0, -⟩ := m2 k (by omega)
      obtain ⟨z0, z1⟩ := hf k (by omega)
      have hc := cry_step A C k (by omega)
      have rx := wd_rng A k
      have ry := wd_rng C k
      obtain ⟨x, ex⟩ : ∃ x, x = wd A k := ⟨_, rfl⟩
      obtain ⟨y, ey⟩ : ∃ y, y = wd C k := ⟨_, rfl⟩
      obtain ⟨c, ec⟩ : ∃ c, c = cry A C k := ⟨_, rfl⟩
      obtain ⟨s, es⟩ : ∃ s, s = wd (A + C) k := ⟨_, rfl⟩
      obtain ⟨d, ed⟩ : ∃ d, d = cry A C (k + 1) := ⟨_, rfl⟩
      rw [← ex, ← ey, ← ec, ← es, ← ed] at hc
      rw [← ex] at x0 rx
      rw [← ey] at y0 ry
      rw [← ec]
      have hadd : ∀ W : World, (callFunc 95 #[.int .u64 x, .int .u64 y, .int .u64 c]).run Tryz.prog W = .ok (.value (.tuple #[.int .u64 s, .int .u64 d])) W := fun W => by
        rw [add64_run x y c rx.1 ry.1 hc.1 hc.2.1 W, hc.2.2.1, hc.2.2.2]
      have Es := Lib.hid es
      have Ed' := Lib.hid ed
      clear ex ey ec es ed hc rx ry
      have b1 : ¬ w.heap.size = w.heap.size + 1 + 1 + 1 := by omega
      have b2 : ¬ w.heap.size + 1 = w.heap.size + 1 + 1 + 1 := by omega
      have hx' : ∀ v, (wr.setCell ⟨w.heap.size + 1 + 1 + 1, k, none⟩ v).drew.cell? ⟨w.heap.size, k, none⟩ = some (.int .u64 x) := fun v => (World.cell?_setCell_other wr _ _ _ (fun h => b1 (congrArg Addr.block h).symm)).trans x0
      have hy' : ∀ v, (wr.setCell ⟨w.heap.size + 1 + 1 + 1, k, none⟩ v).drew.cell? ⟨w.heap.size + 1, k, none⟩ = some (.int .u64 y) := fun v => (World.cell?_setCell_other wr _ _ _ (fun h => b2 (congrArg Addr.block h).symm)).trans y0
      go_wp2_with fail
      go_region_held3 (fun W => W.cell? ⟨w.heap.size, k, none⟩ = some (.int .u64 x) ∧ W.cell? ⟨w.heap.size + 1, k, none⟩ = some (.int .u64 y)) (first | go_keep | exact ⟨hx' _, hy' _⟩) (fail)
      clear hx' hy' hadd
      go_wp2
      rw [Ed'.out]
      refine ⟨⟨k + 1, by omega, by go_num, rfl, (hU.set (fun _ => rfl) _).drew, _, Nu.setw hf k s, fun j hj2 => ?_⟩, by simp [intOf]; omega⟩
      by_cases e : j = k
      · subst e; rw [if_pos rfl]; exact Es.out
      · rw [if_neg e]; exact hj j (by omega)

def ltI (A C : Int) : Int := if A < C then 1 else 0
theorem brw4 {A C : Int} (hA0 : 0 ≤ A) (hA1 : A < 115792089237316195423570985008687907853269984665640564039457584007913129639936) (hC0 : 0 ≤ C) (hC1 : C < 115792089237316195423570985008687907853269984665640564039457584007913129639936) : brw A C 4 = ltI A C := by
  have e1 := Int.emod_eq_of_lt hA0 hA1
  have e2 := Int.emod_eq_of_lt hC0 hC1
  unfold brw ltI
  simp only [Int.reducePow, e1, e2]
theorem results_cell2 {P : Program} {fn : Func} {tmps : Array Value} {w : World} {t u : Tmp} {ty : TypeId} {ad : Addr} {v x : Value} (hres : fn.results = #[.cell t ty, .tmp u]) (ht : tmps.getD t undef = .pointer (some ad))
    (hl : (loadVar ty ad).run P w = .ok v w) (hu : tmps.getD u undef = x) : (results fn tmps).run P w = .ok (.tuple #[v, x]) w := by
  subst hu
  unfold results
  rw [hres]
  rw [Array.getD_eq_getD_getElem?] at ht
  simp [ht, asAddr, hl]

def RestRel (w : World) (ob : Nat) (A C : Int) (c i : Value) (wr : World) : Prop :=
  ∃ k : Nat, k ≤ 4 ∧ i = .int .i64 k ∧ c = .int .u64 (brw A C k) ∧ Upd w wr (fun b _ => b = ob) ∧ ∃ f, Nw wr ob f ∧ ∀ j, j < k → f j = wd (A - C) j

set_option maxRecDepth 100000 in
set_option maxHeartbeats 8000000 in
theorem rest_c (A C : Int) (hA0 : 0 ≤ A) (hA1 : A < 115792089237316195423570985008687907853269984665640564039457584007913129639936) (hC0 : 0 ≤ C) (hC1 : C < 115792089237316195423570985008687907853269984665640564039457584007913129639936) (w : World) : Calls Tryz.prog 52 #[.agg (Na A), .agg (Na C)] w fun e w' => e = .returned (.tuple #[.agg (Na (A - C)), .int .u64 (ltI A C)]) ∧ Upd w w' (fun _ _ => False) := by
  have A1 := (((((Upd.refl w (fun _ _ => False)).alloc (.cells (Na A) 45)).alloc (.cells (Na C) 45)).alloc (Z4 45)).alloc (Z4 45))
  have n1 := ((Nu.boxed w A 45).keep ((((Upd.refl _ (fun _ _ => False)).alloc (.cells (Na C) 45)).alloc (Z4 45)).alloc (Z4 45)) (fun _ _ h => h))
  have n2 := ((Nu.boxed (w.alloc (.cells (Na A) 45)) C 45).keep (((Upd.refl _ (fun _ _ => False)).alloc (Z4 45)).alloc (Z4 45)) (fun _ _ h => h))
  have n3 := ((Nu.zero ((w.alloc (.cells (Na A) 45)).alloc (.cells (Na C) 45)) 45).keep ((Upd.refl _ (fun _ _ => False)).alloc (Z4 45)) (fun _ _ h => h))
  have n4 := Nu.zero (((w.alloc (.cells (Na A) 45)).alloc (.cells (Na C) 45)).alloc (Z4 45)) 45
  simp only [World.size_alloc] at n1 n2 n3 n4
  go_enter Tryz.func52, Tryz.ntmps52
  go_wp2_with (first
    | (refine wpList_store45 rfl _ _ rfl (w.heap.size + 1 + 1 + 1) 0 0 0 (by rfl) (by rfl) n4 ?_; intro w1 hU1 n4))
  have m1 := n1.keep hU1 (fun i hi h => absurd h.1 (by omega))
  have m2 := n2.keep hU1 (fun i hi h => absurd h.1 (by omega))
  have m3 := n3.keep hU1 (fun i hi h => absurd h.1 (by omega))
  have A2 := A1.trans hU1 (fun b o hb h => absurd h.1 (by omega))
  have s1 := n4.lt
  clear n1 n2 n3 A1 hU1
  go_loopw [7, 8] (fun c i wr => RestRel w1 (w.heap.size + 1 + 1 + 1) A C c i wr) (fun _ i _ => 4 - (intOf i).toNat)
  case atStart => exact ⟨0, by omega, rfl, by unfold brw; simp, Upd.refl _ _, _, n4.nw, fun j hj => by omega⟩
  case round =>
    obtain ⟨k, hk, rfl, rfl, hU, f, hf, hj⟩ := hrel
    have m1 := (m1.keep hU (fun i hi h => by omega)).nw
    have m2 := (m2.keep hU (fun i hi h => by omega)).nw
    have m3 := m3.keep hU (fun i hi h => by omega)
    by_cases hlt : k = 4
    · subst hlt
      have n5 : Nu wr (w.heap.size + 1 + 1 + 1) 0 (A - C) := hf.nu hj
      clear hf hj m1 m2 n4
      go_wp2_with (first
        | (refine wpList_load45 rfl _ rfl (w.heap.size + 1 + 1 + 1) 0 (by rfl) (A - C) n5 ?_)
        | (refine wpList_store45 rfl _ _ rfl (w.heap.size + 1 + 1) 0 (A - C) 0 (by rfl) (by rfl) m3 ?_; intro w2 hU2 n6))
      refine bodyPost_ret (results_cell2 (x := .int .u64 (brw A C 4)) rfl (by rfl) (load45 n6) (by rfl)) rfl ⟨by rw [brw4 hA0 hA1 hC0 hC1], ?_⟩
      exact (A2.trans hU (fun b o hb h => by omega)).trans hU2 (fun b o hb h => absurd h.1 (by omega))
    · have hk4 : (k : Int) < 4 := by omega
      have hk0 : (0 : Int) ≤ (k : Int) := by omega
      obtain ⟨x0, -⟩ := m1 k (by omega)
      obtain ⟨y0, -⟩ := m2 k (by omega)
      obtain ⟨z0, z1⟩ := hf k (by omega)
      have hc := brw_step A C k (by omega)
      have rx := wd_rng A k
      have ry := wd_rng C k
      obtain ⟨x, ex⟩ : ∃ x, x = wd A k := ⟨_, rfl⟩
      obtain ⟨y, ey⟩ : ∃ y, y = wd C k := ⟨_, rfl⟩
      obtain ⟨c, ec⟩ : ∃ c, c = brw A C k := ⟨_, rfl⟩
      obtain ⟨s, es⟩ : ∃ s, s = wd (A - C) k := ⟨_, rfl⟩
      obtain ⟨d, ed⟩ : ∃ d, d = brw A C (k + 1) := ⟨_, rfl⟩
      rw [← ex, ← ey, ← ec, ← es, ← ed] at hc
      rw [← ex] at x0 rx
      rw [← ey] at y0 ry
      rw [← ec]
      have hadd : ∀ W : World, (callFunc 83 #[.int .u64 x, .int .u64 y, .int .u64 c]).run Tryz.prog W = .ok (.value (.tuple #[.int .u64 s, .int .u64 d])) W := fun W => by
        rw [sub64_run x y c rx.1 ry.1 rx.2 ry.2 hc.1 hc.2.1 W, hc.2.2.1, hc.2.2.2]
      have Es := Lib.hid es
      have Ed' := Lib.hid ed
      clear ex ey ec es ed hc rx ry
      have b1 : ¬ w.heap.size = w.heap.size + 1 + 1 + 1 := by omega
      have b2 : ¬ w.heap.size + 1 = w.heap.size + 1 + 1 + 1 := by omega
      have hx' : ∀ v, (wr.setCell ⟨w.heap.size + 1 + 1 + 1, k, none⟩ v).drew.cell? ⟨w.heap.size, k, none⟩ = some (.int .u64 x) := fun v => (World.cell?_setCell_other wr _ _ _ (fun h => b1 (congrArg Addr.block h).symm)).trans x0
      have hy' : ∀ v, (wr.setCell ⟨w.heap.size + 1 + 1 + 1, k, none⟩ v).drew.cell? ⟨w.heap.size + 1, k, none⟩ = some (.int .u64 y) := fun v => (World.cell?_setCell_other wr _ _ _ (fun h => b2 (congrArg Addr.block h).symm)).trans y0
      go_wp2_with fail
      go_region_held3 (fun W => W.cell? ⟨w.heap.size, k, none⟩ = some (.int .u64 x) ∧ W.cell? ⟨w.heap.size + 1, k, none⟩ = some (.int .u64 y)) (first | go_keep | exact ⟨hx' _, hy' _⟩) (fail)
      clear hx' hy' hadd
      go_wp2
      rw [Ed'.out]
      refine ⟨⟨k + 1, by omega, by go_num, rfl, (hU.set (fun _ => rfl) _).drew, _, Nu.setw hf k s, fun j hj2 => ?_⟩, by simp [intOf]; omega⟩
      by_cases e : j = k
      · subst e; rw [if_pos rfl]; exact Es.out
      · rw [if_neg e]; exact hj j (by omega)

end Go.Proofs.YtkibnongmkhbaaaGreatDoor
end
