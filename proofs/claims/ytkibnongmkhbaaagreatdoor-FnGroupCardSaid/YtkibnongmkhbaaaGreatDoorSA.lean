/- Part of the proof that laws.FnGroup returns true for all 32 bytes p, q and x: the words of Montgomery arithmetic.
   Conditions: those that each theorem states. -/
import Derived.Test.YtkibnongmkhbaaaGreatDoorAA
import Derived.Test.YtkibnongmkhbaaaGreatDoorPA

section
open Go Go.RowKit
namespace Go.Proofs.YtkibnongmkhbaaaGreatDoor
open Ed

theorem hi_le (x c : Int) (hx : 0 ≤ x) (hx' : x < 18446744073709551616) (hc : 1 ≤ c) : 0 ≤ x * c / 18446744073709551616 ∧ x * c / 18446744073709551616 ≤ c - 1 := by
  have h1 : x * c < 18446744073709551616 * c := Int.mul_lt_mul_of_pos_right hx' (by omega)
  have h0 : 0 ≤ x * c := Int.mul_nonneg hx (by omega)
  generalize x * c = p at *
  omega

theorem mulK (x c : Int) (hx : 0 ≤ x) (hx' : x < 18446744073709551616) (hc : 1 ≤ c) (hc' : c < 18446744073709551616) (w : World) :
    Calls Tryz.prog 97 #[.int .u64 x, .int .u64 c] w fun e w' => ∃ h l : Int, e = .returned (.tuple #[.int .u64 h, .int .u64 l]) ∧ w' = w ∧ Hid (l + 18446744073709551616 * h = x * c) ∧
      0 ≤ l ∧ l < 18446744073709551616 ∧ 0 ≤ h ∧ h ≤ c - 1 := by
  refine (mul64_c x c hx hx' (by omega) hc' w).mono fun e w' ⟨he, hw⟩ => ⟨_, _, he, hw, show _ = _ by omega, ?_, ?_, (hi_le x c hx hx' hc).1, (hi_le x c hx hx' hc).2⟩
  · omega
  · omega

theorem upon_addK {o : Oper} {a : Act} {K : Act → World → Prop} {Q : Exit → Act → World → Prop} {w : World} {x y c : Int} (hx : 0 ≤ x) (hx' : x < 18446744073709551616) (hy : 0 ≤ y) (hy' : y < 18446744073709551616) (hc0 : 0 ≤ c) (hc : c ≤ 1)
    (h : ∀ s d : Int, Hid (s + 18446744073709551616 * d = x + y + c) → 0 ≤ s → s < 18446744073709551616 → 0 ≤ d → d ≤ 1 → K (a.put o.dst (.tuple #[.int .u64 s, .int .u64 d])) w) :
    o.upon Tryz.prog a K Q ((callFunc 95 #[.int .u64 x, .int .u64 y, .int .u64 c]).run Tryz.prog w) := by
  rw [add64_run x y c hx hy hc0 hc w]
  exact h _ _ (show _ = _ by omega) (by omega) (by omega) (by omega) (by omega)

theorem upon_subK {o : Oper} {a : Act} {K : Act → World → Prop} {Q : Exit → Act → World → Prop} {w : World} {x y c : Int} (hx : 0 ≤ x) (hx' : x < 18446744073709551616) (hy : 0 ≤ y) (hy' : y < 18446744073709551616) (hc0 : 0 ≤ c) (hc : c ≤ 1)
    (h : ∀ s d : Int, Hid (s - 18446744073709551616 * d = x - y - c) → 0 ≤ s → s < 18446744073709551616 → 0 ≤ d → d ≤ 1 → K (a.put o.dst (.tuple #[.int .u64 s, .int .u64 d])) w) :
    o.upon Tryz.prog a K Q ((callFunc 83 #[.int .u64 x, .int .u64 y, .int .u64 c]).run Tryz.prog w) := by
  rw [sub64_run x y c hx hy hx' hy' hc0 hc w]
  refine h _ _ (show _ = _ from ?_) (by omega) (by omega) ?_ ?_
  · split <;> omega
  · split <;> omega
  · split <;> omega


/-- a stop of the walk -/
structure Stop (p : Prop) : Prop where
  out : p
set_option maxRecDepth 100000 in
theorem stop_add {o : Oper} {a : Act} {K : Act → World → Prop} {Q : Exit → Act → World → Prop} {w : World} {x : Array Value} (h : Stop (o.upon Tryz.prog a K Q ((callFunc 95 x).run Tryz.prog w))) :
    o.upon Tryz.prog a K Q ((callFunc 95 x).run Tryz.prog w) := h.out
set_option maxRecDepth 100000 in
theorem stop_sub {o : Oper} {a : Act} {K : Act → World → Prop} {Q : Exit → Act → World → Prop} {w : World} {x : Array Value} (h : Stop (o.upon Tryz.prog a K Q ((callFunc 83 x).run Tryz.prog w))) :
    o.upon Tryz.prog a K Q ((callFunc 83 x).run Tryz.prog w) := h.out
set_option maxRecDepth 100000 in
theorem upon_addS {o : Oper} {a : Act} {K : Act → World → Prop} {Q : Exit → Act → World → Prop} {w : World} {x y c : Int} (hx : 0 ≤ x) (hx' : x < 18446744073709551616) (hy : 0 ≤ y) (hy' : y < 18446744073709551616) (hc0 : 0 ≤ c) (hc : c ≤ 1)
    (h : ∀ s d : Int, Hid (s + 18446744073709551616 * d = x + y + c) → 0 ≤ s → s < 18446744073709551616 → 0 ≤ d → d ≤ 1 → K (a.put o.dst (.tuple #[.int .u64 s, .int .u64 d])) w) :
    Stop (o.upon Tryz.prog a K Q ((callFunc 95 #[.int .u64 x, .int .u64 y, .int .u64 c]).run Tryz.prog w))   := Stop.mk (upon_addK hx hx' hy hy' hc0 hc h)
set_option maxRecDepth 100000 in
theorem upon_subS {o : Oper} {a : Act} {K : Act → World → Prop} {Q : Exit → Act → World → Prop} {w : World} {x y c : Int} (hx : 0 ≤ x) (hx' : x < 18446744073709551616) (hy : 0 ≤ y) (hy' : y < 18446744073709551616) (hc0 : 0 ≤ c) (hc : c ≤ 1)
    (h : ∀ s d : Int, Hid (s - 18446744073709551616 * d = x - y - c) → 0 ≤ s → s < 18446744073709551616 → 0 ≤ d → d ≤ 1 → K (a.put o.dst (.tuple #[.int .u64 s, .int .u64 d])) w) :
    Stop (o.upon Tryz.prog a K Q ((callFunc 83 #[.int .u64 x, .int .u64 y, .int .u64 c]).run Tryz.prog w))   := Stop.mk (upon_subK hx hx' hy hy' hc0 hc h)

/-- four words -/
structure W4 (w : World) (b : Nat) (l0 l1 l2 l3 : Int) : Prop where
  c0 : w.cell? ⟨b, 0, none⟩ = some (.int .u64 l0)
  c1 : w.cell? ⟨b, 1, none⟩ = some (.int .u64 l1)
  c2 : w.cell? ⟨b, 2, none⟩ = some (.int .u64 l2)
  c3 : w.cell? ⟨b, 3, none⟩ = some (.int .u64 l3)
  f0 : w.frozen? ⟨b, 0, none⟩ = false
  f1 : w.frozen? ⟨b, 1, none⟩ = false
  f2 : w.frozen? ⟨b, 2, none⟩ = false
  f3 : w.frozen? ⟨b, 3, none⟩ = false
theorem W4.lt {w : World} {b : Nat} {l0 l1 l2 l3 : Int} (h : W4 w b l0 l1 l2 l3) : b < w.heap.size := World.block_lt_of_cell? w _ h.c0
theorem W4.keep {w w' : World} {S : Nat → Nat → Prop} {b : Nat} {l0 l1 l2 l3 : Int} (hu : Upd w w' S) (h : W4 w b l0 l1 l2 l3) (hn : ∀ i, i < 4 → ¬ S b i) : W4 w' b l0 l1 l2 l3 where
  c0 := (hu.cell b 0 h.lt (hn 0 (by omega))).trans h.c0
  c1 := (hu.cell b 1 h.lt (hn 1 (by omega))).trans h.c1
  c2 := (hu.cell b 2 h.lt (hn 2 (by omega))).trans h.c2
  c3 := (hu.cell b 3 h.lt (hn 3 (by omega))).trans h.c3
  f0 := (hu.froz b 0 h.lt).trans h.f0
  f1 := (hu.froz b 1 h.lt).trans h.f1
  f2 := (hu.froz b 2 h.lt).trans h.f2
  f3 := (hu.froz b 3 h.lt).trans h.f3
theorem W4.set {w : World} {b : Nat} {l0 l1 l2 l3 : Int} (h : W4 w b l0 l1 l2 l3) (v0 v1 v2 v3 : Int) :
    W4 ((((w.setCell ⟨b, 0, none⟩ (.int .u64 v0)).setCell ⟨b, 1, none⟩ (.int .u64 v1)).setCell ⟨b, 2, none⟩ (.int .u64 v2)).setCell ⟨b, 3, none⟩ (.int .u64 v3)) b v0 v1 v2 v3 ∧
    Upd w ((((w.setCell ⟨b, 0, none⟩ (.int .u64 v0)).setCell ⟨b, 1, none⟩ (.int .u64 v1)).setCell ⟨b, 2, none⟩ (.int .u64 v2)).setCell ⟨b, 3, none⟩ (.int .u64 v3)) (Rg b 0 4) := by
  have a0 := World.cell?_setCell_same w _ (.int .u64 v0) h.c0
  have a1 : (w.setCell ⟨b, 0, none⟩ (.int .u64 v0)).cell? ⟨b, 1, none⟩ = some (.int .u64 l1) := (World.cell?_setCell_other _ _ _ _ (by simp)).trans h.c1
  have b1 := World.cell?_setCell_same _ _ (.int .u64 v1) a1
  have a2 : ((w.setCell ⟨b, 0, none⟩ (.int .u64 v0)).setCell ⟨b, 1, none⟩ (.int .u64 v1)).cell? ⟨b, 2, none⟩ = some (.int .u64 l2) := (World.cell?_setCell_other _ _ _ _ (by simp)).trans ((World.cell?_setCell_other _ _ _ _ (by simp)).trans h.c2)
  have b2 := World.cell?_setCell_same _ _ (.int .u64 v2) a2
  have a3 : (((w.setCell ⟨b, 0, none⟩ (.int .u64 v0)).setCell ⟨b, 1, none⟩ (.int .u64 v1)).setCell ⟨b, 2, none⟩ (.int .u64 v2)).cell? ⟨b, 3, none⟩ = some (.int .u64 l3) :=
    (World.cell?_setCell_other _ _ _ _ (by simp)).trans ((World.cell?_setCell_other _ _ _ _ (by simp)).trans ((World.cell?_setCell_other _ _ _ _ (by simp)).trans h.c3))
  have b3 := World.cell?_setCell_same _ _ (.int .u64 v3) a3
  refine ⟨⟨?_, ?_, ?_, b3, ?_, ?_, ?_, ?_⟩, ?_⟩
  · exact (World.cell?_setCell_other _ _ _ _ (by simp)).trans ((World.cell?_setCell_other _ _ _ _ (by simp)).trans ((World.cell?_setCell_other _ _ _ _ (by simp)).trans a0))
  · exact (World.cell?_setCell_other _ _ _ _ (by simp)).trans ((World.cell?_setCell_other _ _ _ _ (by simp)).trans b1)
  · exact (World.cell?_setCell_other _ _ _ _ (by simp)).trans b2
  · simp only [World.frozen?_setCell]; exact h.f0
  · simp only [World.frozen?_setCell]; exact h.f1
  · simp only [World.frozen?_setCell]; exact h.f2
  · simp only [World.frozen?_setCell]; exact h.f3
  · exact ((((Upd.refl w _).set (fun _ => ⟨rfl, by omega, by omega⟩) _).set (fun _ => ⟨rfl, by omega, by omega⟩) _).set (fun _ => ⟨rfl, by omega, by omega⟩) _).set (fun _ => ⟨rfl, by omega, by omega⟩) _

/-- a word -/
def Wd (x : Int) : Prop := 0 ≤ x ∧ x < 18446744073709551616
theorem and_full (x : Int) (h0 : 0 ≤ x) (h1 : x < 18446744073709551616) : bits .and .u64 18446744073709551615 x = x := by
  obtain ⟨n, rfl⟩ := Int.eq_ofNat_of_zero_le h0
  show IntKind.u64.wrap ((BitVec.ofInt 64 18446744073709551615 &&& BitVec.ofInt 64 (n : Int)).toNat : Nat) = _
  have e : (BitVec.ofInt 64 18446744073709551615 &&& BitVec.ofInt 64 (n : Int)).toNat = n := by
    rw [BitVec.toNat_and, BitVec.toNat_ofInt, BitVec.toNat_ofInt, Nat.and_comm]
    have e1 : ((18446744073709551615 : Int) % ((2 ^ 64 : Nat) : Int)).toNat = 2 ^ 64 - 1 := by decide
    rw [e1, Nat.and_two_pow_sub_one_eq_mod]
    omega
  rw [e, wrap64_self n (by omega)]
theorem and_none (x : Int) : bits .and .u64 0 x = 0 := by
  show IntKind.u64.wrap ((BitVec.ofInt 64 0 &&& BitVec.ofInt 64 x).toNat : Nat) = _
  have e : (BitVec.ofInt 64 0 &&& BitVec.ofInt 64 x).toNat = 0 := by
    rw [BitVec.toNat_and, show (BitVec.ofInt 64 0).toNat = 0 from rfl, Nat.zero_and]
  rw [e]; rfl


theorem and_full' (x : Int) (h0 : 0 ≤ x) (h1 : x < 18446744073709551616) : bits .or .u64 0 x = x := by
  obtain ⟨n, rfl⟩ := Int.eq_ofNat_of_zero_le h0
  show IntKind.u64.wrap ((BitVec.ofInt 64 0 ||| BitVec.ofInt 64 (n : Int)).toNat : Nat) = _
  have e : (BitVec.ofInt 64 0 ||| BitVec.ofInt 64 (n : Int)).toNat = n := by
    rw [BitVec.toNat_or, show (BitVec.ofInt 64 0).toNat = 0 from rfl, Nat.zero_or, BitVec.toNat_ofInt]
    omega
  rw [e, wrap64_self n (by omega)]
theorem or_none (x : Int) (h0 : 0 ≤ x) (h1 : x < 18446744073709551616) : bits .or .u64 x 0 = x := by
  obtain ⟨n, rfl⟩ := Int.eq_ofNat_of_zero_le h0
  show IntKind.u64.wrap ((BitVec.ofInt 64 (n : Int) ||| BitVec.ofInt 64 0).toNat : Nat) = _
  have e : (BitVec.ofInt 64 (n : Int) ||| BitVec.ofInt 64 0).toNat = n := by
    rw [BitVec.toNat_or, BitVec.toNat_ofInt, show (BitVec.ofInt 64 0).toNat = 0 from rfl, Nat.or_zero]
    omega
  rw [e, wrap64_self n (by omega)]

theorem cmov_c (b : Nat) (v0 c x y : Int) (hc0 : 0 ≤ c) (hc1 : c ≤ 1) (hx0 : 0 ≤ x) (hx1 : x < 18446744073709551616) (hy0 : 0 ≤ y) (hy1 : y < 18446744073709551616) (w : World)
    (hv : w.cell? ⟨b, 0, none⟩ = some (.int .u64 v0)) (hf : w.frozen? ⟨b, 0, none⟩ = false) :
    Calls Tryz.prog 98 #[.pointer (some ⟨b, 0, none⟩), .int .u64 c, .int .u64 x, .int .u64 y] w fun e w' => e = .returned (.tuple #[]) ∧ w' = w.setCell ⟨b, 0, none⟩ (.int .u64 (if c = 0 then x else y)) := by
  have hb := World.block_lt_of_cell? w _ hv
  have hc : c = 0 ∨ c = 1 := by omega
  rcases hc with rfl | rfl
  · have e1 := and_none y
    have e2 := and_full x hx0 hx1
    have e3 := and_full' x hx0 hx1
    rw [if_pos rfl]
    go_enter Tryz.func98, Tryz.ntmps98
    go_wp2
    go_end0
    rw [show bits .xor .u64 IntKind.u64.max 0 = 18446744073709551615 by decide, e2, e3]
    exact ⟨rfl, rfl⟩
  · have e1 := and_none x
    have e2 := and_full y hy0 hy1
    have e3 := or_none y hy0 hy1
    rw [if_neg (by decide)]
    go_enter Tryz.func98, Tryz.ntmps98
    go_wp2
    go_end0
    rw [show bits .xor .u64 IntKind.u64.max 18446744073709551615 = 0 by decide, e1, e3]
    exact ⟨rfl, rfl⟩


theorem cmovA (c x y : Int) (hc0 : 0 ≤ c) (hc1 : c ≤ 1) (hx0 : 0 ≤ x) (hx1 : x < 18446744073709551616) (hy0 : 0 ≤ y) (hy1 : y < 18446744073709551616) (w : World) :
    Calls Tryz.prog 98 #[.pointer (some ⟨w.heap.size, 0, none⟩), .int .u64 c, .int .u64 x, .int .u64 y] (w.alloc (.cells #[.int .u64 0] 38)) fun e w' => ∃ r : Int, e = .returned (.tuple #[]) ∧
      Upd w w' (fun _ _ => False) ∧ w'.cell? ⟨w.heap.size, 0, none⟩ = some (.int .u64 r) ∧ w'.heap.size = w.heap.size + 1 ∧ Hid (r = if c = 0 then x else y) ∧ 0 ≤ r ∧ r < 18446744073709551616 := by
  have hv : (w.alloc (.cells #[.int .u64 0] 38)).cell? ⟨w.heap.size, 0, none⟩ = some (.int .u64 0) := by simp
  refine (cmov_c w.heap.size 0 c x y hc0 hc1 hx0 hx1 hy0 hy1 _ hv (by simp)).mono ?_
  rintro e w' ⟨rfl, rfl⟩
  refine ⟨_, rfl, ((Upd.refl w _).alloc _).set (fun h => absurd h (by omega)) _, World.cell?_setCell_same _ _ _ hv, by simp, rfl, ?_, ?_⟩
  · split <;> assumption
  · split <;> assumption


theorem W4.drew {w : World} {b : Nat} {l0 l1 l2 l3 : Int} (h : W4 w b l0 l1 l2 l3) : W4 w.drew b l0 l1 l2 l3 := ⟨h.c0, h.c1, h.c2, h.c3, h.f0, h.f1, h.f2, h.f3⟩
theorem W4.set0 {w : World} {b : Nat} {l0 l1 l2 l3 : Int} (h : W4 w b l0 l1 l2 l3) (v : Int) : W4 (w.setCell ⟨b, 0, none⟩ (.int .u64 v)) b v l1 l2 l3 where
  c0 := World.cell?_setCell_same _ _ _ h.c0
  c1 := (World.cell?_setCell_other _ _ _ _ (by simp)).trans h.c1
  c2 := (World.cell?_setCell_other _ _ _ _ (by simp)).trans h.c2
  c3 := (World.cell?_setCell_other _ _ _ _ (by simp)).trans h.c3
  f0 := (World.frozen?_setCell _ _ _ _).trans h.f0
  f1 := (World.frozen?_setCell _ _ _ _).trans h.f1
  f2 := (World.frozen?_setCell _ _ _ _).trans h.f2
  f3 := (World.frozen?_setCell _ _ _ _).trans h.f3
theorem W4.set1 {w : World} {b : Nat} {l0 l1 l2 l3 : Int} (h : W4 w b l0 l1 l2 l3) (v : Int) : W4 (w.setCell ⟨b, 1, none⟩ (.int .u64 v)) b l0 v l2 l3 where
  c0 := (World.cell?_setCell_other _ _ _ _ (by simp)).trans h.c0
  c1 := World.cell?_setCell_same _ _ _ h.c1
  c2 := (World.cell?_setCell_other _ _ _ _ (by simp)).trans h.c2
  c3 := (World.cell?_setCell_other _ _ _ _ (by simp)).trans h.c3
  f0 := (World.frozen?_setCell _ _ _ _).trans h.f0
  f1 := (World.frozen?_setCell _ _ _ _).trans h.f1
  f2 := (World.frozen?_setCell _ _ _ _).trans h.f2
  f3 := (World.frozen?_setCell _ _ _ _).trans h.f3
theorem W4.set2 {w : World} {b : Nat} {l0 l1 l2 l3 : Int} (h : W4 w b l0 l1 l2 l3) (v : Int) : W4 (w.setCell ⟨b, 2, none⟩ (.int .u64 v)) b l0 l1 v l3 where
  c0 := (World.cell?_setCell_other _ _ _ _ (by simp)).trans h.c0
  c1 := (World.cell?_setCell_other _ _ _ _ (by simp)).trans h.c1
  c2 := World.cell?_setCell_same _ _ _ h.c2
  c3 := (World.cell?_setCell_other _ _ _ _ (by simp)).trans h.c3
  f0 := (World.frozen?_setCell _ _ _ _).trans h.f0
  f1 := (World.frozen?_setCell _ _ _ _).trans h.f1
  f2 := (World.frozen?_setCell _ _ _ _).trans h.f2
  f3 := (World.frozen?_setCell _ _ _ _).trans h.f3
theorem W4.set3 {w : World} {b : Nat} {l0 l1 l2 l3 : Int} (h : W4 w b l0 l1 l2 l3) (v : Int) : W4 (w.setCell ⟨b, 3, none⟩ (.int .u64 v)) b l0 l1 l2 v where
  c0 := (World.cell?_setCell_other _ _ _ _ (by simp)).trans h.c0
  c1 := (World.cell?_setCell_other _ _ _ _ (by simp)).trans h.c1
  c2 := (World.cell?_setCell_other _ _ _ _ (by simp)).trans h.c2
  c3 := World.cell?_setCell_same _ _ _ h.c3
  f0 := (World.frozen?_setCell _ _ _ _).trans h.f0
  f1 := (World.frozen?_setCell _ _ _ _).trans h.f1
  f2 := (World.frozen?_setCell _ _ _ _).trans h.f2
  f3 := (World.frozen?_setCell _ _ _ _).trans h.f3

theorem end_law {S r A m k : Int} (F : B4 * S = A + ell * m) (g : r = S + ell * k) : ∃ k, B4 * r = A + ell * k := ⟨m + B4 * k, by rw [g, Int.mul_add, F]; grind⟩

end Go.Proofs.YtkibnongmkhbaaaGreatDoor
end
