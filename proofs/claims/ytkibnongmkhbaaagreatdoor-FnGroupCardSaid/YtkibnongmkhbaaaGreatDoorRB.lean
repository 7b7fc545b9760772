/- Part of the proof that laws.FnGroup returns true for all 32 bytes p, q and x: the reference's constants, products, powers.
   Conditions: those that each theorem states. -/
import Derived.Deep.RegionHeld3
import Derived.IntWalk
import Derived.Test.YtkibnongmkhbaaaGreatDoorRA
import Derived.Test.YtkibnongmkhbaaaGreatDoorPA

section
open Go Go.RowKit
namespace Go.Proofs.YtkibnongmkhbaaaGreatDoor
open Ed

set_option maxRecDepth 100000 in
theorem small_c (n : Int) (h0 : 0 ≤ n) (h1 : n < 18446744073709551616) (w : World) : Calls Tryz.prog 36 #[.int .u64 n] w fun e w' => e = .returned (.agg (Na n)) ∧ Upd w w' (fun _ _ => False) := by
  have n1 := Nu.zero w 45
  have en : Na n = #[.int .u64 n, .int .u64 0, .int .u64 0, .int .u64 0] := by
    unfold Na NaL
    rw [show n % 18446744073709551616 = n by omega, show n / 18446744073709551616 % 18446744073709551616 = 0 by omega, show n / 340282366920938463463374607431768211456 % 18446744073709551616 = 0 by omega, show n / 6277101735386680763835789423207666416102355444464034512896 % 18446744073709551616 = 0 by omega]
  have He := Lib.hid en
  clear en
  go_enter Tryz.func36, Tryz.ntmps36
  go_wp2_with (first
    | (refine wpList_store45 rfl _ _ rfl _ _ n _ (by rfl) (by exact congrArg Value.agg He.out.symm) n1 ?_; intro w1 hU1 n2))
  exact bodyPost_ret (results_cell rfl (by rfl) (load45 n2)) rfl ⟨rfl, ((Upd.refl w _).alloc (Z4 45)).trans hU1 (fun b o hb h => absurd h.1 (by omega))⟩

def Pn : Int := 57896044618658097711785492504343953926634992332820282019728792003956564819949
def Dn : Int := 37095705934669439343138083508754565189542113879843219016388785533085940283555
theorem Na_P : Na Pn = #[.int .u64 18446744073709551597, .int .u64 18446744073709551615, .int .u64 18446744073709551615, .int .u64 9223372036854775807] := rfl
theorem Na_ell : Na ell = #[.int .u64 6346243789798364141, .int .u64 1503914060200516822, .int .u64 0, .int .u64 1152921504606846976] := rfl
theorem Na_D : Na Dn = #[.int .u64 8496970652267935907, .int .u64 31536524315187371, .int .u64 10144147576115030168, .int .u64 5909686906226998899] := rfl

set_option maxRecDepth 100000 in
theorem prime_c (w : World) : Calls Tryz.prog 34 #[] w fun e w' => e = .returned (.agg (Na Pn)) ∧ Upd w w' (fun _ _ => False) := by
  have n1 := Nu.zero w 45
  go_enter Tryz.func34, Tryz.ntmps34
  go_wp2_with (first
    | (refine wpList_store45 rfl _ _ rfl _ _ Pn _ (by rfl) (by exact congrArg Value.agg Na_P.symm) n1 ?_; intro w1 hU1 n2))
  exact bodyPost_ret (results_cell rfl (by rfl) (load45 n2)) rfl ⟨rfl, ((Upd.refl w _).alloc (Z4 45)).trans hU1 (fun b o hb h => absurd h.1 (by omega))⟩

set_option maxRecDepth 100000 in
theorem order_c (w : World) : Calls Tryz.prog 53 #[] w fun e w' => e = .returned (.agg (Na ell)) ∧ Upd w w' (fun _ _ => False) := by
  have n1 := Nu.zero w 45
  go_enter Tryz.func53, Tryz.ntmps53
  go_wp2_with (first
    | (refine wpList_store45 rfl _ _ rfl _ _ ell _ (by rfl) (by exact congrArg Value.agg Na_ell.symm) n1 ?_; intro w1 hU1 n2))
  exact bodyPost_ret (results_cell rfl (by rfl) (load45 n2)) rfl ⟨rfl, ((Upd.refl w _).alloc (Z4 45)).trans hU1 (fun b o hb h => absurd h.1 (by omega))⟩

set_option maxRecDepth 100000 in
theorem curve_c (w : World) : Calls Tryz.prog 38 #[] w fun e w' => e = .returned (.agg (Na Dn)) ∧ Upd w w' (fun _ _ => False) := by
  have n1 := Nu.zero w 45
  go_enter Tryz.func38, Tryz.ntmps38
  go_wp2_with (first
    | (refine wpList_store45 rfl _ _ rfl _ _ Dn _ (by rfl) (by exact congrArg Value.agg Na_D.symm) n1 ?_; intro w1 hU1 n2))
  exact bodyPost_ret (results_cell rfl (by rfl) (load45 n2)) rfl ⟨rfl, ((Upd.refl w _).alloc (Z4 45)).trans hU1 (fun b o hb h => absurd h.1 (by omega))⟩

theorem Na_mod {N M : Int} (k : Int) (h : N = M + 115792089237316195423570985008687907853269984665640564039457584007913129639936 * k) : Na N = Na M := by
  refine Na_congr fun i hi => ?_
  have : i = 0 ∨ i = 1 ∨ i = 2 ∨ i = 3 := by omega
  unfold wd
  rcases this with rfl | rfl | rfl | rfl
  · simp only [Int.reducePow]; omega
  · simp only [Int.reducePow]; omega
  · simp only [Int.reducePow]; omega
  · simp only [Int.reducePow]; omega

set_option maxRecDepth 100000 in
set_option maxHeartbeats 8000000 in
theorem plus_c (a b m : Int) (ha : 0 ≤ a) (ha1 : a < m) (hb : 0 ≤ b) (hb1 : b < m) (hm : m < 57896044618658097711785492504343953926634992332820282019728792003956564819968) (w : World) :
    Calls Tryz.prog 37 #[.agg (Na a), .agg (Na b), .agg (Na m)] w fun e w' => e = .returned (.agg (Na ((a + b) % m))) ∧ Upd w w' (fun _ _ => False) := by
  have A1 := (((((Upd.refl w (fun _ _ => False)).alloc (.cells (Na a) 45)).alloc (.cells (Na b) 45)).alloc (.cells (Na m) 45)).alloc (Z4 45))
  have n1 := ((Nu.boxed w a 45).keep ((((Upd.refl _ (fun _ _ => False)).alloc (.cells (Na b) 45)).alloc (.cells (Na m) 45)).alloc (Z4 45)) (fun _ _ h => h))
  have n2 := ((Nu.boxed (w.alloc (.cells (Na a) 45)) b 45).keep (((Upd.refl _ (fun _ _ => False)).alloc (.cells (Na m) 45)).alloc (Z4 45)) (fun _ _ h => h))
  have n3 := ((Nu.boxed ((w.alloc (.cells (Na a) 45)).alloc (.cells (Na b) 45)) m 45).keep ((Upd.refl _ (fun _ _ => False)).alloc (Z4 45)) (fun _ _ h => h))
  have n4 := Nu.zero (((w.alloc (.cells (Na a) 45)).alloc (.cells (Na b) 45)).alloc (.cells (Na m) 45)) 45
  simp only [World.size_alloc] at n1 n2 n3 n4
  go_enter Tryz.func37, Tryz.ntmps37
  go_wp2_with (first
    | (refine wpList_load45 rfl _ rfl _ _ (by rfl) _ n1 ?_)
    | (refine wpList_load45 rfl _ rfl _ _ (by rfl) _ n2 ?_))
  refine (sum_c a b _).mono ?_
  rintro e w1 ⟨rfl, hU1⟩
  have s1 := hU1.size
  simp only [World.size_alloc] at s1
  have B1 := hU1.alloc (Z4 45)
  have m3 := n3.keep B1 (fun _ _ h => h)
  have m4 := n4.keep B1 (fun _ _ h => h)
  have n5 := Nu.zero w1 45
  replace A1 := A1.trans B1 (fun _ _ _ h => h)
  clear n1 n2 n3 n4 hU1 B1
  go_wp2_with (first
    | (refine wpList_store45 rfl _ _ rfl _ _ (a + b) _ (by rfl) (by rfl) n5 ?_; intro w2 hU2 n6; have k3 := m3.keep hU2 (fun i hi h => absurd h.1 (by omega)))
    | (refine wpList_load45 rfl _ rfl _ _ (by rfl) _ n6 ?_)
    | (refine wpList_load45 rfl _ rfl _ _ (by rfl) _ k3 ?_))
  have m4 := m4.keep hU2 (fun i hi h => absurd h.1 (by omega))
  replace A1 := A1.trans hU2 (fun b o hb h => absurd h.1 (by omega))
  have s2 := hU2.size
  simp only [World.size_alloc] at s2
  clear n5 m3 hU2 k3
  refine (rest_c (a + b) m (by omega) (by omega) (by omega) (by omega) _).mono ?_
  rintro e w3 ⟨rfl, hU3⟩
  have s3 := hU3.size
  have n7 := Nu.zero w3 45
  have m4 := (m4.keep hU3 (fun _ _ h => h)).keep ((Upd.refl w3 (fun _ _ => False)).alloc (Z4 45)) (fun _ _ h => h)
  have m6 := (n6.keep hU3 (fun _ _ h => h)).keep ((Upd.refl w3 (fun _ _ => False)).alloc (Z4 45)) (fun _ _ h => h)
  replace A1 := (A1.trans hU3 (fun _ _ _ h => h)).alloc (Z4 45)
  clear n6 hU3
  by_cases hlt : a + b < m
  · have e1 : ltI (a + b) m = 1 := by unfold ltI; rw [if_pos hlt]
    have e2 : (a + b) % m = a + b := Int.emod_eq_of_lt (by omega) hlt
    have E2 := Lib.hid e2
    rw [e1]
    clear e1 e2
    go_wp2_with (first
      | (refine wpList_store45 rfl _ _ rfl _ _ (a + b - m) _ (by rfl) (by rfl) n7 ?_; intro w4 hU4 n8; have m4 := m4.keep hU4 (fun i hi h => absurd h.1 (by omega)); have m6 := m6.keep hU4 (fun i hi h => absurd h.1 (by omega)))
      | (refine wpList_load45 rfl _ rfl _ _ (by rfl) _ m6 ?_)
      | (refine wpList_store45 rfl _ _ rfl _ _ (a + b) _ (by rfl) (by rfl) m4 ?_; intro w5 hU5 n9))
    exact bodyPost_ret (results_cell rfl (by rfl) (load45 n9)) rfl ⟨by rw [E2.out], (A1.trans hU4 (fun b o hb h => absurd h.1 (by omega))).trans hU5 (fun b o hb h => absurd h.1 (by omega))⟩
  · have e1 : ltI (a + b) m = 0 := by unfold ltI; rw [if_neg hlt]
    have e2 : (a + b) % m = a + b - m := by
      rw [show a + b = (a + b - m) + m by omega, Int.add_emod_right, Int.emod_eq_of_lt (by omega) (by omega)]
      omega
    have E2 := Lib.hid e2
    rw [e1]
    clear e1 e2
    go_wp2_with (first
      | (refine wpList_store45 rfl _ _ rfl _ _ (a + b - m) _ (by rfl) (by rfl) n7 ?_; intro w4 hU4 n8; have m4 := m4.keep hU4 (fun i hi h => absurd h.1 (by omega)))
      | (refine wpList_load45 rfl _ rfl _ _ (by rfl) _ n8 ?_)
      | (refine wpList_store45 rfl _ _ rfl _ _ (a + b - m) _ (by rfl) (by rfl) m4 ?_; intro w5 hU5 n9))
    exact bodyPost_ret (results_cell rfl (by rfl) (load45 n9)) rfl ⟨by rw [E2.out], (A1.trans hU4 (fun b o hb h => absurd h.1 (by omega))).trans hU5 (fun b o hb h => absurd h.1 (by omega))⟩

set_option maxRecDepth 100000 in
set_option maxHeartbeats 8000000 in
theorem minus_c (a b m : Int) (ha : 0 ≤ a) (ha1 : a < m) (hb : 0 ≤ b) (hb1 : b < m) (hm : m < 57896044618658097711785492504343953926634992332820282019728792003956564819968) (w : World) :
    Calls Tryz.prog 35 #[.agg (Na a), .agg (Na b), .agg (Na m)] w fun e w' => e = .returned (.agg (Na ((a - b) % m))) ∧ Upd w w' (fun _ _ => False) := by
  have A1 := (((((Upd.refl w (fun _ _ => False)).alloc (.cells (Na a) 45)).alloc (.cells (Na b) 45)).alloc (.cells (Na m) 45)).alloc (Z4 45))
  have n1 := ((Nu.boxed w a 45).keep ((((Upd.refl _ (fun _ _ => False)).alloc (.cells (Na b) 45)).alloc (.cells (Na m) 45)).alloc (Z4 45)) (fun _ _ h => h))
  have n2 := ((Nu.boxed (w.alloc (.cells (Na a) 45)) b 45).keep (((Upd.refl _ (fun _ _ => False)).alloc (.cells (Na m) 45)).alloc (Z4 45)) (fun _ _ h => h))
  have n3 := ((Nu.boxed ((w.alloc (.cells (Na a) 45)).alloc (.cells (Na b) 45)) m 45).keep ((Upd.refl _ (fun _ _ => False)).alloc (Z4 45)) (fun _ _ h => h))
  have n4 := Nu.zero (((w.alloc (.cells (Na a) 45)).alloc (.cells (Na b) 45)).alloc (.cells (Na m) 45)) 45
  simp only [World.size_alloc] at n1 n2 n3 n4
  go_enter Tryz.func35, Tryz.ntmps35
  go_wp2_with (first
    | (refine wpList_load45 rfl _ rfl _ _ (by rfl) _ n1 ?_)
    | (refine wpList_load45 rfl _ rfl _ _ (by rfl) _ n2 ?_))
  refine (rest_c a b (by omega) (by omega) (by omega) (by omega) _).mono ?_
  rintro e w1 ⟨rfl, hU1⟩
  have s1 := hU1.size
  simp only [World.size_alloc] at s1
  have B1 := hU1.alloc (Z4 45)
  have m3 := n3.keep B1 (fun _ _ h => h)
  have m4 := n4.keep B1 (fun _ _ h => h)
  have n5 := Nu.zero w1 45
  replace A1 := A1.trans B1 (fun _ _ _ h => h)
  clear n1 n2 n3 n4 hU1 B1
  by_cases hlt : a < b
  · have e1 : ltI a b = 1 := by unfold ltI; rw [if_pos hlt]
    have e2 : (a - b) % m = a - b + m := by
      rw [← Int.add_emod_right, Int.emod_eq_of_lt (by omega) (by omega)]
    have E2 := Lib.hid e2
    rw [e1]
    clear e1 e2
    go_wp2_with (first
      | (refine wpList_store45 rfl _ _ rfl _ _ (a - b) _ (by rfl) (by rfl) n5 ?_; intro w4 hU4 n8; have m4 := m4.keep hU4 (fun i hi h => absurd h.1 (by omega)); have m3 := m3.keep hU4 (fun i hi h => absurd h.1 (by omega)))
      | (refine wpList_load45 rfl _ rfl _ _ (by rfl) _ n8 ?_)
      | (refine wpList_load45 rfl _ rfl _ _ (by rfl) _ m3 ?_))
    have s4 := hU4.size
    simp only [World.size_alloc] at s4
    refine (sum_c (a - b) m _).mono ?_
    rintro e w5 ⟨rfl, hU5⟩
    have m4 := m4.keep hU5 (fun _ _ h => h)
    replace A1 := (A1.trans hU4 (fun b o hb h => absurd h.1 (by omega))).trans hU5 (fun _ _ _ h => h)
    clear m3 n8 hU5
    go_wp2_with (first
      | (refine wpList_store45 rfl _ _ rfl _ _ (a - b + m) _ (by rfl) (by rfl) m4 ?_; intro w6 hU6 n9))
    exact bodyPost_ret (results_cell rfl (by rfl) (load45 n9)) rfl ⟨by rw [E2.out], A1.trans hU6 (fun b o hb h => absurd h.1 (by omega))⟩
  · have e1 : ltI a b = 0 := by unfold ltI; rw [if_neg hlt]
    have e2 : (a - b) % m = a - b := Int.emod_eq_of_lt (by omega) (by omega)
    have E2 := Lib.hid e2
    rw [e1]
    clear e1 e2
    go_wp2_with (first
      | (refine wpList_store45 rfl _ _ rfl _ _ (a - b) _ (by rfl) (by rfl) n5 ?_; intro w4 hU4 n8; have m4 := m4.keep hU4 (fun i hi h => absurd h.1 (by omega)))
      | (refine wpList_load45 rfl _ rfl _ _ (by rfl) _ n8 ?_)
      | (refine wpList_store45 rfl _ _ rfl _ _ (a - b) _ (by rfl) (by rfl) m4 ?_; intro w5 hU5 n9))
    exact bodyPost_ret (results_cell rfl (by rfl) (load45 n9)) rfl ⟨by rw [E2.out], (A1.trans hU4 (fun b o hb h => absurd h.1 (by omega))).trans hU5 (fun b o hb h => absurd h.1 (by omega))⟩

/-- bit i of N -/
def bt (N : Int) (i : Nat) : Bool := N / 2 ^ i % 2 == 1

theorem bit_low (x : Int) (r : Nat) (hr : r < 64) : x % 18446744073709551616 / 2 ^ r % 2 = x / 2 ^ r % 2 := by
  have hp : (2 : Int) ^ r ≠ 0 := Int.ne_of_gt (Int.pow_pos (by decide))
  have e : (18446744073709551616 : Int) = 2 ^ r * (2 * 2 ^ (63 - r)) := by
    have h1 : (18446744073709551616 : Int) = 2 ^ 64 := by decide
    rw [h1, show (64 : Nat) = r + (1 + (63 - r)) by omega, Int.pow_add, Int.pow_add]
    rfl
  have h := Int.mul_ediv_add_emod x 18446744073709551616
  have e2 : x % 18446744073709551616 = x + 2 ^ r * (2 * (-(2 ^ (63 - r) * (x / 18446744073709551616)))) := by
    rw [e] at h ⊢
    generalize x / (2 ^ r * (2 * 2 ^ (63 - r))) = t at *
    generalize (2 : Int) ^ r = p at *
    generalize (2 : Int) ^ (63 - r) = s at *
    grind
  rw [e2, Int.add_mul_ediv_left _ _ hp]
  omega
theorem bt_wd (N : Int) (i : Nat) (_ : i < 256) : bt N i = (wd N (i / 64) / 2 ^ (i % 64) % 2 == 1) := by
  unfold bt wd
  rw [bit_low _ _ (by omega)]
  have e : (18446744073709551616 : Int) ^ (i / 64) = 2 ^ (64 * (i / 64)) := by rw [Int.pow_mul]; rfl
  rw [e, Int.ediv_ediv_of_nonneg (Int.le_of_lt (Int.pow_pos (by decide))), ← Int.pow_add, show 64 * (i / 64) + i % 64 = i by omega]

set_option maxRecDepth 100000 in
theorem bit_c (N : Int) (i : Nat) (hi : i < 256) (w : World) : Calls Tryz.prog 54 #[.agg (Na N), .int .i64 i] w fun e w' => e = .returned (.bool (bt N i)) ∧ Upd w w' (fun _ _ => False) := by
  have n1 := (Nu.boxed w N 45).nw
  have q0 : (0 : Int) ≤ (i : Int) := by omega
  have q1 : (i : Int) < 256 := by omega
  have q2 : ((i : Int).tdiv 64) = ((i / 64 : Nat) : Int) := rfl
  have q3 : ((i : Int).tmod 64) = ((i % 64 : Nat) : Int) := rfl
  obtain ⟨c, -⟩ := n1 (i / 64) (by omega)
  obtain ⟨r1, r2⟩ := wd_rng N (i / 64)
  go_enter Tryz.func54, Tryz.ntmps54
  go_wp2
  go_ret
  refine ⟨?_, (Upd.refl w _).alloc _⟩
  rw [bt_wd N i hi]
  rfl

end Go.Proofs.YtkibnongmkhbaaaGreatDoor
end

section
open Go Go.RowKit
namespace Go.Proofs.YtkibnongmkhbaaaGreatDoor
open Ed

theorem div2_step (b : Int) (j : Nat) : b / 2 ^ j = 2 * (b / 2 ^ (j + 1)) + b / 2 ^ j % 2 := by
  have e : b / 2 ^ (j + 1) = b / 2 ^ j / 2 := by rw [Int.pow_succ, Int.ediv_ediv_of_nonneg (Int.le_of_lt (Int.pow_pos (by decide)))]
  rw [e]
  omega
theorem bt_true {b : Int} {j : Nat} (h : bt b j = true) : b / 2 ^ j % 2 = 1 := by unfold bt at h; simpa using h
theorem bt_false {b : Int} {j : Nat} (h : bt b j = false) : b / 2 ^ j % 2 = 0 := by unfold bt at h; simp at h; omega

def TimesRel (w : World) (ob : Nat) (a b m : Int) (i : Value) (wr : World) : Prop :=
  ∃ k : Nat, k ≤ 256 ∧ i = .int .i64 ((k : Int) - 1) ∧ Upd w wr (fun x _ => x = ob) ∧ Nu wr ob 0 (a * (b / 2 ^ k) % m)

theorem times_dbl (a q m : Int) : (a * q % m + a * q % m) % m = a * (2 * q) % m := by
  rw [← Int.add_emod]; congr 1; grind
theorem times_one (a q m : Int) : (a * (2 * q) % m + a) % m = a * (2 * q + 1) % m := by
  rw [Int.emod_add_emod]; congr 1; grind

set_option maxRecDepth 100000 in
set_option maxHeartbeats 8000000 in
theorem times_c (a b m : Int) (ha : 0 ≤ a) (ha1 : a < m) (hb : 0 ≤ b) (hb1 : b < 115792089237316195423570985008687907853269984665640564039457584007913129639936) (hm : m < 57896044618658097711785492504343953926634992332820282019728792003956564819968) (w : World) :
    Calls Tryz.prog 33 #[.agg (Na a), .agg (Na b), .agg (Na m)] w fun e w' => e = .returned (.agg (Na (a * b % m))) ∧ Upd w w' (fun _ _ => False) := by
  have A1 := ((((((Upd.refl w (fun _ _ => False)).alloc (.cells (Na a) 45)).alloc (.cells (Na b) 45)).alloc (.cells (Na m) 45)).alloc (Z4 45)).alloc (Z4 45))
  have n1 := ((Nu.boxed w a 45).keep (((((Upd.refl _ (fun _ _ => False)).alloc (.cells (Na b) 45)).alloc (.cells (Na m) 45)).alloc (Z4 45)).alloc (Z4 45)) (fun _ _ h => h))
  have n2 := ((Nu.boxed (w.alloc (.cells (Na a) 45)) b 45).keep ((((Upd.refl _ (fun _ _ => False)).alloc (.cells (Na m) 45)).alloc (Z4 45)).alloc (Z4 45)) (fun _ _ h => h))
  have n3 := ((Nu.boxed ((w.alloc (.cells (Na a) 45)).alloc (.cells (Na b) 45)) m 45).keep (((Upd.refl _ (fun _ _ => False)).alloc (Z4 45)).alloc (Z4 45)) (fun _ _ h => h))
  have n4 := (Nu.zero (((w.alloc (.cells (Na a) 45)).alloc (.cells (Na b) 45)).alloc (.cells (Na m) 45)) 45).keep ((Upd.refl _ (fun _ _ => False)).alloc (Z4 45)) (fun _ _ h => h)
  have n5 := Nu.zero ((((w.alloc (.cells (Na a) 45)).alloc (.cells (Na b) 45)).alloc (.cells (Na m) 45)).alloc (Z4 45)) 45
  simp only [World.size_alloc] at n1 n2 n3 n4 n5
  go_enter Tryz.func33, Tryz.ntmps33
  go_wp2_with (first
    | (refine wpList_store45 rfl _ _ rfl _ _ 0 _ (by rfl) (by rfl) n5 ?_; intro w1 hU1 p5))
  replace n1 := n1.keep hU1 (fun i hi h => absurd h.1 (by omega))
  replace n2 := n2.keep hU1 (fun i hi h => absurd h.1 (by omega))
  replace n3 := n3.keep hU1 (fun i hi h => absurd h.1 (by omega))
  replace n4 := n4.keep hU1 (fun i hi h => absurd h.1 (by omega))
  replace A1 := A1.trans hU1 (fun b o hb h => absurd h.1 (by omega))
  have s1 := p5.lt
  clear hU1 n5
  go_loopw [8] (fun i wr => TimesRel w1 (w.heap.size + 1 + 1 + 1 + 1) a b m i wr) (fun i _ => (intOf i + 1).toNat)
  case atStart =>
    refine ⟨256, by omega, rfl, Upd.refl _ _, ?_⟩
    have e : b / 2 ^ 256 = 0 := by simp only [Int.reducePow]; omega
    rw [e, Int.mul_zero, Int.zero_emod]
    exact p5
  case round =>
    clear p5
    obtain ⟨k, hk, rfl, hU, p5⟩ := hrel
    replace n1 := n1.keep hU (fun i hi h => by omega)
    replace n2 := n2.keep hU (fun i hi h => by omega)
    replace n3 := n3.keep hU (fun i hi h => by omega)
    replace n4 := n4.keep hU (fun i hi h => by omega)
    have s2 := hU.size
    by_cases hlt : k = 0
    · subst hlt
      rw [Int.pow_zero, Int.ediv_one] at p5
      go_wp2_with (first
        | (refine wpList_load45 rfl _ rfl _ _ (by rfl) _ p5 ?_)
        | (refine wpList_store45 rfl _ _ rfl _ _ (a * b % m) _ (by rfl) (by rfl) n4 ?_; intro w2 hU2 n6))
      exact bodyPost_ret (results_cell rfl (by rfl) (load45 n6)) rfl ⟨rfl, (A1.trans hU (fun b o hb h => by omega)).trans hU2 (fun b o hb h => absurd h.1 (by omega))⟩
    · obtain ⟨j, rfl⟩ : ∃ j, k = j + 1 := ⟨k - 1, by omega⟩
      rw [show ((j + 1 : Nat) : Int) - 1 = (j : Int) by omega]
      have hm0 : 0 < m := by omega
      obtain ⟨q, eq⟩ : ∃ q, q = b / 2 ^ (j + 1) := ⟨_, rfl⟩
      have hst := div2_step b j
      rw [← eq] at p5 hst
      clear eq
      have r1 := Int.emod_nonneg (a * q) (Int.ne_of_gt hm0)
      have r2 := Int.emod_lt_of_pos (a * q) hm0
      have r3 := Int.emod_nonneg (a * (2 * q)) (Int.ne_of_gt hm0)
      have r4 := Int.emod_lt_of_pos (a * (2 * q)) hm0
      have HS := Lib.hid hst
      clear hst
      have hj0 : (0 : Int) ≤ (j : Int) := by omega
      go_wp2_with (first
        | (refine wpList_load45 rfl _ rfl _ _ (by rfl) _ p5 ?_)
        | (refine wpList_load45 rfl _ rfl _ _ (by rfl) _ n3 ?_))
      refine (plus_c (a * q % m) (a * q % m) m r1 r2 r1 r2 hm _).mono ?_
      rintro e w3 ⟨rfl, hU3⟩
      rw [times_dbl]
      have s3 := hU3.size
      replace n1 := n1.keep hU3 (fun _ _ h => h)
      replace n2 := n2.keep hU3 (fun _ _ h => h)
      replace n3 := n3.keep hU3 (fun _ _ h => h)
      replace p5 := p5.keep hU3 (fun _ _ h => h)
      replace hU := hU.trans hU3 (fun _ _ _ h => h.elim)
      clear hU3 r1 r2 n4
      go_wp2_with (first
        | (refine wpList_store45 rfl _ _ rfl _ _ (a * (2 * q) % m) _ (by rfl) (by rfl) p5 ?_; intro w4 hU4 p6; have k2 := n2.keep hU4 (fun i hi h => absurd h.1 (by omega)))
        | (refine wpList_load45 rfl _ rfl _ _ (by rfl) _ k2 ?_))
      have s4 := hU4.size
      refine (bit_c b j (by omega) _).mono ?_
      rintro e w5 ⟨rfl, hU5⟩
      have s5 := hU5.size
      replace n1 := (n1.keep hU4 (fun i hi h => absurd h.1 (by omega))).keep hU5 (fun _ _ h => h)
      replace n3 := (n3.keep hU4 (fun i hi h => absurd h.1 (by omega))).keep hU5 (fun _ _ h => h)
      replace p6 := p6.keep hU5 (fun _ _ h => h)
      replace hU := (hU.trans hU4 (fun _ _ _ h => h.1)).trans hU5 (fun _ _ _ h => h.elim)
      clear hU4 hU5 n2 k2 p5
      cases hbt : bt b j
      · have hb0 := bt_false hbt
        have hq : b / 2 ^ j = 2 * q := by have := HS.out; omega
        have HQ := Lib.hid hq
        clear hb0 hq hbt
        go_wp2
        exact ⟨⟨j, by omega, by go_num, hU, by rw [HQ.out]; exact p6⟩, by simp [intOf]⟩
      · have hb0 := bt_true hbt
        have hq : b / 2 ^ j = 2 * q + 1 := by have := HS.out; omega
        have HQ := Lib.hid hq
        clear hb0 hq hbt
        go_wp2_with (first
          | (refine wpList_load45 rfl _ rfl _ _ (by rfl) _ p6 ?_)
          | (refine wpList_load45 rfl _ rfl _ _ (by rfl) _ n1 ?_)
          | (refine wpList_load45 rfl _ rfl _ _ (by rfl) _ n3 ?_))
        refine (plus_c (a * (2 * q) % m) a m r3 r4 ha ha1 hm _).mono ?_
        rintro e w6 ⟨rfl, hU6⟩
        rw [times_one]
        replace p6 := p6.keep hU6 (fun _ _ h => h)
        replace hU := hU.trans hU6 (fun _ _ _ h => h.elim)
        clear hU6 n1 n3
        go_wp2_with (first
          | (refine wpList_store45 rfl _ _ rfl _ _ (a * (2 * q + 1) % m) _ (by rfl) (by rfl) p6 ?_; intro w7 hU7 p7))
        exact ⟨⟨j, by omega, by go_num, hU.trans hU7 (fun _ _ _ h => h.1), by rw [HQ.out]; exact p7⟩, by simp [intOf]⟩

end Go.Proofs.YtkibnongmkhbaaaGreatDoor
end

section
open Go Go.RowKit
namespace Go.Proofs.YtkibnongmkhbaaaGreatDoor
open Ed

def PowRel (w : World) (ob : Nat) (a : Int) (b : Nat) (m : Int) (i : Value) (wr : World) : Prop :=
  ∃ k : Nat, k ≤ 256 ∧ i = .int .i64 ((k : Int) - 1) ∧ Upd w wr (fun x _ => x = ob) ∧ Nu wr ob 0 (a ^ (b / 2 ^ k) % m)

theorem pow_dbl (a : Int) (q : Nat) (m : Int) : (a ^ q % m) * (a ^ q % m) % m = a ^ (2 * q) % m := by
  rw [← Int.mul_emod, ← Int.pow_add]; congr 2; omega
theorem pow_one (a : Int) (q : Nat) (m : Int) : (a ^ (2 * q) % m) * a % m = a ^ (2 * q + 1) % m := by
  rw [Int.pow_succ, Int.mul_emod, Int.emod_emod, ← Int.mul_emod]
theorem nat_bit (b : Nat) (j : Nat) : ((b / 2 ^ j : Nat) : Int) = (b : Int) / 2 ^ j := by rw [Int.natCast_ediv, Int.natCast_pow]; rfl
theorem div2_nat (b j : Nat) : b / 2 ^ j = 2 * (b / 2 ^ (j + 1)) + b / 2 ^ j % 2 := by
  rw [Nat.pow_succ, ← Nat.div_div_eq_div_mul]; omega

set_option maxRecDepth 100000 in
set_option maxHeartbeats 8000000 in
theorem power_c (a : Int) (b : Nat) (m : Int) (ha : 0 ≤ a) (ha1 : a < m) (hm1 : 1 < m) (hb1 : b < 115792089237316195423570985008687907853269984665640564039457584007913129639936) (hm : m < 57896044618658097711785492504343953926634992332820282019728792003956564819968) (w : World) :
    Calls Tryz.prog 73 #[.agg (Na a), .agg (Na (b : Int)), .agg (Na m)] w fun e w' => e = .returned (.agg (Na (a ^ b % m))) ∧ Upd w w' (fun _ _ => False) := by
  have A1 := (((((Upd.refl w (fun _ _ => False)).alloc (.cells (Na a) 45)).alloc (.cells (Na (b : Int)) 45)).alloc (.cells (Na m) 45)).alloc (Z4 45))
  have n1 := ((Nu.boxed w a 45).keep ((((Upd.refl _ (fun _ _ => False)).alloc (.cells (Na (b : Int)) 45)).alloc (.cells (Na m) 45)).alloc (Z4 45)) (fun _ _ h => h))
  have n2 := ((Nu.boxed (w.alloc (.cells (Na a) 45)) (b : Int) 45).keep (((Upd.refl _ (fun _ _ => False)).alloc (.cells (Na m) 45)).alloc (Z4 45)) (fun _ _ h => h))
  have n3 := ((Nu.boxed ((w.alloc (.cells (Na a) 45)).alloc (.cells (Na (b : Int)) 45)) m 45).keep ((Upd.refl _ (fun _ _ => False)).alloc (Z4 45)) (fun _ _ h => h))
  have n4 := Nu.zero (((w.alloc (.cells (Na a) 45)).alloc (.cells (Na (b : Int)) 45)).alloc (.cells (Na m) 45)) 45
  simp only [World.size_alloc] at n1 n2 n3 n4
  go_enter Tryz.func73, Tryz.ntmps73
  go_wp2_with fail
  refine (small_c 1 (by decide) (by decide) _).mono ?_
  rintro e w0 ⟨rfl, hU0⟩
  have s0 := hU0.size
  simp only [World.size_alloc] at s0
  have B0 := hU0.alloc (Z4 45)
  replace n1 := n1.keep B0 (fun _ _ h => h)
  replace n2 := n2.keep B0 (fun _ _ h => h)
  replace n3 := n3.keep B0 (fun _ _ h => h)
  replace n4 := n4.keep B0 (fun _ _ h => h)
  replace A1 := A1.trans B0 (fun _ _ _ h => h)
  have n5 := Nu.zero w0 45
  clear hU0 B0
  go_wp2_with (first
    | (refine wpList_store45 rfl _ _ rfl _ _ 1 _ (by rfl) (by rfl) n5 ?_; intro w1 hU1 p5))
  replace n1 := n1.keep hU1 (fun i hi h => absurd h.1 (by omega))
  replace n2 := n2.keep hU1 (fun i hi h => absurd h.1 (by omega))
  replace n3 := n3.keep hU1 (fun i hi h => absurd h.1 (by omega))
  replace n4 := n4.keep hU1 (fun i hi h => absurd h.1 (by omega))
  replace A1 := A1.trans hU1 (fun b o hb h => absurd h.1 (by omega))
  have s1 := p5.lt
  clear hU1 n5
  go_loopw [8] (fun i wr => PowRel w1 w0.heap.size a b m i wr) (fun i _ => (intOf i + 1).toNat)
  case atStart =>
    refine ⟨256, by omega, rfl, Upd.refl _ _, ?_⟩
    have e : b / 2 ^ 256 = 0 := Nat.div_eq_of_lt hb1
    rw [e, Int.pow_zero, Int.emod_eq_of_lt (by decide) hm1]
    exact p5
  case round =>
    clear p5
    obtain ⟨k, hk, rfl, hU, p5⟩ := hrel
    replace n1 := n1.keep hU (fun i hi h => by omega)
    replace n2 := n2.keep hU (fun i hi h => by omega)
    replace n3 := n3.keep hU (fun i hi h => by omega)
    replace n4 := n4.keep hU (fun i hi h => by omega)
    have s2 := hU.size
    by_cases hlt : k = 0
    · subst hlt
      rw [Nat.pow_zero, Nat.div_one] at p5
      go_wp2_with (first
        | (refine wpList_load45 rfl _ rfl _ _ (by rfl) _ p5 ?_)
        | (refine wpList_store45 rfl _ _ rfl _ _ (a ^ b % m) _ (by rfl) (by rfl) n4 ?_; intro w2 hU2 n6))
      exact bodyPost_ret (results_cell rfl (by rfl) (load45 n6)) rfl ⟨rfl, (A1.trans hU (fun b o hb h => by omega)).trans hU2 (fun b o hb h => absurd h.1 (by omega))⟩
    · obtain ⟨j, rfl⟩ : ∃ j, k = j + 1 := ⟨k - 1, by omega⟩
      rw [show ((j + 1 : Nat) : Int) - 1 = (j : Int) by omega]
      have hm0 : 0 < m := by omega
      obtain ⟨q, eq⟩ : ∃ q, q = b / 2 ^ (j + 1) := ⟨_, rfl⟩
      have hst := div2_nat b j
      rw [← eq] at p5 hst
      clear eq
      have r1 := Int.emod_nonneg (a ^ q) (Int.ne_of_gt hm0)
      have r2 := Int.emod_lt_of_pos (a ^ q) hm0
      have r3 := Int.emod_nonneg (a ^ (2 * q)) (Int.ne_of_gt hm0)
      have r4 := Int.emod_lt_of_pos (a ^ (2 * q)) hm0
      have HS := Lib.hid hst
      clear hst
      have hj0 : (0 : Int) ≤ (j : Int) := by omega
      go_wp2_with (first
        | (refine wpList_load45 rfl _ rfl _ _ (by rfl) _ p5 ?_)
        | (refine wpList_load45 rfl _ rfl _ _ (by rfl) _ n3 ?_))
      refine (times_c (a ^ q % m) (a ^ q % m) m r1 r2 r1 (by omega) hm _).mono ?_
      rintro e w3 ⟨rfl, hU3⟩
      rw [pow_dbl]
      have s3 := hU3.size
      replace n1 := n1.keep hU3 (fun _ _ h => h)
      replace n2 := n2.keep hU3 (fun _ _ h => h)
      replace n3 := n3.keep hU3 (fun _ _ h => h)
      replace p5 := p5.keep hU3 (fun _ _ h => h)
      replace hU := hU.trans hU3 (fun _ _ _ h => h.elim)
      clear hU3 r1 r2 n4
      go_wp2_with (first
        | (refine wpList_store45 rfl _ _ rfl _ _ (a ^ (2 * q) % m) _ (by rfl) (by rfl) p5 ?_; intro w4 hU4 p6; have k2 := n2.keep hU4 (fun i hi h => absurd h.1 (by omega)))
        | (refine wpList_load45 rfl _ rfl _ _ (by rfl) _ k2 ?_))
      have s4 := hU4.size
      refine (bit_c (b : Int) j (by omega) _).mono ?_
      rintro e w5 ⟨rfl, hU5⟩
      have s5 := hU5.size
      replace n1 := (n1.keep hU4 (fun i hi h => absurd h.1 (by omega))).keep hU5 (fun _ _ h => h)
      replace n3 := (n3.keep hU4 (fun i hi h => absurd h.1 (by omega))).keep hU5 (fun _ _ h => h)
      replace p6 := p6.keep hU5 (fun _ _ h => h)
      replace hU := (hU.trans hU4 (fun _ _ _ h => h.1)).trans hU5 (fun _ _ _ h => h.elim)
      clear hU4 hU5 n2 k2 p5
      cases hbt : bt (b : Int) j
      · have hb0 := bt_false hbt
        rw [← nat_bit] at hb0
        have hq : b / 2 ^ j = 2 * q := by have := HS.out; omega
        have HQ := Lib.hid hq
        clear hb0 hq hbt
        go_wp2
        exact ⟨⟨j, by omega, by go_num, hU, by rw [HQ.out]; exact p6⟩, by simp [intOf]⟩
      · have hb0 := bt_true hbt
        rw [← nat_bit] at hb0
        have hq : b / 2 ^ j = 2 * q + 1 := by have := HS.out; omega
        have HQ := Lib.hid hq
        clear hb0 hq hbt
        go_wp2_with (first
          | (refine wpList_load45 rfl _ rfl _ _ (by rfl) _ p6 ?_)
          | (refine wpList_load45 rfl _ rfl _ _ (by rfl) _ n1 ?_)
          | (refine wpList_load45 rfl _ rfl _ _ (by rfl) _ n3 ?_))
        refine (times_c (a ^ (2 * q) % m) a m r3 r4 ha (by omega) hm _).mono ?_
        rintro e w6 ⟨rfl, hU6⟩
        rw [pow_one]
        replace p6 := p6.keep hU6 (fun _ _ h => h)
        replace hU := hU.trans hU6 (fun _ _ _ h => h.elim)
        clear hU6 n1 n3
        go_wp2_with (first
          | (refine wpList_store45 rfl _ _ rfl _ _ (a ^ (2 * q + 1) % m) _ (by rfl) (by rfl) p6 ?_; intro w7 hU7 p7))
        exact ⟨⟨j, by omega, by go_num, hU.trans hU7 (fun _ _ _ h => h.1), by rw [HQ.out]; exact p7⟩, by simp [intOf]⟩


end Go.Proofs.YtkibnongmkhbaaaGreatDoor
end
