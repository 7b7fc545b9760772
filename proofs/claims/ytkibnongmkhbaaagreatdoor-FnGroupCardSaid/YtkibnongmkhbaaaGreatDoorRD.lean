/- Part of the proof that laws.FnGroup returns true for all 32 bytes p, q and x: the reference's reduced, scalar, inverse, element.
   Conditions: those that each theorem states. -/
import Derived.IntWalk
import Derived.Test.YtkibnongmkhbaaaGreatDoorQB
import Derived.Deep.RegionHeld3
import Derived.Test.YtkibnongmkhbaaaGreatDoorRC
import Derived.Test.YtkibnongmkhbaaaGreatDoorSE

section
open Go Go.RowKit
namespace Go.Proofs.YtkibnongmkhbaaaGreatDoor
open Ed

@[go_sem] theorem and1u8 (x : Int) : bits .and .u8 x 1 = x % 2 := by
  have key : (BitVec.ofInt 8 x &&& BitVec.ofInt 8 1).toNat = (x % ((2 ^ 8 : Nat) : Int)).toNat % 2 := by
    rw [BitVec.toNat_and, show (BitVec.ofInt 8 1).toNat = 2 ^ 1 - 1 from rfl, Nat.and_two_pow_sub_one_eq_mod, BitVec.toNat_ofInt]
  show IntKind.u8.wrap ((BitVec.ofInt 8 x &&& BitVec.ofInt 8 1).toNat : Nat) = _
  rw [key]
  simp [IntKind.wrap, IntKind.bits, IntKind.signed]
  omega
@[go_sem] theorem and127 (x : Int) : bits .and .u8 x 127 = x % 128 := by
  have key : (BitVec.ofInt 8 x &&& BitVec.ofInt 8 127).toNat = (x % ((2 ^ 8 : Nat) : Int)).toNat % 128 := by
    rw [BitVec.toNat_and, show (BitVec.ofInt 8 127).toNat = 2 ^ 7 - 1 from rfl, Nat.and_two_pow_sub_one_eq_mod, BitVec.toNat_ofInt]
  show IntKind.u8.wrap ((BitVec.ofInt 8 x &&& BitVec.ofInt 8 127).toNat : Nat) = _
  rw [key]
  simp [IntKind.wrap, IntKind.bits, IntKind.signed]
  omega

theorem Nu.cells {w : World} {b : Nat} {N : Int} (h : Nu w b 0 N) : (w.cell? ⟨b, 0, none⟩ = some (.int .u64 (N % 18446744073709551616)) ∧ w.cell? ⟨b, 1, none⟩ = some (.int .u64 (N / 18446744073709551616 % 18446744073709551616)) ∧ w.cell? ⟨b, 2, none⟩ = some (.int .u64 (N / 340282366920938463463374607431768211456 % 18446744073709551616)) ∧ w.cell? ⟨b, 3, none⟩ = some (.int .u64 (N / 6277101735386680763835789423207666416102355444464034512896 % 18446744073709551616))) := by
  have h0 := (h 0 (by decide)).1; have h1 := (h 1 (by decide)).1; have h2 := (h 2 (by decide)).1; have h3 := (h 3 (by decide)).1
  unfold wd at h0 h1 h2 h3
  simp only [Int.reducePow, Int.ediv_one, Nat.zero_add] at h0 h1 h2 h3
  exact ⟨h0, h1, h2, h3⟩

theorem Nu.froz {w : World} {b : Nat} {N : Int} (h : Nu w b 0 N) : w.frozen? ⟨b, 0, none⟩ = false ∧ w.frozen? ⟨b, 1, none⟩ = false ∧ w.frozen? ⟨b, 2, none⟩ = false ∧ w.frozen? ⟨b, 3, none⟩ = false := by
  have h0 := (h 0 (by decide)).2; have h1 := (h 1 (by decide)).2; have h2 := (h 2 (by decide)).2; have h3 := (h 3 (by decide)).2
  simp only [Nat.zero_add] at h0 h1 h2 h3
  exact ⟨h0, h1, h2, h3⟩
theorem Na_words (X : Int) : ∃ r0 r1 r2 r3 : Int, Na X = #[.int .u64 r0, .int .u64 r1, .int .u64 r2, .int .u64 r3] ∧ Hid (r0 = wd X 0 ∧ r1 = wd X 1 ∧ r2 = wd X 2 ∧ r3 = wd X 3) :=
  ⟨_, _, _, _, rfl, show _ ∧ _ by simp [wd]⟩
theorem words_c {f : FuncId} {args : Array Value} {w : World} {X : Int} (h : Calls Tryz.prog f args w fun e w' => e = .returned (.agg (Na X)) ∧ Upd w w' (fun _ _ => False)) :
    Calls Tryz.prog f args w fun e w' => ∃ r0 r1 r2 r3 : Int, e = .returned (.agg #[.int .u64 r0, .int .u64 r1, .int .u64 r2, .int .u64 r3]) ∧ Upd w w' (fun _ _ => False) ∧ Hid (r0 = wd X 0 ∧ r1 = wd X 1 ∧ r2 = wd X 2 ∧ r3 = wd X 3) := by
  obtain ⟨r0, r1, r2, r3, h1, h2⟩ := Na_words X
  rw [h1] at h
  exact h.mono fun e w' ⟨he, hu⟩ => ⟨r0, r1, r2, r3, he, hu, h2⟩
theorem Nu.set4 {w : World} {b : Nat} {M X r0 r1 r2 r3 : Int} (h : Nu w b 0 M) (hr : Hid (r0 = wd X 0 ∧ r1 = wd X 1 ∧ r2 = wd X 2 ∧ r3 = wd X 3)) :
    Nu ((((w.setCell ⟨b, 0, none⟩ (.int .u64 r0)).setCell ⟨b, 1, none⟩ (.int .u64 r1)).setCell ⟨b, 2, none⟩ (.int .u64 r2)).setCell ⟨b, 3, none⟩ (.int .u64 r3)) b 0 X ∧
    Upd w ((((w.setCell ⟨b, 0, none⟩ (.int .u64 r0)).setCell ⟨b, 1, none⟩ (.int .u64 r1)).setCell ⟨b, 2, none⟩ (.int .u64 r2)).setCell ⟨b, 3, none⟩ (.int .u64 r3)) (Rg b 0 4) := by
  have k1 := Nu.setw (Nu.setw (Nu.setw (Nu.setw h.nw 0 r0) 1 r1) 2 r2) 3 r3
  obtain ⟨e0, e1, e2, e3⟩ := hr.out
  refine ⟨Nw.nu k1 (fun i hi => ?_), ?_⟩
  · have : i = 0 ∨ i = 1 ∨ i = 2 ∨ i = 3 := by omega
    rcases this with rfl | rfl | rfl | rfl
    · simpa using e0
    · simpa using e1
    · simpa using e2
    · simpa using e3
  · exact ((((Upd.refl w _).set (fun _ => ⟨rfl, by omega, by omega⟩) _).set (fun _ => ⟨rfl, by omega, by omega⟩) _).set (fun _ => ⟨rfl, by omega, by omega⟩) _).set (fun _ => ⟨rfl, by omega, by omega⟩) _

/-- after the bits of x from l on -/
def tak (V x : Int) (l : Nat) : Int := V * 2 ^ (8 - l) + x / 2 ^ l
theorem tak8 (V x : Int) (hx : Byte x) : tak V x 8 = V := by
  unfold tak; unfold Byte at hx
  simp only [Nat.sub_self, Int.pow_zero, Int.mul_one, Int.reducePow]; omega
theorem tak0 (V x : Int) : tak V x 0 = x + 256 * V := by
  unfold tak
  simp only [Nat.sub_zero, Int.pow_zero, Int.ediv_one, Int.reducePow]; omega
theorem tak_step (V x : Int) (l : Nat) (hl : l < 8) : tak V x l = 2 * tak V x (l + 1) + x / 2 ^ l % 2 := by
  unfold tak
  rw [div2_step x l, show 8 - l = (8 - (l + 1)) + 1 by omega, Int.pow_succ]
  generalize (2 : Int) ^ (8 - (l + 1)) = p
  have : x / 2 ^ l % 2 = (2 * (x / 2 ^ (l + 1)) + x / 2 ^ l % 2) % 2 := by omega
  grind
theorem mod_dbl (q m : Int) : (q % m + q % m) % m = 2 * q % m := by rw [← Int.add_emod]; congr 1; omega
theorem mod_one (q m : Int) : (2 * q % m + 1) % m = (2 * q + 1) % m := by rw [Int.emod_add_emod]

def RedRel (w : World) (ob : Nat) (bs : Nat → Int) (m : Int) (i : Value) (wr : World) : Prop :=
  ∃ k : Nat, k ≤ 32 ∧ i = .int .i64 ((k : Int) - 1) ∧ Upd w wr (fun x _ => x = ob) ∧ Nu wr ob 0 (le bs k (32 - k) % m)
def RedIn (w : World) (ob : Nat) (V x m : Int) (i : Value) (wr : World) : Prop :=
  ∃ l : Nat, l ≤ 8 ∧ i = .int .i64 ((l : Int) - 1) ∧ Upd w wr (fun x _ => x = ob) ∧ Nu wr ob 0 (tak V x l % m)

set_option maxRecDepth 100000 in
set_option maxHeartbeats 8000000 in
theorem reduced_c (b : Nat) (bs : Nat → Int) (hb : ∀ i, Byte (bs i)) (m : Int) (hm1 : 1 < m) (hm : m < 57896044618658097711785492504343953926634992332820282019728792003956564819968) (w : World) (hB : By w b 0 32 bs) :
    Calls Tryz.prog 71 #[.slice (some ⟨b, 0, none⟩) 32 32, .agg (Na m)] w fun e w' => e = .returned (.agg (Na (le bs 0 32 % m))) ∧ Upd w w' (fun _ _ => False) := by
  have lb := World.block_lt_of_cell? w _ (hB 0 (by decide))
  have A1 := (((Upd.refl w (fun _ _ => False)).alloc (.cells (Na m) 45)).alloc (Z4 45)).alloc (Z4 45)
  have n1 := (Nu.boxed w m 45).keep (((Upd.refl _ (fun _ _ => False)).alloc (Z4 45)).alloc (Z4 45)) (fun _ _ h => h)
  have n2 := (Nu.zero (w.alloc (.cells (Na m) 45)) 45).keep ((Upd.refl _ (fun _ _ => False)).alloc (Z4 45)) (fun _ _ h => h)
  have n3 := Nu.zero ((w.alloc (.cells (Na m) 45)).alloc (Z4 45)) 45
  simp only [World.size_alloc] at n1 n2 n3
  replace hB := hB.keep A1 (fun _ _ h => h)
  go_enter Tryz.func71, Tryz.ntmps71
  go_wp2_with (first
    | (refine wpList_store45 rfl _ _ rfl _ _ 0 _ (by rfl) (by rfl) n3 ?_; intro w1 hU1 p5))
  replace n1 := n1.keep hU1 (fun i hi h => absurd h.1 (by omega))
  replace n2 := n2.keep hU1 (fun i hi h => absurd h.1 (by omega))
  replace hB := hB.keep hU1 (fun i hi h => absurd h.1 (by omega))
  replace A1 := A1.trans hU1 (fun b o hb h => absurd h.1 (by omega))
  have s1 := p5.lt
  clear hU1 n3
  go_loopw [6, 7] (fun i _ wr => RedRel w1 (w.heap.size + 1 + 1) bs m i wr) (fun i _ _ => (intOf i + 1).toNat)
  case atStart => exact ⟨32, by omega, rfl, Upd.refl _ _, by rw [show le bs 32 (32 - 32) = 0 from rfl, Int.zero_emod]; exact p5⟩
  case round =>
    clear p5
    obtain ⟨k, hk, rfl, hU, p5⟩ := hrel
    have q1 := n1.keep hU (fun i hi h => by omega)
    have q2 := n2.keep hU (fun i hi h => by omega)
    have qB := hB.keep hU (fun i hi h => by omega)
    have s2 := hU.size
    by_cases hlt : k = 0
    · subst hlt
      replace p5 : Nu wr (w.heap.size + 1 + 1) 0 (le bs 0 32 % m) := p5
      go_wp2_with (first
        | (refine wpList_load45 rfl _ rfl _ _ (by rfl) _ p5 ?_)
        | (refine wpList_store45 rfl _ _ rfl _ _ (le bs 0 32 % m) _ (by rfl) (by rfl) q2 ?_; intro w2 hU2 n6))
      exact bodyPost_ret (results_cell rfl (by rfl) (load45 n6)) rfl ⟨rfl, (A1.trans hU (fun b o hb h => by omega)).trans hU2 (fun b o hb h => absurd h.1 (by omega))⟩
    · obtain ⟨j, rfl⟩ : ∃ j, k = j + 1 := ⟨k - 1, by omega⟩
      rw [show ((j + 1 : Nat) : Int) - 1 = (j : Int) by omega]
      have hj0 : (0 : Int) ≤ (j : Int) := by omega
      have hj1 : (j : Int) < 32 := by omega
      obtain ⟨V, eV⟩ : ∃ V, V = le bs (j + 1) (32 - (j + 1)) := ⟨_, rfl⟩
      have hst : le bs j (32 - j) = bs j + 256 * V := by rw [show 32 - j = (32 - (j + 1)) + 1 by omega, eV]; rfl
      rw [← eV] at p5
      have hx := hb j
      have c0 := qB j (by omega)
      rw [Nat.zero_add] at c0
      obtain ⟨x, ex⟩ : ∃ x, x = bs j := ⟨_, rfl⟩
      rw [← ex] at hst hx c0
      have Hst := Lib.hid hst
      have x8 := tak8 V x hx
      have x0 := tak0 V x
      rw [← x8] at p5
      have X0 := Lib.hid x0
      clear hst eV ex x8 x0
      obtain ⟨y0, y1⟩ := hx
      go_wp2_with fail
      go_loopw [7] (fun i wr' => RedIn wr (w.heap.size + 1 + 1) V x m i wr') (fun i _ => (intOf i + 1).toNat)
      case atStart => exact ⟨8, by omega, rfl, Upd.refl _ _, p5⟩
      case round =>
        clear p5
        obtain ⟨l, hl, rfl, hU', p5⟩ := hrel
        have t1 := q1.keep hU' (fun i hi h => by omega)
        have tB := (hU'.cell b j (by omega) (fun h => by omega)).trans c0
        have s3 := hU'.size
        by_cases hlt : l = 0
        · subst hlt
          rw [X0.out, ← Hst.out] at p5
          go_wp2
          exact ⟨⟨j, by omega, by go_num, hU.trans hU' (fun _ _ _ h => h), p5⟩, by simp [intOf]⟩
        · obtain ⟨n, rfl⟩ : ∃ n, l = n + 1 := ⟨l - 1, by omega⟩
          rw [show ((n + 1 : Nat) : Int) - 1 = (n : Int) by omega]
          have hst := tak_step V x n (by omega)
          have hm0 : m ≠ 0 := by omega
          obtain ⟨T, eT⟩ : ∃ T, T = tak V x (n + 1) := ⟨_, rfl⟩
          rw [← eT] at p5 hst
          have HS := Lib.hid hst
          clear hst eT
          have r1 := Int.emod_nonneg T hm0
          have r2 := Int.emod_lt_of_pos T (show 0 < m by omega)
          have r3 := Int.emod_nonneg (2 * T) hm0
          have r4 := Int.emod_lt_of_pos (2 * T) (show 0 < m by omega)
          have hn0 : (0 : Int) ≤ (n : Int) := by omega
          go_wp2_with (first
            | (refine wpList_load45 rfl _ rfl _ _ (by rfl) _ p5 ?_)
            | (refine wpList_load45 rfl _ rfl _ _ (by rfl) _ t1 ?_))
          refine (plus_c (T % m) (T % m) m r1 r2 r1 r2 hm _).mono ?_
          rintro e w3 ⟨rfl, hU3⟩
          rw [mod_dbl]
          have s4 := hU3.size
          replace t1 := t1.keep hU3 (fun _ _ h => h)
          replace tB := (hU3.cell b j (by omega) (fun h => h)).trans tB
          replace p5 := p5.keep hU3 (fun _ _ h => h)
          replace hU' := hU'.trans hU3 (fun _ _ _ h => h.elim)
          clear hU3 r1 r2
          have hbb : x / 2 ^ n % 2 = 0 ∨ x / 2 ^ n % 2 = 1 := by omega
          rcases hbb with hbb | hbb
          · have hq : tak V x n = 2 * T := by have := HS.out; omega
            have HQ := Lib.hid hq
            clear hq HS
            go_wp2_with (first
              | (refine wpList_store45 rfl _ _ rfl _ _ (2 * T % m) _ (by rfl) (by rfl) p5 ?_; intro w4 hU4 p6; replace tB := (hU4.cell b j (by omega) (fun h => absurd h.1 (by omega))).trans tB))
            exact ⟨⟨n, by omega, by go_num, hU'.trans hU4 (fun _ _ _ h => h.1), by rw [HQ.out]; exact p6⟩, by simp [intOf]⟩
          · go_wp2_with (first
              | (refine wpList_store45 rfl _ _ rfl _ _ (2 * T % m) _ (by rfl) (by rfl) p5 ?_; intro w4 hU4 p6; replace tB := (hU4.cell b j (by omega) (fun h => absurd h.1 (by omega))).trans tB))
            replace t1 := t1.keep hU4 (fun i hi h => absurd h.1 (by omega))
            obtain ⟨N, eN⟩ : ∃ N, N = 2 * T % m := ⟨_, rfl⟩
            rw [← eN] at p6 r3 r4
            have HN := Lib.hid eN
            clear eN
            refine wp_region_loose 4 (cls0 _) (by kernel_rfl) (by kernel_rfl) (Upd.refl _ _) ?_
            simp only [List.take_succ_cons, List.take_zero, List.drop_succ_cons, List.drop_zero]
            refine hd_load45 rfl (by simp) _ rfl _ _ (by rfl) N p6.drew ?_
            simp only [Act.put, List.setIfInBounds_toArray, List.set_cons_zero, List.set_cons_succ]
            refine hd_call rfl (by simp) 36 #[.int .u64 1] _ (by intro w; (try go_simp); (try rfl)) (fun w => small_c 1 (by decide) (by decide) w) ?_
            simp only [Act.put, List.setIfInBounds_toArray, List.set_cons_zero, List.set_cons_succ]
            refine hd_load45 rfl (by simp) _ rfl _ _ (by rfl) m t1.drew ?_
            simp only [Act.put, List.setIfInBounds_toArray, List.set_cons_zero, List.set_cons_succ]
            refine hd_call rfl (by simp) 37 #[.agg (Na N), .agg (Na 1), .agg (Na m)] _ (by intro w; (try go_simp); (try rfl)) (fun w => plus_c N 1 m r3 r4 (by decide) hm1 hm w) ?_
            intro w7 hU7
            replace hU7 := (show Upd _ _ FF from hU7)
            replace p6 := p6.drew.keep hU7 (fun _ _ h => h)
            have hq : tak V x n = 2 * T + 1 := by have := HS.out; omega
            have HQ := Lib.hid hq
            have HX := Lib.hid ((hU'.trans hU4 (fun _ _ _ h => h.1)).drew.trans hU7 (fun _ _ _ h => h.elim))
            clear hq HS hU4 hU'
            go_wp2_with (first
              | (refine wpList_store45 rfl _ _ rfl _ _ ((N + 1) % m) _ (by rfl) (by rfl) p6 ?_; intro w8 hU8 p8))
            exact ⟨⟨n, by omega, by go_num, HX.out.trans hU8 (fun _ _ _ h => h.1), by rw [HQ.out, ← mod_one, ← HN.out]; exact p8⟩, by simp [intOf]⟩

end Go.Proofs.YtkibnongmkhbaaaGreatDoor
end

section
open Go Go.RowKit
namespace Go.Proofs.YtkibnongmkhbaaaGreatDoor
open Ed

theorem or_comm64 (x y : Int) : bits .or .u64 x y = bits .or .u64 y x := by
  show IntKind.u64.wrap ((BitVec.ofInt 64 x ||| BitVec.ofInt 64 y).toNat : Nat) = IntKind.u64.wrap ((BitVec.ofInt 64 y ||| BitVec.ofInt 64 x).toNat : Nat)
  rw [BitVec.or_comm]
theorem le_one_more (bs : Nat → Int) (o r : Nat) : le bs o (r + 1) = le bs o r + 256 ^ r * bs (o + r) := by
  rw [le_append bs r 1 o]
  show _ + 256 ^ r * (bs (o + r) + 256 * 0) = _
  rw [Int.mul_zero, Int.add_zero]

def ScRel (w : World) (ob : Nat) (bs : Nat → Int) (i : Value) (wr : World) : Prop :=
  ∃ k : Nat, k ≤ 32 ∧ i = .int .i64 k ∧ Upd w wr (fun x _ => x = ob) ∧ Nw wr ob (fun j => le bs (8 * j) (min 8 (k - 8 * j)))

theorem upd4 (w : World) (b : Nat) (v0 v1 v2 v3 : Value) : Upd w ((((w.setCell ⟨b, 0, none⟩ v0).setCell ⟨b, 1, none⟩ v1).setCell ⟨b, 2, none⟩ v2).setCell ⟨b, 3, none⟩ v3) (Rg b 0 4) :=
  ((((Upd.refl w _).set (fun _ => ⟨rfl, by omega, by omega⟩) _).set (fun _ => ⟨rfl, by omega, by omega⟩) _).set (fun _ => ⟨rfl, by omega, by omega⟩) _).set (fun _ => ⟨rfl, by omega, by omega⟩) _

theorem rest_words {A C : Int} (hA0 : 0 ≤ A) (hA1 : A < 115792089237316195423570985008687907853269984665640564039457584007913129639936) (hC0 : 0 ≤ C) (hC1 : C < 115792089237316195423570985008687907853269984665640564039457584007913129639936) (w : World) :
    Calls Tryz.prog 52 #[.agg (Na A), .agg (Na C)] w fun e w' => ∃ r0 r1 r2 r3 : Int, e = .returned (.tuple #[.agg #[.int .u64 r0, .int .u64 r1, .int .u64 r2, .int .u64 r3], .int .u64 (ltI A C)]) ∧ Upd w w' (fun _ _ => False) ∧ Hid (r0 = wd (A - C) 0 ∧ r1 = wd (A - C) 1 ∧ r2 = wd (A - C) 2 ∧ r3 = wd (A - C) 3) := by
  obtain ⟨r0, r1, r2, r3, h1, h2⟩ := Na_words (A - C)
  exact (rest_c A C hA0 hA1 hC0 hC1 w).mono fun e w' ⟨he, hu⟩ => ⟨r0, r1, r2, r3, by rw [he, h1], hu, h2⟩

set_option maxRecDepth 100000 in
set_option maxHeartbeats 8000000 in
theorem scalar_c (bs : Nat → Int) (hb : ∀ i, Byte (bs i)) (w : World) : Calls Tryz.prog 22 #[.agg (Arr bs)] w fun e w' => e = .returned (.tuple #[.agg (Na (le bs 0 32)), .bool (ltI (le bs 0 32) ell == 1)]) ∧ Upd w w' (fun _ _ => False) := by
  have A1 := (((Upd.refl w (fun _ _ => False)).alloc (.cells (Arr bs) 22)).alloc (Z4 45)).alloc (Z4 45)
  have n1 := (By.arr bs w 22).keep (((Upd.refl _ (fun _ _ => False)).alloc (Z4 45)).alloc (Z4 45)) (fun _ _ h => h)
  have n2 := (Nu.zero (w.alloc (.cells (Arr bs) 22)) 45).keep ((Upd.refl _ (fun _ _ => False)).alloc (Z4 45)) (fun _ _ h => h)
  have n3 := Nu.zero ((w.alloc (.cells (Arr bs) 22)).alloc (Z4 45)) 45
  simp only [World.size_alloc] at n1 n2 n3
  go_enter Tryz.func22, Tryz.ntmps22
  go_wp2_with (first
    | (refine wpList_store45 rfl _ _ rfl _ _ 0 _ (by rfl) (by rfl) n3 ?_; intro w1 hU1 p5))
  replace n1 := n1.keep hU1 (fun i hi h => absurd h.1 (by omega))
  replace n2 := n2.keep hU1 (fun i hi h => absurd h.1 (by omega))
  replace A1 := A1.trans hU1 (fun b o hb h => absurd h.1 (by omega))
  have s1 := p5.lt
  clear hU1 n3
  go_loopw [5] (fun i wr => ScRel w1 (w.heap.size + 1 + 1) bs i wr) (fun i _ => 32 - (intOf i).toNat)
  case atStart =>
    refine ⟨0, by omega, rfl, Upd.refl _ _, fun i hi => ?_⟩
    have := p5.nw i hi
    show w1.cell? _ = some (.int .u64 (le bs (8 * i) (min 8 (0 - 8 * i)))) ∧ _
    rw [show le bs (8 * i) (min 8 (0 - 8 * i)) = 0 by rw [Nat.zero_sub, Nat.min_zero]; rfl]
    rw [show wd 0 i = 0 by unfold wd; rw [Int.zero_ediv, Int.zero_emod]] at this
    exact this
  case round =>
    clear p5
    obtain ⟨k, hk, rfl, hU, p5⟩ := hrel
    have q1 := n1.keep hU (fun i hi h => by omega)
    have q2 := n2.keep hU (fun i hi h => by omega)
    have s2 := hU.size
    by_cases hlt : k = 32
    · subst hlt
      have p6 : Nu wr (w.heap.size + 1 + 1) 0 (le bs 0 32) := Nw.nu p5 (fun i hi => by
        unfold wd
        have h := le_part bs hb (8 * i) 8 32 (by omega)
        rw [show min 8 (32 - 8 * i) = 8 by omega, h]
        have e : (18446744073709551616 : Int) ^ i = 256 ^ (8 * i) := by rw [Int.pow_mul]; rfl
        rw [e]; rfl)
      have hN := le_lt bs hb 32 0
      obtain ⟨N, eN⟩ : ∃ N, N = le bs 0 32 := ⟨_, rfl⟩
      rw [← eN] at p6 hN
      have EN := Lib.hid eN
      clear eN p5
      have lp := p6.lt
      go_wp2_with fail
      refine wp_region_ord [(0, false), (1, false), (2, false), (3, false), (4, false), (5, false), (6, true), (7, true), (8, false)] (cldZ _ 6 7 (N - ell)) (by kernel_rfl) (by kernel_rfl) (by rfl) (by kernel_rfl) (begin2 _ _ _ _ _ _ (by rfl)) ?_
      refine wq_load45 rfl rfl (by simp) rfl _ rfl _ _ (by rfl) N p6.drew (fun _ _ h => h) ?_
      simp only [Act.put, List.setIfInBounds_toArray, List.set_cons_zero, List.set_cons_succ]
      refine wq_call rfl rfl (by simp) rfl 53 #[] _ (by intro w; (try go_simp); (try rfl)) (fun w => order_c w) ?_
      simp only [Act.put, List.setIfInBounds_toArray, List.set_cons_zero, List.set_cons_succ]
      refine wq_call rfl rfl (by simp) rfl 52 #[.agg (Na N), .agg (Na ell)] (.tuple #[.agg (Na (N - ell)), .int .u64 (ltI N ell)]) (by intro w; (try go_simp); (try rfl)) (fun w => rest_c N ell hN.1 (by have := hN.2; simp only [Int.reducePow] at this; omega) (by decide) (by decide) w) ?_
      simp only [Act.put, List.setIfInBounds_toArray, List.set_cons_zero, List.set_cons_succ]
      refine wq_pure rfl rfl (by simp) rfl (.tuple #[.agg (Na (N - ell)), .int .u64 (ltI N ell)]) (by intro w; (try go_simp); (try rfl)) ?_
      simp only [Act.put, List.setIfInBounds_toArray, List.set_cons_zero, List.set_cons_succ]
      refine wq_pure rfl rfl (by simp) rfl (.agg (Na (N - ell))) (by intro w; (try go_simp); (try rfl)) ?_
      simp only [Act.put, List.setIfInBounds_toArray, List.set_cons_zero, List.set_cons_succ]
      refine wq_pure rfl rfl (by simp) rfl (.int .u64 (ltI N ell)) (by intro w; (try go_simp); (try rfl)) ?_
      simp only [Act.put, List.setIfInBounds_toArray, List.set_cons_zero, List.set_cons_succ]
      refine wq_alloc rfl rfl rfl (Z4 45) (fun w => exec_alloc45 _ _ _ _ _ _ w) (fun v => eval_put_same _ _ _ (by simp)) (by rfl) (zz_new _) ?_
      intro b hb
      simp only [Act.put, List.setIfInBounds_toArray, List.set_cons_zero, List.set_cons_succ]
      refine wq_store45 (N - ell) rfl rfl rfl _ _ rfl b hb (by rfl) (by rfl) (by rfl) (by rfl) (by rfl) ?_
      refine wq_pure rfl rfl (by simp) rfl (.int .u64 (ltI N ell)) (by intro w; (try go_simp); (try rfl)) ?_
      simp only [Act.put, List.setIfInBounds_toArray, List.set_cons_zero, List.set_cons_succ]
      intro w' hC
      obtain ⟨hU', -⟩ := hC
      have p7 := p6.drew.keep hU' (fun _ _ h => h)
      have q3 := (show Nu wr.drew (w.heap.size + 1) 0 0 from q2).keep hU' (fun _ _ h => h)
      go_wp2_with (first
        | (refine wpList_load45 rfl _ rfl _ _ (by rfl) N p7 ?_)
        | (refine wpList_store45 rfl _ _ rfl _ _ N _ (by rfl) (by rfl) q3 ?_; intro w7 hU7 n7))
      refine bodyPost_ret (results_cell2 (x := .bool (ltI N ell == 1)) rfl (by rfl) (load45 n7) (by rfl)) rfl ⟨by rw [EN.out], ?_⟩
      exact ((A1.trans hU (fun b o hb h => by omega)).drew.trans hU' (fun _ _ _ h => h)).trans hU7 (fun b o hb h => absurd h.1 (by omega))
    · have hk0 : (0 : Int) ≤ (k : Int) := by omega
      have hk1 : (k : Int) < 32 := by omega
      have t2 : ((k : Int).tdiv 8) = ((k / 8 : Nat) : Int) := rfl
      have t3 : ((k : Int).tmod 8) = ((k % 8 : Nat) : Int) := rfl
      obtain ⟨c, d⟩ := p5 (k / 8) (by omega)
      replace c : wr.cell? ⟨w.heap.size + 1 + 1, k / 8, none⟩ = some (.int .u64 (le bs (8 * (k / 8)) (min 8 (k - 8 * (k / 8))))) := c
      rw [show min 8 (k - 8 * (k / 8)) = k % 8 by omega] at c
      have cb := q1 k (by omega)
      rw [Nat.zero_add] at cb
      have hx := hb k
      have hmore := le_one_more bs (8 * (k / 8)) (k % 8)
      rw [show 8 * (k / 8) + k % 8 = k by omega] at hmore
      have hlt2 := le_lt bs hb (k % 8) (8 * (k / 8))
      obtain ⟨x, ex⟩ : ∃ x, x = bs k := ⟨_, rfl⟩
      obtain ⟨y, ey⟩ : ∃ y, y = le bs (8 * (k / 8)) (k % 8) := ⟨_, rfl⟩
      rw [← ey] at c hmore hlt2
      rw [← ex] at cb hx hmore
      obtain ⟨x0, x1⟩ := hx
      have e2 : (2 : Int) ^ (8 * (k % 8)) = 256 ^ (k % 8) := by rw [Int.pow_mul]; rfl
      have hcase : ∀ r, r < 8 → 256 ^ r * x < 18446744073709551616 := by
        intro r hr
        have : r = 0 ∨ r = 1 ∨ r = 2 ∨ r = 3 ∨ r = 4 ∨ r = 5 ∨ r = 6 ∨ r = 7 := by omega
        rcases this with rfl | rfl | rfl | rfl | rfl | rfl | rfl | rfl <;> (simp only [Int.reducePow]; omega)
      have hpos : (0 : Int) < 256 ^ (k % 8) := Int.pow_pos (by decide)
      have hc8 := hcase (k % 8) (by omega)
      have hp0 : 0 ≤ 256 ^ (k % 8) * x := Int.mul_nonneg (Int.le_of_lt hpos) x0
      have hle8 : (256 : Int) ^ (k % 8) ≤ 18446744073709551616 := by
        have : ∀ r, r < 8 → (256 : Int) ^ r ≤ 18446744073709551616 := by
          intro r hr
          have : r = 0 ∨ r = 1 ∨ r = 2 ∨ r = 3 ∨ r = 4 ∨ r = 5 ∨ r = 6 ∨ r = 7 := by omega
          rcases this with rfl | rfl | rfl | rfl | rfl | rfl | rfl | rfl <;> decide
        exact this _ (by omega)
      have hsh : IntKind.u64.wrap (x * 2 ^ (8 * (k % 8))) = x * 2 ^ (8 * (k % 8)) := by
        rw [e2, Int.mul_comm, IntKind.wrap_u64]
        omega
      have hor : bits .or .u64 y (x * 2 ^ (8 * (k % 8))) = y + 256 ^ (k % 8) * x := by
        rw [or_comm64, or_join (8 * (k % 8)) _ y (by rw [e2, Int.mul_comm]; exact hp0) (by rw [Int.mul_comm]; exact Int.mul_emod_right _ _) (by rw [e2, Int.mul_comm]; exact hc8) hlt2.1 (by rw [e2]; exact hlt2.2) (by omega), e2, Int.mul_comm, Int.add_comm]
      clear hc8 hp0 hle8 hpos
      have HM := Lib.hid hmore
      clear hmore hlt2 e2 hcase ex ey
      have f1 : IntKind.i64.wrap ((k : Int) / 8) = (k : Int) / 8 := IntWalk.i64_in _ (by omega)
      have f2 : (0 : Int) ≤ (k : Int) / 8 := by omega
      have f3 : (k : Int) / 8 < 4 := by omega
      have f4 : ((k : Int) / 8).toNat = k / 8 := by omega
      have f5 : IntKind.i64.wrap ((k : Int) % 8) = (k : Int) % 8 := IntWalk.i64_in _ (by omega)
      have f6 : IntKind.i64.wrap (8 * ((k : Int) % 8)) = 8 * ((k : Int) % 8) := IntWalk.i64_in _ (by omega)
      have f7 : (0 : Int) ≤ 8 * ((k : Int) % 8) := by omega
      have f8 : (8 * ((k : Int) % 8)).toNat = 8 * (k % 8) := by omega
      have f9 : 8 * ((k : Int) % 8) < 64 := by omega
      go_wp2_with fail
      refine still_tail 16 (by kernel_rfl) (by kernel_rfl) ?_
      simp only [List.take_succ_cons, List.take_zero, List.drop_succ_cons, List.drop_zero]
      iterate 16 still_step
      refine wpStill_nil ?_
      go_wp2_with fail
      refine ⟨⟨k + 1, by omega, by go_num, (hU.set (fun _ => rfl) _).drew, fun j hj => ?_⟩, by simp [intOf]; omega⟩
      have h := Nu.setw p5 (k / 8) (y + 256 ^ (k % 8) * x) j hj
      show (wr.setCell _ _).cell? _ = some (.int .u64 (le bs (8 * j) (min 8 (k + 1 - 8 * j)))) ∧ (wr.setCell _ _).frozen? _ = false
      by_cases e : j = k / 8
      · rw [if_pos e] at h
        subst e
        rw [show min 8 (k + 1 - 8 * (k / 8)) = k % 8 + 1 by omega, HM.out]
        exact h
      · rw [if_neg e] at h
        rw [show min 8 (k + 1 - 8 * j) = min 8 (k - 8 * j) by omega]
        exact h

end Go.Proofs.YtkibnongmkhbaaaGreatDoor
end

section
open Go Go.RowKit
namespace Go.Proofs.YtkibnongmkhbaaaGreatDoor
open Ed

/-- the exponents of the reference -/
def eInv : Nat := 57896044618658097711785492504343953926634992332820282019728792003956564819947
def eRoot : Nat := 7237005577332262213973186563042994240829374041602535252466099000494570602494
def eTwo : Nat := 14474011154664524427946373126085988481658748083205070504932198000989141204987
theorem eInv_cast : ((eInv : Nat) : Int) = Pn - 2 := by decide
theorem eRoot_cast : ((eRoot : Nat) : Int) = 7237005577332262213973186563042994240829374041602535252466099000494570602494 := by decide
theorem eTwo_cast : ((eTwo : Nat) : Int) = 14474011154664524427946373126085988481658748083205070504932198000989141204987 := by decide
theorem eInv_lt : eInv < 115792089237316195423570985008687907853269984665640564039457584007913129639936 := by decide
theorem eRoot_lt : eRoot < 115792089237316195423570985008687907853269984665640564039457584007913129639936 := by decide
theorem eTwo_lt : eTwo < 115792089237316195423570985008687907853269984665640564039457584007913129639936 := by decide
theorem eInv_def : eInv = 57896044618658097711785492504343953926634992332820282019728792003956564819947 := rfl
theorem eRoot_def : eRoot = 7237005577332262213973186563042994240829374041602535252466099000494570602494 := rfl
theorem eTwo_def : eTwo = 14474011154664524427946373126085988481658748083205070504932198000989141204987 := rfl
attribute [irreducible] eInv eRoot eTwo

theorem Na_z : Na 0 = #[.int .u64 0, .int .u64 0, .int .u64 0, .int .u64 0] := rfl
set_option maxRecDepth 100000 in
set_option maxHeartbeats 4000000 in
theorem opposite_c (N : Int) (h0 : 0 ≤ N) (h1 : N < Pn) (w : World) : Calls Tryz.prog 41 #[.agg (Na N)] w fun e w' => e = .returned (.agg (Na (-N % Pn))) ∧ Upd w w' FF := by
  have A1 := ((Upd.refl w FF).alloc (.cells (Na N) 45)).alloc (Z4 45)
  have n1 := (Nu.boxed w N 45).keep ((Upd.refl _ FF).alloc (Z4 45)) (fun _ _ h => h)
  have n2 := Nu.zero (w.alloc (.cells (Na N) 45)) 45
  simp only [World.size_alloc] at n2
  go_enter Tryz.func41, Tryz.ntmps41
  go_wp2_with fail
  refine wp_region_loose 4 (cls0 _) (by kernel_rfl) (by kernel_rfl) (Upd.refl _ _) ?_
  simp only [List.take_succ_cons, List.take_zero, List.drop_succ_cons, List.drop_zero]
  refine hd_pure rfl (by simp) (.agg (Na 0)) (by intro w; (try go_simp); (try rfl)) ?_
  refine hd_load45 rfl (by simp) _ rfl _ _ (by rfl) N n1.drew ?_
  refine hd_call rfl (by simp) 34 _ _ (by intro w; (try go_simp); (try rfl)) (fun w => prime_c w) ?_
  refine hd_call rfl (by simp) 35 #[.agg (Na 0), .agg (Na N), .agg (Na Pn)] _ (by intro w; (try go_simp); (try rfl)) (fun w => minus_c 0 N Pn (by decide) (by decide) h0 h1 (by decide) w) ?_
  intro w' hU
  replace hU := (show Upd _ _ FF from hU)
  have n3 := n2.drew.keep hU (fun _ _ h => h)
  go_wp2_with (first
    | (refine wpList_store45 rfl _ _ rfl _ _ ((0 - N) % Pn) _ (by rfl) (by rfl) n3 ?_; intro w3 hU3 n4))
  refine bodyPost_ret (results_cell rfl (by rfl) (load45 n4)) rfl ⟨by rw [Int.zero_sub], ?_⟩
  exact (A1.drew.trans hU (fun _ _ _ h => h)).trans hU3 (fun b o hb h => absurd h.1 (by omega))


set_option maxRecDepth 100000 in
set_option maxHeartbeats 4000000 in
theorem inverse_c (N : Int) (h0 : 0 ≤ N) (h1 : N < Pn) (w : World) : Calls Tryz.prog 40 #[.agg (Na N)] w fun e w' => e = .returned (.agg (Na (N ^ eInv % Pn))) ∧ Upd w w' FF := by
  have A1 := ((Upd.refl w FF).alloc (.cells (Na N) 45)).alloc (Z4 45)
  have n1 := (Nu.boxed w N 45).keep ((Upd.refl _ FF).alloc (Z4 45)) (fun _ _ h => h)
  have n2 := Nu.zero (w.alloc (.cells (Na N) 45)) 45
  simp only [World.size_alloc] at n2
  go_enter Tryz.func40, Tryz.ntmps40
  go_wp2_with fail
  refine (prime_c _).mono ?_
  rintro e w1 ⟨rfl, hU1⟩
  replace n1 := n1.keep hU1 (fun _ _ h => h)
  replace n2 := n2.keep hU1 (fun _ _ h => h)
  have s1 := hU1.size
  simp only [World.size_alloc] at s1
  replace A1 := A1.trans hU1 (fun _ _ _ h => h)
  clear hU1
  go_wp2_with fail
  refine (small_c 2 (by decide) (by decide) _).mono ?_
  rintro e w2 ⟨rfl, hU1⟩
  replace n1 := n1.keep hU1 (fun _ _ h => h)
  replace n2 := n2.keep hU1 (fun _ _ h => h)
  have s2 := hU1.size
  replace A1 := A1.trans hU1 (fun _ _ _ h => h)
  clear hU1
  go_wp2_with fail
  refine (rest_c Pn 2 (by decide) (by decide) (by decide) (by decide) _).mono ?_
  rintro e w3 ⟨rfl, hU1⟩
  have B1 := hU1.alloc (Z4 45)
  replace n1 := n1.keep B1 (fun _ _ h => h)
  replace n2 := n2.keep B1 (fun _ _ h => h)
  have s3 := hU1.size
  replace A1 := A1.trans B1 (fun _ _ _ h => h)
  have n3 := Nu.zero w3 45
  clear hU1 B1
  go_wp2_with (first
    | (refine wpList_store45 rfl _ _ rfl _ _ (Pn - 2) _ (by rfl) (by rfl) n3 ?_; intro w4 hU4 n4))
  replace n1 := n1.keep hU4 (fun i hi h => absurd h.1 (by omega))
  replace n2 := n2.keep hU4 (fun i hi h => absurd h.1 (by omega))
  replace A1 := A1.trans hU4 (fun b o hb h => absurd h.1 (by omega))
  clear n3 hU4
  refine wp_region_loose 4 (cls0 _) (by kernel_rfl) (by kernel_rfl) (Upd.refl _ _) ?_
  simp only [List.take_succ_cons, List.take_zero, List.drop_succ_cons, List.drop_zero]
  refine hd_load45 rfl (by simp) _ rfl _ _ (by rfl) N n1.drew ?_
  refine hd_load45 rfl (by simp) _ rfl _ _ (by rfl) (Pn - 2) n4.drew ?_
  refine hd_call rfl (by simp) 34 #[] _ (by intro w; (try go_simp); (try rfl)) (fun w => prime_c w) ?_
  refine hd_call rfl (by simp) 73 #[.agg (Na N), .agg (Na (Pn - 2)), .agg (Na Pn)] _ (by intro w; (try go_simp); (try rfl)) (fun w => by have h := power_c N eInv Pn h0 h1 (by decide) eInv_lt (by decide) w; rw [eInv_cast] at h; exact h) ?_
  intro w' hU
  replace hU := (show Upd _ _ FF from hU)
  have n5 := n2.drew.keep hU (fun _ _ h => h)
  clear n1 n2 n4
  go_wp2_with (first
    | (refine wpList_store45 rfl _ _ rfl _ _ _ _ (by rfl) (by rfl) n5 ?_; intro w6 hU6 n6))
  exact bodyPost_ret (results_cell rfl (by rfl) (load45 n6)) rfl ⟨rfl, (A1.drew.trans hU (fun _ _ _ h => h)).trans hU6 (fun b o hb h => absurd h.1 (by omega))⟩

end Go.Proofs.YtkibnongmkhbaaaGreatDoor
end

section
open Go Go.RowKit
namespace Go.Proofs.YtkibnongmkhbaaaGreatDoor
open Ed

def low31 (bs : Nat → Int) (i : Nat) : Int := if i = 31 then bs 31 % 128 else bs i
theorem low31_byte {bs : Nat → Int} (hb : ∀ i, Byte (bs i)) (i : Nat) : Byte (low31 bs i) := by
  unfold low31
  split
  · have := hb 31; unfold Byte at *; omega
  · exact hb i
theorem le_congr {bs cs : Nat → Int} (n : Nat) : ∀ o, (∀ i, o ≤ i → i < o + n → bs i = cs i) → le bs o n = le cs o n := by
  induction n with
  | zero => intro o _; rfl
  | succ n ih =>
    intro o h
    unfold le
    rw [ih (o + 1) (fun i h1 h2 => h i (by omega) (by omega)), h o (by omega) (by omega)]
theorem le_low31 (bs : Nat → Int) (hb : ∀ i, Byte (bs i)) : le (low31 bs) 0 32 = le bs 0 32 % 57896044618658097711785492504343953926634992332820282019728792003956564819968 := by
  have h1 := le_append (low31 bs) 31 1 0
  have h2 := le_append bs 31 1 0
  rw [Nat.zero_add] at h1 h2
  have e1 : le (low31 bs) 0 31 = le bs 0 31 := le_congr 31 0 (fun i _ hi => by unfold low31; rw [if_neg (by omega)])
  have e2 : le (low31 bs) 31 1 = bs 31 % 128 := by show low31 bs 31 + 256 * 0 = _; unfold low31; rw [if_pos rfl]; omega
  have e3 : le bs 31 1 = bs 31 := by show bs 31 + 256 * 0 = _; omega
  have h3 := le_lt bs hb 31 0
  rw [e1, e2] at h1
  rw [e3] at h2
  rw [show (32 : Nat) = 31 + 1 from rfl, h1, h2]
  simp only [Int.reducePow] at *
  have := hb 31
  unfold Byte at this
  omega

set_option maxRecDepth 100000 in
set_option maxHeartbeats 4000000 in
theorem element_c (bs : Nat → Int) (hb : ∀ i, Byte (bs i)) (w : World) : Calls Tryz.prog 32 #[.agg (Arr bs)] w fun e w' => e = .returned (.agg (Na (le (low31 bs) 0 32 % Pn))) ∧ Upd w w' FF := by
  have A1 := ((Upd.refl w FF).alloc (.cells (Arr bs) 22)).alloc (Z4 45)
  have hB := (By.arr bs w 22).keep ((Upd.refl _ FF).alloc (Z4 45)) (fun _ _ h => h)
  have n2 := Nu.zero (w.alloc (.cells (Arr bs) 22)) 45
  simp only [World.size_alloc] at n2
  have c31 := hB 31 (by decide)
  rw [Nat.zero_add] at c31
  have hx := hb 31
  obtain ⟨x, ex⟩ : ∃ x, x = bs 31 := ⟨_, rfl⟩
  rw [← ex] at c31 hx
  obtain ⟨x0, x1⟩ := hx
  have fz : ((w.alloc (.cells (Arr bs) 22)).alloc (.cells #[.int .u64 0, .int .u64 0, .int .u64 0, .int .u64 0] 45)).frozen? ⟨w.heap.size, 31, none⟩ = false := by
    rw [World.frozen?_alloc_old _ _ _ (by simp)]
    exact World.frozen?_alloc_new _ _ _ _
  have es : (Arr bs).setIfInBounds 31 (.int .u8 (x % 128)) = Arr (low31 bs) := by rw [ex]; rfl
  have hB2 := (By.arr (low31 bs) w 22).keep ((Upd.refl _ FF).alloc (Z4 45)) (fun _ _ h => h)
  have n3 := Nu.zero (w.alloc (.cells (Arr (low31 bs)) 22)) 45
  have A2 := ((Upd.refl w FF).alloc (.cells (Arr (low31 bs)) 22)).alloc (Z4 45)
  simp only [World.size_alloc] at n3
  rw [← es] at hB2 n3 A2
  replace c31 : ((w.alloc (.cells (Arr bs) 22)).alloc (.cells #[.int .u64 0, .int .u64 0, .int .u64 0, .int .u64 0] 45)).cell? ⟨w.heap.size, 31, none⟩ = some (.int .u8 x) := c31
  clear ex hB A1 n2 es
  go_enter Tryz.func32, Tryz.ntmps32
  go_wp2_with fail
  refine wp_region_loose 3 (cls0 _) (by kernel_rfl) (by kernel_rfl) (Upd.refl _ _) ?_
  simp only [List.take_succ_cons, List.take_zero, List.drop_succ_cons, List.drop_zero]
  refine hd_pure rfl (by simp) (.slice (some ⟨w.heap.size, 0, none⟩) 32 32) (by intro w; (try go_simp); (try rfl)) ?_
  refine hd_call rfl (by simp) 34 #[] _ (by intro w; (try go_simp); (try rfl)) (fun w => prime_c w) ?_
  refine hd_callG rfl (by simp) 71 #[.slice (some ⟨w.heap.size, 0, none⟩) 32 32, .agg (Na Pn)] _ (by intro w; (try go_simp); (try rfl)) (fun w' hU => reduced_c w.heap.size (low31 bs) (low31_byte hb) Pn (by decide) (by decide) w' (By.keep hU (show By (World.drew _) _ _ _ _ from hB2) (fun _ _ h => h))) ?_
  intro w' hU
  replace hU := (show Upd _ _ FF from hU)
  have n5 := n3.drew.keep hU (fun _ _ h => h)
  go_wp2_with (first
    | (refine wpList_store45 rfl _ _ rfl _ _ _ _ (by rfl) (by rfl) n5 ?_; intro w6 hU6 n6))
  exact bodyPost_ret (results_cell rfl (by rfl) (load45 n6)) rfl ⟨rfl, (A2.drew.trans hU (fun _ _ _ h => h)).trans hU6 (fun b o hb h => absurd h.1 (by omega))⟩

set_option maxRecDepth 100000 in
theorem negative_c (N : Int) (w : World) : Calls Tryz.prog 43 #[.agg (Na N)] w fun e w' => e = .returned (.bool (bt N 0)) ∧ Upd w w' FF := by
  have A1 := (Upd.refl w FF).alloc (.cells (Na N) 45)
  have n1 := Nu.boxed w N 45
  go_enter Tryz.func43, Tryz.ntmps43
  go_wp2_with (first
    | (refine wpList_load45 rfl _ rfl _ _ (by rfl) N n1 ?_))
  refine (bit_c N 0 (by decide) _).mono ?_
  rintro e w1 ⟨rfl, hU⟩
  go_wp2
  go_ret
  exact ⟨rfl, A1.trans hU (fun _ _ _ h => h)⟩

/-- the one of N and -N that is even -/
def absN (N : Int) : Int := if N % 2 = 1 then -N % Pn else N
set_option maxRecDepth 100000 in
set_option maxHeartbeats 4000000 in
theorem absolute_c (N : Int) (h0 : 0 ≤ N) (h1 : N < Pn) (w : World) : Calls Tryz.prog 74 #[.agg (Na N)] w fun e w' => e = .returned (.agg (Na (absN N))) ∧ Upd w w' FF := by
  have A1 := ((Upd.refl w FF).alloc (.cells (Na N) 45)).alloc (Z4 45)
  have n1 := (Nu.boxed w N 45).keep ((Upd.refl _ FF).alloc (Z4 45)) (fun _ _ h => h)
  have n2 := Nu.zero (w.alloc (.cells (Na N) 45)) 45
  simp only [World.size_alloc] at n2
  go_enter Tryz.func74, Tryz.ntmps74
  go_wp2_with (first
    | (refine wpList_load45 rfl _ rfl _ _ (by rfl) N n1 ?_))
  refine (negative_c N _).mono ?_
  rintro e w1 ⟨rfl, hU⟩
  replace n1 := n1.keep hU (fun _ _ h => h)
  replace n2 := n2.keep hU (fun _ _ h => h)
  replace A1 := A1.trans hU (fun _ _ _ h => h)
  have s1 := hU.size
  clear hU
  have hb : bt N 0 = (N % 2 == 1) := by unfold bt; rw [Int.pow_zero, Int.ediv_one]
  rw [hb]
  clear hb
  by_cases e : N % 2 = 1
  · have ea : absN N = -N % Pn := if_pos e
    have EA := Lib.hid ea
    clear ea
    go_wp2_with (first
      | (refine wpList_load45 rfl _ rfl _ _ (by rfl) N n1 ?_))
    refine (opposite_c N h0 h1 _).mono ?_
    rintro e w2 ⟨rfl, hU⟩
    replace n2 := n2.keep hU (fun _ _ h => h)
    go_wp2_with (first
      | (refine wpList_store45 rfl _ _ rfl _ _ _ _ (by rfl) (by rfl) n2 ?_; intro w6 hU6 n6))
    exact bodyPost_ret (results_cell rfl (by rfl) (load45 n6)) rfl ⟨by rw [EA.out], (A1.trans hU (fun _ _ _ h => h)).trans hU6 (fun b o hb h => absurd h.1 (by omega))⟩
  · have e0 : N % 2 = 0 := by omega
    have ea : absN N = N := if_neg e
    have EA := Lib.hid ea
    clear ea e
    go_wp2_with (first
      | (refine wpList_load45 rfl _ rfl _ _ (by rfl) N n1 ?_)
      | (refine wpList_store45 rfl _ _ rfl _ _ N _ (by rfl) (by rfl) n2 ?_; intro w6 hU6 n6))
    exact bodyPost_ret (results_cell rfl (by rfl) (load45 n6)) rfl ⟨by rw [EA.out], A1.trans hU6 (fun b o hb h => absurd h.1 (by omega))⟩

end Go.Proofs.YtkibnongmkhbaaaGreatDoor
end
