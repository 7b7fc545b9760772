/- Part of the proof that laws.FnGroup returns true for all 32 bytes p, q and x: the field's Invert and Pow22523.
   Conditions: those that each theorem states. -/
import Derived.Test.YtkibnongmkhbaaaGreatDoorAD

section
open Go Go.RowKit
namespace Go.Proofs.YtkibnongmkhbaaaGreatDoor
open Ed

theorem fpow_one (x : F) : fpow x 1 = x := by show 1 * x = x; grind
theorem pw_mul {X x y z : F} {i j k : Nat} (hz : z = x * y) (hx : x = fpow X i) (hy : y = fpow X j) (hk : i + j = k) : z = fpow X k := by rw [hz, hx, hy, ← fpow_add, hk]
theorem pw_sqn {X x z : F} {i n k : Nat} (hz : z = sqN x n) (hx : x = fpow X i) (hk : i * 2 ^ n = k) : z = fpow X k := by rw [hz, hx, sqN_eq, ← fpow_mul, hk]
attribute [local irreducible] fpow

set_option maxRecDepth 100000 in
set_option maxHeartbeats 4000000 in
theorem inv_c (vb vo ab ao : Nat) (V X : F) (w : World) (hV : El w vb vo V) (hX : ElR w ab ao X) (hd : vb ≠ ab ∨ vo + 5 ≤ ao ∨ ao + 5 ≤ vo) :
    Calls Tryz.prog 92 #[.pointer (some ⟨vb, vo, none⟩), .pointer (some ⟨ab, ao, none⟩)] w fun e w' => e = .returned (.pointer (some ⟨vb, vo, none⟩)) ∧ Upd w w' (Rg vb vo 5) ∧ El w' vb vo (fpow X 57896044618658097711785492504343953926634992332820282019728792003956564819947) := by
  have l1 := hV.lt
  have l2 := hX.lt
  have hA := Upd.refl w (Rg vb vo 5)
  go_enter Tryz.func92, Tryz.ntmps92
  have A0 := (Upd.refl w (fun _ _ => False)).alloc (.cells #[.int .u64 0, .int .u64 0, .int .u64 0, .int .u64 0, .int .u64 0] 40)
  replace hV := hV.keep A0 (fun _ _ h => h)
  replace hX := hX.keep A0 (fun _ _ h => h)
  replace hA := hA.alloc (.cells #[.int .u64 0, .int .u64 0, .int .u64 0, .int .u64 0, .int .u64 0] 40)
  clear A0
  have hz11 : El (w.alloc (.cells #[.int .u64 0, .int .u64 0, .int .u64 0, .int .u64 0, .int .u64 0] 40)) (w.heap.size) 0 0 := by have h := El.zero w; (try simp only [World.size_alloc] at h); exact h
  have A0 := (Upd.refl (w.alloc (.cells #[.int .u64 0, .int .u64 0, .int .u64 0, .int .u64 0, .int .u64 0] 40)) (fun _ _ => False)).alloc (.cells #[.int .u64 0, .int .u64 0, .int .u64 0, .int .u64 0, .int .u64 0] 40)
  replace hV := hV.keep A0 (fun _ _ h => h)
  replace hX := hX.keep A0 (fun _ _ h => h)
  replace hz11 := hz11.keep A0 (fun _ _ h => h)
  replace hA := hA.alloc (.cells #[.int .u64 0, .int .u64 0, .int .u64 0, .int .u64 0, .int .u64 0] 40)
  clear A0
  have ht0 : El ((w.alloc (.cells #[.int .u64 0, .int .u64 0, .int .u64 0, .int .u64 0, .int .u64 0] 40)).alloc (.cells #[.int .u64 0, .int .u64 0, .int .u64 0, .int .u64 0, .int .u64 0] 40)) (w.heap.size + 1) 0 0 := by have h := El.zero (w.alloc (.cells #[.int .u64 0, .int .u64 0, .int .u64 0, .int .u64 0, .int .u64 0] 40)); (try simp only [World.size_alloc] at h); exact h
  have A0 := (Upd.refl ((w.alloc (.cells #[.int .u64 0, .int .u64 0, .int .u64 0, .int .u64 0, .int .u64 0] 40)).alloc (.cells #[.int .u64 0, .int .u64 0, .int .u64 0, .int .u64 0, .int .u64 0] 40)) (fun _ _ => False)).alloc (.cells #[.int .u64 0, .int .u64 0, .int .u64 0, .int .u64 0, .int .u64 0] 40)
  replace hV := hV.keep A0 (fun _ _ h => h)
  replace hX := hX.keep A0 (fun _ _ h => h)
  replace hz11 := hz11.keep A0 (fun _ _ h => h)
  replace ht0 := ht0.keep A0 (fun _ _ h => h)
  replace hA := hA.alloc (.cells #[.int .u64 0, .int .u64 0, .int .u64 0, .int .u64 0, .int .u64 0] 40)
  clear A0
  have ht1 : El (((w.alloc (.cells #[.int .u64 0, .int .u64 0, .int .u64 0, .int .u64 0, .int .u64 0] 40)).alloc (.cells #[.int .u64 0, .int .u64 0, .int .u64 0, .int .u64 0, .int .u64 0] 40)).alloc (.cells #[.int .u64 0, .int .u64 0, .int .u64 0, .int .u64 0, .int .u64 0] 40)) (w.heap.size + 1 + 1) 0 0 := by have h := El.zero ((w.alloc (.cells #[.int .u64 0, .int .u64 0, .int .u64 0, .int .u64 0, .int .u64 0] 40)).alloc (.cells #[.int .u64 0, .int .u64 0, .int .u64 0, .int .u64 0, .int .u64 0] 40)); (try simp only [World.size_alloc] at h); exact h
  have A0 := (Upd.refl (((w.alloc (.cells #[.int .u64 0, .int .u64 0, .int .u64 0, .int .u64 0, .int .u64 0] 40)).alloc (.cells #[.int .u64 0, .int .u64 0, .int .u64 0, .int .u64 0, .int .u64 0] 40)).alloc (.cells #[.int .u64 0, .int .u64 0, .int .u64 0, .int .u64 0, .int .u64 0] 40)) (fun _ _ => False)).alloc (.cells #[.int .u64 0, .int .u64 0, .int .u64 0, .int .u64 0, .int .u64 0] 40)
  replace hV := hV.keep A0 (fun _ _ h => h)
  replace hX := hX.keep A0 (fun _ _ h => h)
  replace hz11 := hz11.keep A0 (fun _ _ h => h)
  replace ht0 := ht0.keep A0 (fun _ _ h => h)
  replace ht1 := ht1.keep A0 (fun _ _ h => h)
  replace hA := hA.alloc (.cells #[.int .u64 0, .int .u64 0, .int .u64 0, .int .u64 0, .int .u64 0] 40)
  clear A0
  have ht2 : El ((((w.alloc (.cells #[.int .u64 0, .int .u64 0, .int .u64 0, .int .u64 0, .int .u64 0] 40)).alloc (.cells #[.int .u64 0, .int .u64 0, .int .u64 0, .int .u64 0, .int .u64 0] 40)).alloc (.cells #[.int .u64 0, .int .u64 0, .int .u64 0, .int .u64 0, .int .u64 0] 40)).alloc (.cells #[.int .u64 0, .int .u64 0, .int .u64 0, .int .u64 0, .int .u64 0] 40)) (w.heap.size + 1 + 1 + 1) 0 0 := by have h := El.zero (((w.alloc (.cells #[.int .u64 0, .int .u64 0, .int .u64 0, .int .u64 0, .int .u64 0] 40)).alloc (.cells #[.int .u64 0, .int .u64 0, .int .u64 0, .int .u64 0, .int .u64 0] 40)).alloc (.cells #[.int .u64 0, .int .u64 0, .int .u64 0, .int .u64 0, .int .u64 0] 40)); (try simp only [World.size_alloc] at h); exact h
  have A0 := (Upd.refl ((((w.alloc (.cells #[.int .u64 0, .int .u64 0, .int .u64 0, .int .u64 0, .int .u64 0] 40)).alloc (.cells #[.int .u64 0, .int .u64 0, .int .u64 0, .int .u64 0, .int .u64 0] 40)).alloc (.cells #[.int .u64 0, .int .u64 0, .int .u64 0, .int .u64 0, .int .u64 0] 40)).alloc (.cells #[.int .u64 0, .int .u64 0, .int .u64 0, .int .u64 0, .int .u64 0] 40)) (fun _ _ => False)).alloc (.cells #[.int .u64 0, .int .u64 0, .int .u64 0, .int .u64 0, .int .u64 0] 40)
  replace hV := hV.keep A0 (fun _ _ h => h)
  replace hX := hX.keep A0 (fun _ _ h => h)
  replace hz11 := hz11.keep A0 (fun _ _ h => h)
  replace ht0 := ht0.keep A0 (fun _ _ h => h)
  replace ht1 := ht1.keep A0 (fun _ _ h => h)
  replace ht2 := ht2.keep A0 (fun _ _ h => h)
  replace hA := hA.alloc (.cells #[.int .u64 0, .int .u64 0, .int .u64 0, .int .u64 0, .int .u64 0] 40)
  clear A0
  have ht : El (((((w.alloc (.cells #[.int .u64 0, .int .u64 0, .int .u64 0, .int .u64 0, .int .u64 0] 40)).alloc (.cells #[.int .u64 0, .int .u64 0, .int .u64 0, .int .u64 0, .int .u64 0] 40)).alloc (.cells #[.int .u64 0, .int .u64 0, .int .u64 0, .int .u64 0, .int .u64 0] 40)).alloc (.cells #[.int .u64 0, .int .u64 0, .int .u64 0, .int .u64 0, .int .u64 0] 40)).alloc (.cells #[.int .u64 0, .int .u64 0, .int .u64 0, .int .u64 0, .int .u64 0] 40)) (w.heap.size + 1 + 1 + 1 + 1) 0 0 := by have h := El.zero ((((w.alloc (.cells #[.int .u64 0, .int .u64 0, .int .u64 0, .int .u64 0, .int .u64 0] 40)).alloc (.cells #[.int .u64 0, .int .u64 0, .int .u64 0, .int .u64 0, .int .u64 0] 40)).alloc (.cells #[.int .u64 0, .int .u64 0, .int .u64 0, .int .u64 0, .int .u64 0] 40)).alloc (.cells #[.int .u64 0, .int .u64 0, .int .u64 0, .int .u64 0, .int .u64 0] 40)); (try simp only [World.size_alloc] at h); exact h
  go_wp2_with fail
  refine (sq_el (w.heap.size + 1 + 1) 0 ab ao 0 X _ ht1 hX).mono ?_
  rintro e w1 ⟨rfl, hU, hE⟩
  have s1 := hU.size
  try simp only [World.size_alloc] at s1
  replace hV := hV.keep hU (fun i hi h => by obtain ⟨h1, h2, h3⟩ := h; omega)
  replace hX := hX.keep hU (fun i hi h => by obtain ⟨h1, h2, h3⟩ := h; omega)
  replace hz11 := hz11.keep hU (fun i hi h => by obtain ⟨h1, h2, h3⟩ := h; omega)
  replace ht0 := ht0.keep hU (fun i hi h => by obtain ⟨h1, h2, h3⟩ := h; omega)
  replace ht2 := ht2.keep hU (fun i hi h => by obtain ⟨h1, h2, h3⟩ := h; omega)
  replace ht := ht.keep hU (fun i hi h => by obtain ⟨h1, h2, h3⟩ := h; omega)
  replace hA := hA.trans hU (fun b o hb h => by obtain ⟨h1, h2, h3⟩ := h; exfalso; omega)
  clear hU
  clear ht1
  obtain ⟨x1, ex⟩ : ∃ x : F, x = X * X := ⟨_, rfl⟩
  rw [← ex] at hE
  have X1 := Lib.hid ex
  clear ex
  have ht1 := hE
  clear hE
  go_wp2_with fail
  refine (sq_el (w.heap.size + 1 + 1 + 1 + 1) 0 (w.heap.size + 1 + 1) 0 0 x1 _ ht ht1.r).mono ?_
  rintro e w2 ⟨rfl, hU, hE⟩
  have s2 := hU.size
  try simp only [World.size_alloc] at s2
  replace hV := hV.keep hU (fun i hi h => by obtain ⟨h1, h2, h3⟩ := h; omega)
  replace hX := hX.keep hU (fun i hi h => by obtain ⟨h1, h2, h3⟩ := h; omega)
  replace hz11 := hz11.keep hU (fun i hi h => by obtain ⟨h1, h2, h3⟩ := h; omega)
  replace ht0 := ht0.keep hU (fun i hi h => by obtain ⟨h1, h2, h3⟩ := h; omega)
  replace ht1 := ht1.keep hU (fun i hi h => by obtain ⟨h1, h2, h3⟩ := h; omega)
  replace ht2 := ht2.keep hU (fun i hi h => by obtain ⟨h1, h2, h3⟩ := h; omega)
  replace hA := hA.trans hU (fun b o hb h => by obtain ⟨h1, h2, h3⟩ := h; exfalso; omega)
  clear hU
  clear ht
  obtain ⟨x2, ex⟩ : ∃ x : F, x = x1 * x1 := ⟨_, rfl⟩
  rw [← ex] at hE
  have X2 := Lib.hid ex
  clear ex
  have ht := hE
  clear hE
  go_wp2_with fail
  refine (sq_el (w.heap.size + 1 + 1 + 1 + 1) 0 (w.heap.size + 1 + 1 + 1 + 1) 0 x2 x2 _ ht ht.r).mono ?_
  rintro e w3 ⟨rfl, hU, hE⟩
  have s3 := hU.size
  try simp only [World.size_alloc] at s3
  replace hV := hV.keep hU (fun i hi h => by obtain ⟨h1, h2, h3⟩ := h; omega)
  replace hX := hX.keep hU (fun i hi h => by obtain ⟨h1, h2, h3⟩ := h; omega)
  replace hz11 := hz11.keep hU (fun i hi h => by obtain ⟨h1, h2, h3⟩ := h; omega)
  replace ht0 := ht0.keep hU (fun i hi h => by obtain ⟨h1, h2, h3⟩ := h; omega)
  replace ht1 := ht1.keep hU (fun i hi h => by obtain ⟨h1, h2, h3⟩ := h; omega)
  replace ht2 := ht2.keep hU (fun i hi h => by obtain ⟨h1, h2, h3⟩ := h; omega)
  replace hA := hA.trans hU (fun b o hb h => by obtain ⟨h1, h2, h3⟩ := h; exfalso; omega)
  clear hU
  clear ht
  obtain ⟨x3, ex⟩ : ∃ x : F, x = x2 * x2 := ⟨_, rfl⟩
  rw [← ex] at hE
  have X3 := Lib.hid ex
  clear ex
  have ht := hE
  clear hE
  go_wp2_with fail
  refine (mul_el (w.heap.size + 1 + 1 + 1) 0 (w.heap.size + 1 + 1 + 1 + 1) 0 ab ao 0 x3 X _ ht2 ht.r hX).mono ?_
  rintro e w4 ⟨rfl, hU, hE⟩
  have s4 := hU.size
  try simp only [World.size_alloc] at s4
  replace hV := hV.keep hU (fun i hi h => by obtain ⟨h1, h2, h3⟩ := h; omega)
  replace hX := hX.keep hU (fun i hi h => by obtain ⟨h1, h2, h3⟩ := h; omega)
  replace hz11 := hz11.keep hU (fun i hi h => by obtain ⟨h1, h2, h3⟩ := h; omega)
  replace ht0 := ht0.keep hU (fun i hi h => by obtain ⟨h1, h2, h3⟩ := h; omega)
  replace ht1 := ht1.keep hU (fun i hi h => by obtain ⟨h1, h2, h3⟩ := h; omega)
  replace ht := ht.keep hU (fun i hi h => by obtain ⟨h1, h2, h3⟩ := h; omega)
  replace hA := hA.trans hU (fun b o hb h => by obtain ⟨h1, h2, h3⟩ := h; exfalso; omega)
  clear hU
  clear ht2
  obtain ⟨x4, ex⟩ : ∃ x : F, x = x3 * X := ⟨_, rfl⟩
  rw [← ex] at hE
  have X4 := Lib.hid ex
  clear ex
  have ht2 := hE
  clear hE
  go_wp2_with fail
  refine (mul_el (w.heap.size) 0 (w.heap.size + 1 + 1 + 1) 0 (w.heap.size + 1 + 1) 0 0 x4 x1 _ hz11 ht2.r ht1.r).mono ?_
  rintro e w5 ⟨rfl, hU, hE⟩
  have s5 := hU.size
  try simp only [World.size_alloc] at s5
  replace hV := hV.keep hU (fun i hi h => by obtain ⟨h1, h2, h3⟩ := h; omega)
  replace hX := hX.keep hU (fun i hi h => by obtain ⟨h1, h2, h3⟩ := h; omega)
  replace ht0 := ht0.keep hU (fun i hi h => by obtain ⟨h1, h2, h3⟩ := h; omega)
  replace ht1 := ht1.keep hU (fun i hi h => by obtain ⟨h1, h2, h3⟩ := h; omega)
  replace ht2 := ht2.keep hU (fun i hi h => by obtain ⟨h1, h2, h3⟩ := h; omega)
  replace ht := ht.keep hU (fun i hi h => by obtain ⟨h1, h2, h3⟩ := h; omega)
  replace hA := hA.trans hU (fun b o hb h => by obtain ⟨h1, h2, h3⟩ := h; exfalso; omega)
  clear hU
  clear hz11
  obtain ⟨x5, ex⟩ : ∃ x : F, x = x4 * x1 := ⟨_, rfl⟩
  rw [← ex] at hE
  have X5 := Lib.hid ex
  clear ex
  have hz11 := hE
  clear hE
  go_wp2_with fail
  refine (sq_el (w.heap.size + 1 + 1 + 1 + 1) 0 (w.heap.size) 0 x3 x5 _ ht hz11.r).mono ?_
  rintro e w6 ⟨rfl, hU, hE⟩
  have s6 := hU.size
  try simp only [World.size_alloc] at s6
  replace hV := hV.keep hU (fun i hi h => by obtain ⟨h1, h2, h3⟩ := h; omega)
  replace hX := hX.keep hU (fun i hi h => by obtain ⟨h1, h2, h3⟩ := h; omega)
  replace hz11 := hz11.keep hU (fun i hi h => by obtain ⟨h1, h2, h3⟩ := h; omega)
  replace ht0 := ht0.keep hU (fun i hi h => by obtain ⟨h1, h2, h3⟩ := h; omega)
  replace ht1 := ht1.keep hU (fun i hi h => by obtain ⟨h1, h2, h3⟩ := h; omega)
  replace ht2 := ht2.keep hU (fun i hi h => by obtain ⟨h1, h2, h3⟩ := h; omega)
  replace hA := hA.trans hU (fun b o hb h => by obtain ⟨h1, h2, h3⟩ := h; exfalso; omega)
  clear hU
  clear ht
  obtain ⟨x6, ex⟩ : ∃ x : F, x = x5 * x5 := ⟨_, rfl⟩
  rw [← ex] at hE
  have X6 := Lib.hid ex
  clear ex
  have ht := hE
  clear hE
  go_wp2_with fail
  refine (mul_el (w.heap.size + 1) 0 (w.heap.size + 1 + 1 + 1 + 1) 0 (w.heap.size + 1 + 1 + 1) 0 0 x6 x4 _ ht0 ht.r ht2.r).mono ?_
  rintro e w7 ⟨rfl, hU, hE⟩
  have s7 := hU.size
  try simp only [World.size_alloc] at s7
  replace hV := hV.keep hU (fun i hi h => by obtain ⟨h1, h2, h3⟩ := h; omega)
  replace hX := hX.keep hU (fun i hi h => by obtain ⟨h1, h2, h3⟩ := h; omega)
  replace hz11 := hz11.keep hU (fun i hi h => by obtain ⟨h1, h2, h3⟩ := h; omega)
  replace ht1 := ht1.keep hU (fun i hi h => by obtain ⟨h1, h2, h3⟩ := h; omega)
  replace ht2 := ht2.keep hU (fun i hi h => by obtain ⟨h1, h2, h3⟩ := h; omega)
  replace ht := ht.keep hU (fun i hi h => by obtain ⟨h1, h2, h3⟩ := h; omega)
  replace hA := hA.trans hU (fun b o hb h => by obtain ⟨h1, h2, h3⟩ := h; exfalso; omega)
  clear hU
  clear ht0
  obtain ⟨x7, ex⟩ : ∃ x : F, x = x6 * x4 := ⟨_, rfl⟩
  rw [← ex] at hE
  have X7 := Lib.hid ex
  clear ex
  have ht0 := hE
  clear hE
  go_wp2_with fail
  refine (sqn_el 5 (by decide) (by decide) (w.heap.size + 1 + 1 + 1 + 1) 0 (w.heap.size + 1) 0 x6 x7 _ ht ht0.r).mono ?_
  rintro e w8 ⟨rfl, hU, hE⟩
  replace hE : El _ _ _ (sqN x7 5) := hE
  have s8 := hU.size
  try simp only [World.size_alloc] at s8
  replace hV := hV.keep hU (fun i hi h => by obtain ⟨h1, h2, h3⟩ := h; omega)
  replace hX := hX.keep hU (fun i hi h => by obtain ⟨h1, h2, h3⟩ := h; omega)
  replace hz11 := hz11.keep hU (fun i hi h => by obtain ⟨h1, h2, h3⟩ := h; omega)
  replace ht0 := ht0.keep hU (fun i hi h => by obtain ⟨h1, h2, h3⟩ := h; omega)
  replace ht1 := ht1.keep hU (fun i hi h => by obtain ⟨h1, h2, h3⟩ := h; omega)
  replace ht2 := ht2.keep hU (fun i hi h => by obtain ⟨h1, h2, h3⟩ := h; omega)
  replace hA := hA.trans hU (fun b o hb h => by obtain ⟨h1, h2, h3⟩ := h; exfalso; omega)
  clear hU
  clear ht
  obtain ⟨x8, ex⟩ : ∃ x : F, x = sqN x7 5 := ⟨_, rfl⟩
  rw [← ex] at hE
  have X8 := Lib.hid ex
  clear ex
  have ht := hE
  clear hE
  go_wp2_with fail
  refine (mul_el (w.heap.size + 1 + 1 + 1) 0 (w.heap.size + 1 + 1 + 1 + 1) 0 (w.heap.size + 1) 0 x4 x8 x7 _ ht2 ht.r ht0.r).mono ?_
  rintro e w9 ⟨rfl, hU, hE⟩
  have s9 := hU.size
  try simp only [World.size_alloc] at s9
  replace hV := hV.keep hU (fun i hi h => by obtain ⟨h1, h2, h3⟩ := h; omega)
  replace hX := hX.keep hU (fun i hi h => by obtain ⟨h1, h2, h3⟩ := h; omega)
  replace hz11 := hz11.keep hU (fun i hi h => by obtain ⟨h1, h2, h3⟩ := h; omega)
  replace ht0 := ht0.keep hU (fun i hi h => by obtain ⟨h1, h2, h3⟩ := h; omega)
  replace ht1 := ht1.keep hU (fun i hi h => by obtain ⟨h1, h2, h3⟩ := h; omega)
  replace ht := ht.keep hU (fun i hi h => by obtain ⟨h1, h2, h3⟩ := h; omega)
  replace hA := hA.trans hU (fun b o hb h => by obtain ⟨h1, h2, h3⟩ := h; exfalso; omega)
  clear hU
  clear ht2
  obtain ⟨x9, ex⟩ : ∃ x : F, x = x8 * x7 := ⟨_, rfl⟩
  rw [← ex] at hE
  have X9 := Lib.hid ex
  clear ex
  have ht2 := hE
  clear hE
  go_wp2_with fail
  refine (sqn_el 5 (by decide) (by decide) (w.heap.size + 1 + 1 + 1 + 1) 0 (w.heap.size + 1 + 1 + 1) 0 x8 x9 _ ht ht2.r).mono ?_
  rintro e w10 ⟨rfl, hU, hE⟩
  replace hE : El _ _ _ (sqN x9 5) := hE
  have s10 := hU.size
  try simp only [World.size_alloc] at s10
  replace hV := hV.keep hU (fun i hi h => by obtain ⟨h1, h2, h3⟩ := h; omega)
  replace hX := hX.keep hU (fun i hi h => by obtain ⟨h1, h2, h3⟩ := h; omega)
  replace hz11 := hz11.keep hU (fun i hi h => by obtain ⟨h1, h2, h3⟩ := h; omega)
  replace ht0 := ht0.keep hU (fun i hi h => by obtain ⟨h1, h2, h3⟩ := h; omega)
  replace ht1 := ht1.keep hU (fun i hi h => by obtain ⟨h1, h2, h3⟩ := h; omega)
  replace ht2 := ht2.keep hU (fun i hi h => by obtain ⟨h1, h2, h3⟩ := h; omega)
  replace hA := hA.trans hU (fun b o hb h => by obtain ⟨h1, h2, h3⟩ := h; exfalso; omega)
  clear hU
  clear ht
  obtain ⟨x10, ex⟩ : ∃ x : F, x = sqN x9 5 := ⟨_, rfl⟩
  rw [← ex] at hE
  have X10 := Lib.hid ex
  clear ex
  have ht := hE
  clear hE
  go_wp2_with fail
  refine (mul_el (w.heap.size + 1) 0 (w.heap.size + 1 + 1 + 1 + 1) 0 (w.heap.size + 1) 0 x7 x10 x7 _ ht0 ht.r ht0.r).mono ?_
  rintro e w11 ⟨rfl, hU, hE⟩
  have s11 := hU.size
  try simp only [World.size_alloc] at s11
  replace hV := hV.keep hU (fun i hi h => by obtain ⟨h1, h2, h3⟩ := h; omega)
  replace hX := hX.keep hU (fun i hi h => by obtain ⟨h1, h2, h3⟩ := h; omega)
  replace hz11 := hz11.keep hU (fun i hi h => by obtain ⟨h1, h2, h3⟩ := h; omega)
  replace ht1 := ht1.keep hU (fun i hi h => by obtain ⟨h1, h2, h3⟩ := h; omega)
  replace ht2 := ht2.keep hU (fun i hi h => by obtain ⟨h1, h2, h3⟩ := h; omega)
  replace ht := ht.keep hU (fun i hi h => by obtain ⟨h1, h2, h3⟩ := h; omega)
  replace hA := hA.trans hU (fun b o hb h => by obtain ⟨h1, h2, h3⟩ := h; exfalso; omega)
  clear hU
  clear ht0
  obtain ⟨x11, ex⟩ : ∃ x : F, x = x10 * x7 := ⟨_, rfl⟩
  rw [← ex] at hE
  have X11 := Lib.hid ex
  clear ex
  have ht0 := hE
  clear hE
  go_wp2_with fail
  refine (sqn_el 15 (by decide) (by decide) (w.heap.size + 1 + 1 + 1 + 1) 0 (w.heap.size + 1) 0 x10 x11 _ ht ht0.r).mono ?_
  rintro e w12 ⟨rfl, hU, hE⟩
  replace hE : El _ _ _ (sqN x11 15) := hE
  have s12 := hU.size
  try simp only [World.size_alloc] at s12
  replace hV := hV.keep hU (fun i hi h => by obtain ⟨h1, h2, h3⟩ := h; omega)
  replace hX := hX.keep hU (fun i hi h => by obtain ⟨h1, h2, h3⟩ := h; omega)
  replace hz11 := hz11.keep hU (fun i hi h => by obtain ⟨h1, h2, h3⟩ := h; omega)
  replace ht0 := ht0.keep hU (fun i hi h => by obtain ⟨h1, h2, h3⟩ := h; omega)
  replace ht1 := ht1.keep hU (fun i hi h => by obtain ⟨h1, h2, h3⟩ := h; omega)
  replace ht2 := ht2.keep hU (fun i hi h => by obtain ⟨h1, h2, h3⟩ := h; omega)
  replace hA := hA.trans hU (fun b o hb h => by obtain ⟨h1, h2, h3⟩ := h; exfalso; omega)
  clear hU
  clear ht
  obtain ⟨x12, ex⟩ : ∃ x : F, x = sqN x11 15 := ⟨_, rfl⟩
  rw [← ex] at hE
  have X12 := Lib.hid ex
  clear ex
  have ht := hE
  clear hE
  go_wp2_with fail
  refine (mul_el (w.heap.size + 1 + 1) 0 (w.heap.size + 1 + 1 + 1 + 1) 0 (w.heap.size + 1) 0 x1 x12 x11 _ ht1 ht.r ht0.r).mono ?_
  rintro e w13 ⟨rfl, hU, hE⟩
  have s13 := hU.size
  try simp only [World.size_alloc] at s13
  replace hV := hV.keep hU (fun i hi h => by obtain ⟨h1, h2, h3⟩ := h; omega)
  replace hX := hX.keep hU (fun i hi h => by obtain ⟨h1, h2, h3⟩ := h; omega)
  replace hz11 := hz11.keep hU (fun i hi h => by obtain ⟨h1, h2, h3⟩ := h; omega)
  replace ht0 := ht0.keep hU (fun i hi h => by obtain ⟨h1, h2, h3⟩ := h; omega)
  replace ht2 := ht2.keep hU (fun i hi h => by obtain ⟨h1, h2, h3⟩ := h; omega)
  replace ht := ht.keep hU (fun i hi h => by obtain ⟨h1, h2, h3⟩ := h; omega)
  replace hA := hA.trans hU (fun b o hb h => by obtain ⟨h1, h2, h3⟩ := h; exfalso; omega)
  clear hU
  clear ht1
  obtain ⟨x13, ex⟩ : ∃ x : F, x = x12 * x11 := ⟨_, rfl⟩
  rw [← ex] at hE
  have X13 := Lib.hid ex
  clear ex
  have ht1 := hE
  clear hE
  go_wp2_with fail
  refine (sqn_el 30 (by decide) (by decide) (w.heap.size + 1 + 1 + 1 + 1) 0 (w.heap.size + 1 + 1) 0 x12 x13 _ ht ht1.r).mono ?_
  rintro e w14 ⟨rfl, hU, hE⟩
  replace hE : El _ _ _ (sqN x13 30) := hE
  have s14 := hU.size
  try simp only [World.size_alloc] at s14
  replace hV := hV.keep hU (fun i hi h => by obtain ⟨h1, h2, h3⟩ := h; omega)
  replace hX := hX.keep hU (fun i hi h => by obtain ⟨h1, h2, h3⟩ := h; omega)
  replace hz11 := hz11.keep hU (fun i hi h => by obtain ⟨h1, h2, h3⟩ := h; omega)
  replace ht0 := ht0.keep hU (fun i hi h => by obtain ⟨h1, h2, h3⟩ := h; omega)
  replace ht1 := ht1.keep hU (fun i hi h => by obtain ⟨h1, h2, h3⟩ := h; omega)
  replace ht2 := ht2.keep hU (fun i hi h => by obtain ⟨h1, h2, h3⟩ := h; omega)
  replace hA := hA.trans hU (fun b o hb h => by obtain ⟨h1, h2, h3⟩ := h; exfalso; omega)
  clear hU
  clear ht
  obtain ⟨x14, ex⟩ : ∃ x : F, x = sqN x13 30 := ⟨_, rfl⟩
  rw [← ex] at hE
  have X14 := Lib.hid ex
  clear ex
  have ht := hE
  clear hE
  go_wp2_with fail
  refine (mul_el (w.heap.size + 1) 0 (w.heap.size + 1 + 1 + 1 + 1) 0 (w.heap.size + 1 + 1) 0 x11 x14 x13 _ ht0 ht.r ht1.r).mono ?_
  rintro e w15 ⟨rfl, hU, hE⟩
  have s15 := hU.size
  try simp only [World.size_alloc] at s15
  replace hV := hV.keep hU (fun i hi h => by obtain ⟨h1, h2, h3⟩ := h; omega)
  replace hX := hX.keep hU (fun i hi h => by obtain ⟨h1, h2, h3⟩ := h; omega)
  replace hz11 := hz11.keep hU (fun i hi h => by obtain ⟨h1, h2, h3⟩ := h; omega)
  replace ht1 := ht1.keep hU (fun i hi h => by obtain ⟨h1, h2, h3⟩ := h; omega)
  replace ht2 := ht2.keep hU (fun i hi h => by obtain ⟨h1, h2, h3⟩ := h; omega)
  replace ht := ht.keep hU (fun i hi h => by obtain ⟨h1, h2, h3⟩ := h; omega)
  replace hA := hA.trans hU (fun b o hb h => by obtain ⟨h1, h2, h3⟩ := h; exfalso; omega)
  clear hU
  clear ht0
  obtain ⟨x15, ex⟩ : ∃ x : F, x = x14 * x13 := ⟨_, rfl⟩
  rw [← ex] at hE
  have X15 := Lib.hid ex
  clear ex
  have ht0 := hE
  clear hE
  go_wp2_with fail
  refine (sqn_el 60 (by decide) (by decide) (w.heap.size + 1 + 1 + 1 + 1) 0 (w.heap.size + 1) 0 x14 x15 _ ht ht0.r).mono ?_
  rintro e w16 ⟨rfl, hU, hE⟩
  replace hE : El _ _ _ (sqN x15 60) := hE
  have s16 := hU.size
  try simp only [World.size_alloc] at s16
  replace hV := hV.keep hU (fun i hi h => by obtain ⟨h1, h2, h3⟩ := h; omega)
  replace hX := hX.keep hU (fun i hi h => by obtain ⟨h1, h2, h3⟩ := h; omega)
  replace hz11 := hz11.keep hU (fun i hi h => by obtain ⟨h1, h2, h3⟩ := h; omega)
  replace ht0 := ht0.keep hU (fun i hi h => by obtain ⟨h1, h2, h3⟩ := h; omega)
  replace ht1 := ht1.keep hU (fun i hi h => by obtain ⟨h1, h2, h3⟩ := h; omega)
  replace ht2 := ht2.keep hU (fun i hi h => by obtain ⟨h1, h2, h3⟩ := h; omega)
  replace hA := hA.trans hU (fun b o hb h => by obtain ⟨h1, h2, h3⟩ := h; exfalso; omega)
  clear hU
  clear ht
  obtain ⟨x16, ex⟩ : ∃ x : F, x = sqN x15 60 := ⟨_, rfl⟩
  rw [← ex] at hE
  have X16 := Lib.hid ex
  clear ex
  have ht := hE
  clear hE
  go_wp2_with fail
  refine (mul_el (w.heap.size + 1 + 1) 0 (w.heap.size + 1 + 1 + 1 + 1) 0 (w.heap.size + 1) 0 x13 x16 x15 _ ht1 ht.r ht0.r).mono ?_
  rintro e w17 ⟨rfl, hU, hE⟩
  have s17 := hU.size
  try simp only [World.size_alloc] at s17
  replace hV := hV.keep hU (fun i hi h => by obtain ⟨h1, h2, h3⟩ := h; omega)
  replace hX := hX.keep hU (fun i hi h => by obtain ⟨h1, h2, h3⟩ := h; omega)
  replace hz11 := hz11.keep hU (fun i hi h => by obtain ⟨h1, h2, h3⟩ := h; omega)
  replace ht0 := ht0.keep hU (fun i hi h => by obtain ⟨h1, h2, h3⟩ := h; omega)
  replace ht2 := ht2.keep hU (fun i hi h => by obtain ⟨h1, h2, h3⟩ := h; omega)
  replace ht := ht.keep hU (fun i hi h => by obtain ⟨h1, h2, h3⟩ := h; omega)
  replace hA := hA.trans hU (fun b o hb h => by obtain ⟨h1, h2, h3⟩ := h; exfalso; omega)
  clear hU
  clear ht1
  obtain ⟨x17, ex⟩ : ∃ x : F, x = x16 * x15 := ⟨_, rfl⟩
  rw [← ex] at hE
  have X17 := Lib.hid ex
  clear ex
  have ht1 := hE
  clear hE
  go_wp2_with fail
  refine (sqn_el 120 (by decide) (by decide) (w.heap.size + 1 + 1 + 1 + 1) 0 (w.heap.size + 1 + 1) 0 x16 x17 _ ht ht1.r).mono ?_
  rintro e w18 ⟨rfl, hU, hE⟩
  replace hE : El _ _ _ (sqN x17 120) := hE
  have s18 := hU.size
  try simp only [World.size_alloc] at s18
  replace hV := hV.keep hU (fun i hi h => by obtain ⟨h1, h2, h3⟩ := h; omega)
  replace hX := hX.keep hU (fun i hi h => by obtain ⟨h1, h2, h3⟩ := h; omega)
  replace hz11 := hz11.keep hU (fun i hi h => by obtain ⟨h1, h2, h3⟩ := h; omega)
  replace ht0 := ht0.keep hU (fun i hi h => by obtain ⟨h1, h2, h3⟩ := h; omega)
  replace ht1 := ht1.keep hU (fun i hi h => by obtain ⟨h1, h2, h3⟩ := h; omega)
  replace ht2 := ht2.keep hU (fun i hi h => by obtain ⟨h1, h2, h3⟩ := h; omega)
  replace hA := hA.trans hU (fun b o hb h => by obtain ⟨h1, h2, h3⟩ := h; exfalso; omega)
  clear hU
  clear ht
  obtain ⟨x18, ex⟩ : ∃ x : F, x = sqN x17 120 := ⟨_, rfl⟩
  rw [← ex] at hE
  have X18 := Lib.hid ex
  clear ex
  have ht := hE
  clear hE
  go_wp2_with fail
  refine (mul_el (w.heap.size + 1 + 1 + 1 + 1) 0 (w.heap.size + 1 + 1 + 1 + 1) 0 (w.heap.size + 1 + 1) 0 x18 x18 x17 _ ht ht.r ht1.r).mono ?_
  rintro e w19 ⟨rfl, hU, hE⟩
  have s19 := hU.size
  try simp only [World.size_alloc] at s19
  replace hV := hV.keep hU (fun i hi h => by obtain ⟨h1, h2, h3⟩ := h; omega)
  replace hX := hX.keep hU (fun i hi h => by obtain ⟨h1, h2, h3⟩ := h; omega)
  replace hz11 := hz11.keep hU (fun i hi h => by obtain ⟨h1, h2, h3⟩ := h; omega)
  replace ht0 := ht0.keep hU (fun i hi h => by obtain ⟨h1, h2, h3⟩ := h; omega)
  replace ht1 := ht1.keep hU (fun i hi h => by obtain ⟨h1, h2, h3⟩ := h; omega)
  replace ht2 := ht2.keep hU (fun i hi h => by obtain ⟨h1, h2, h3⟩ := h; omega)
  replace hA := hA.trans hU (fun b o hb h => by obtain ⟨h1, h2, h3⟩ := h; exfalso; omega)
  clear hU
  clear ht
  obtain ⟨x19, ex⟩ : ∃ x : F, x = x18 * x17 := ⟨_, rfl⟩
  rw [← ex] at hE
  have X19 := Lib.hid ex
  clear ex
  have ht := hE
  clear hE
  go_wp2_with fail
  refine (sqn_el 10 (by decide) (by decide) (w.heap.size + 1 + 1 + 1 + 1) 0 (w.heap.size + 1 + 1 + 1 + 1) 0 x19 x19 _ ht ht.r).mono ?_
  rintro e w20 ⟨rfl, hU, hE⟩
  replace hE : El _ _ _ (sqN x19 10) := hE
  have s20 := hU.size
  try simp only [World.size_alloc] at s20
  replace hV := hV.keep hU (fun i hi h => by obtain ⟨h1, h2, h3⟩ := h; omega)
  replace hX := hX.keep hU (fun i hi h => by obtain ⟨h1, h2, h3⟩ := h; omega)
  replace hz11 := hz11.keep hU (fun i hi h => by obtain ⟨h1, h2, h3⟩ := h; omega)
  replace ht0 := ht0.keep hU (fun i hi h => by obtain ⟨h1, h2, h3⟩ := h; omega)
  replace ht1 := ht1.keep hU (fun i hi h => by obtain ⟨h1, h2, h3⟩ := h; omega)
  replace ht2 := ht2.keep hU (fun i hi h => by obtain ⟨h1, h2, h3⟩ := h; omega)
  replace hA := hA.trans hU (fun b o hb h => by obtain ⟨h1, h2, h3⟩ := h; exfalso; omega)
  clear hU
  clear ht
  obtain ⟨x20, ex⟩ : ∃ x : F, x = sqN x19 10 := ⟨_, rfl⟩
  rw [← ex] at hE
  have X20 := Lib.hid ex
  clear ex
  have ht := hE
  clear hE
  go_wp2_with fail
  refine (mul_el (w.heap.size + 1 + 1 + 1 + 1) 0 (w.heap.size + 1 + 1 + 1 + 1) 0 (w.heap.size + 1 + 1 + 1) 0 x20 x20 x9 _ ht ht.r ht2.r).mono ?_
  rintro e w21 ⟨rfl, hU, hE⟩
  have s21 := hU.size
  try simp only [World.size_alloc] at s21
  replace hV := hV.keep hU (fun i hi h => by obtain ⟨h1, h2, h3⟩ := h; omega)
  replace hX := hX.keep hU (fun i hi h => by obtain ⟨h1, h2, h3⟩ := h; omega)
  replace hz11 := hz11.keep hU (fun i hi h => by obtain ⟨h1, h2, h3⟩ := h; omega)
  replace ht0 := ht0.keep hU (fun i hi h => by obtain ⟨h1, h2, h3⟩ := h; omega)
  replace ht1 := ht1.keep hU (fun i hi h => by obtain ⟨h1, h2, h3⟩ := h; omega)
  replace ht2 := ht2.keep hU (fun i hi h => by obtain ⟨h1, h2, h3⟩ := h; omega)
  replace hA := hA.trans hU (fun b o hb h => by obtain ⟨h1, h2, h3⟩ := h; exfalso; omega)
  clear hU
  clear ht
  obtain ⟨x21, ex⟩ : ∃ x : F, x = x20 * x9 := ⟨_, rfl⟩
  rw [← ex] at hE
  have X21 := Lib.hid ex
  clear ex
  have ht := hE
  clear hE
  go_wp2_with fail
  refine (sqn_el 5 (by decide) (by decide) (w.heap.size + 1 + 1 + 1 + 1) 0 (w.heap.size + 1 + 1 + 1 + 1) 0 x21 x21 _ ht ht.r).mono ?_
  rintro e w22 ⟨rfl, hU, hE⟩
  replace hE : El _ _ _ (sqN x21 5) := hE
  have s22 := hU.size
  try simp only [World.size_alloc] at s22
  replace hV := hV.keep hU (fun i hi h => by obtain ⟨h1, h2, h3⟩ := h; omega)
  replace hX := hX.keep hU (fun i hi h => by obtain ⟨h1, h2, h3⟩ := h; omega)
  replace hz11 := hz11.keep hU (fun i hi h => by obtain ⟨h1, h2, h3⟩ := h; omega)
  replace ht0 := ht0.keep hU (fun i hi h => by obtain ⟨h1, h2, h3⟩ := h; omega)
  replace ht1 := ht1.keep hU (fun i hi h => by obtain ⟨h1, h2, h3⟩ := h; omega)
  replace ht2 := ht2.keep hU (fun i hi h => by obtain ⟨h1, h2, h3⟩ := h; omega)
  replace hA := hA.trans hU (fun b o hb h => by obtain ⟨h1, h2, h3⟩ := h; exfalso; omega)
  clear hU
  clear ht
  obtain ⟨x22, ex⟩ : ∃ x : F, x = sqN x21 5 := ⟨_, rfl⟩
  rw [← ex] at hE
  have X22 := Lib.hid ex
  clear ex
  have ht := hE
  clear hE
  go_wp2_with fail
  refine (mul_el vb vo (w.heap.size + 1 + 1 + 1 + 1) 0 (w.heap.size) 0 V x22 x5 _ hV ht.r hz11.r).mono ?_
  rintro e w23 ⟨rfl, hU, hE⟩
  have s23 := hU.size
  try simp only [World.size_alloc] at s23
  replace hX := hX.keep hU (fun i hi h => by obtain ⟨h1, h2, h3⟩ := h; omega)
  replace hz11 := hz11.keep hU (fun i hi h => by obtain ⟨h1, h2, h3⟩ := h; omega)
  replace ht0 := ht0.keep hU (fun i hi h => by obtain ⟨h1, h2, h3⟩ := h; omega)
  replace ht1 := ht1.keep hU (fun i hi h => by obtain ⟨h1, h2, h3⟩ := h; omega)
  replace ht2 := ht2.keep hU (fun i hi h => by obtain ⟨h1, h2, h3⟩ := h; omega)
  replace ht := ht.keep hU (fun i hi h => by obtain ⟨h1, h2, h3⟩ := h; omega)
  replace hA := hA.trans hU (fun b o hb h => by obtain ⟨h1, h2, h3⟩ := h; exact ⟨h1, by omega, by omega⟩)
  clear hU
  clear hV
  obtain ⟨x23, ex⟩ : ∃ x : F, x = x22 * x5 := ⟨_, rfl⟩
  rw [← ex] at hE
  have X23 := Lib.hid ex
  clear ex
  have hV := hE
  clear hE
  go_wp2
  go_ret
  have pX : X = fpow X 1 := (fpow_one X).symm
  have px1 : x1 = fpow X 2 := pw_mul X1.out pX pX (by decide)
  have px2 : x2 = fpow X 4 := pw_mul X2.out px1 px1 (by decide)
  have px3 : x3 = fpow X 8 := pw_mul X3.out px2 px2 (by decide)
  have px4 : x4 = fpow X 9 := pw_mul X4.out px3 pX (by decide)
  have px5 : x5 = fpow X 11 := pw_mul X5.out px4 px1 (by decide)
  have px6 : x6 = fpow X 22 := pw_mul X6.out px5 px5 (by decide)
  have px7 : x7 = fpow X 31 := pw_mul X7.out px6 px4 (by decide)
  have px8 : x8 = fpow X 992 := pw_sqn X8.out px7 (by decide)
  have px9 : x9 = fpow X 1023 := pw_mul X9.out px8 px7 (by decide)
  have px10 : x10 = fpow X 32736 := pw_sqn X10.out px9 (by decide)
  have px11 : x11 = fpow X 32767 := pw_mul X11.out px10 px7 (by decide)
  have px12 : x12 = fpow X 1073709056 := pw_sqn X12.out px11 (by decide)
  have px13 : x13 = fpow X 1073741823 := pw_mul X13.out px12 px11 (by decide)
  have px14 : x14 = fpow X 1152921503533105152 := pw_sqn X14.out px13 (by decide)
  have px15 : x15 = fpow X 1152921504606846975 := pw_mul X15.out px14 px13 (by decide)
  have px16 : x16 = fpow X 1329227995784915871750885555673497600 := pw_sqn X16.out px15 (by decide)
  have px17 : x17 = fpow X 1329227995784915872903807060280344575 := pw_mul X17.out px16 px15 (by decide)
  have px18 : x18 = fpow X 1766847064778384329583297500742918514498255901090703085217799141012275200 := pw_sqn X18.out px17 (by decide)
  have px19 : x19 = fpow X 1766847064778384329583297500742918515827483896875618958121606201292619775 := pw_mul X19.out px18 px17 (by decide)
  have px20 : x20 = fpow X 1809251394333065553493296640760748560207343510400633813116524750123642649600 := pw_sqn X20.out px19 (by decide)
  have px21 : x21 = fpow X 1809251394333065553493296640760748560207343510400633813116524750123642650623 := pw_mul X21.out px20 px9 (by decide)
  have px22 : x22 = fpow X 57896044618658097711785492504343953926634992332820282019728792003956564819936 := pw_sqn X22.out px21 (by decide)
  have px23 : x23 = fpow X 57896044618658097711785492504343953926634992332820282019728792003956564819947 := pw_mul X23.out px22 px5 (by decide)
  exact ⟨rfl, hA, by rw [← px23]; exact hV⟩

set_option maxRecDepth 100000 in
set_option maxHeartbeats 4000000 in
theorem pow_c (vb vo ab ao : Nat) (V X : F) (w : World) (hV : El w vb vo V) (hX : ElR w ab ao X) (hd : vb ≠ ab ∨ vo + 5 ≤ ao ∨ ao + 5 ≤ vo) :
    Calls Tryz.prog 88 #[.pointer (some ⟨vb, vo, none⟩), .pointer (some ⟨ab, ao, none⟩)] w fun e w' => e = .returned (.pointer (some ⟨vb, vo, none⟩)) ∧ Upd w w' (Rg vb vo 5) ∧ El w' vb vo (fpow X 7237005577332262213973186563042994240829374041602535252466099000494570602493) := by
  have l1 := hV.lt
  have l2 := hX.lt
  have hA := Upd.refl w (Rg vb vo 5)
  go_enter Tryz.func88, Tryz.ntmps88
  have A0 := (Upd.refl w (fun _ _ => False)).alloc (.cells #[.int .u64 0, .int .u64 0, .int .u64 0, .int .u64 0, .int .u64 0] 40)
  replace hV := hV.keep A0 (fun _ _ h => h)
  replace hX := hX.keep A0 (fun _ _ h => h)
  replace hA := hA.alloc (.cells #[.int .u64 0, .int .u64 0, .int .u64 0, .int .u64 0, .int .u64 0] 40)
  clear A0
  have ht0 : El (w.alloc (.cells #[.int .u64 0, .int .u64 0, .int .u64 0, .int .u64 0, .int .u64 0] 40)) (w.heap.size) 0 0 := by have h := El.zero w; (try simp only [World.size_alloc] at h); exact h
  have A0 := (Upd.refl (w.alloc (.cells #[.int .u64 0, .int .u64 0, .int .u64 0, .int .u64 0, .int .u64 0] 40)) (fun _ _ => False)).alloc (.cells #[.int .u64 0, .int .u64 0, .int .u64 0, .int .u64 0, .int .u64 0] 40)
  replace hV := hV.keep A0 (fun _ _ h => h)
  replace hX := hX.keep A0 (fun _ _ h => h)
  replace ht0 := ht0.keep A0 (fun _ _ h => h)
  replace hA := hA.alloc (.cells #[.int .u64 0, .int .u64 0, .int .u64 0, .int .u64 0, .int .u64 0] 40)
  clear A0
  have ht1 : El ((w.alloc (.cells #[.int .u64 0, .int .u64 0, .int .u64 0, .int .u64 0, .int .u64 0] 40)).alloc (.cells #[.int .u64 0, .int .u64 0, .int .u64 0, .int .u64 0, .int .u64 0] 40)) (w.heap.size + 1) 0 0 := by have h := El.zero (w.alloc (.cells #[.int .u64 0, .int .u64 0, .int .u64 0, .int .u64 0, .int .u64 0] 40)); (try simp only [World.size_alloc] at h); exact h
  have A0 := (Upd.refl ((w.alloc (.cells #[.int .u64 0, .int .u64 0, .int .u64 0, .int .u64 0, .int .u64 0] 40)).alloc (.cells #[.int .u64 0, .int .u64 0, .int .u64 0, .int .u64 0, .int .u64 0] 40)) (fun _ _ => False)).alloc (.cells #[.int .u64 0, .int .u64 0, .int .u64 0, .int .u64 0, .int .u64 0] 40)
  replace hV := hV.keep A0 (fun _ _ h => h)
  replace hX := hX.keep A0 (fun _ _ h => h)
  replace ht0 := ht0.keep A0 (fun _ _ h => h)
  replace ht1 := ht1.keep A0 (fun _ _ h => h)
  replace hA := hA.alloc (.cells #[.int .u64 0, .int .u64 0, .int .u64 0, .int .u64 0, .int .u64 0] 40)
  clear A0
  have ht2 : El (((w.alloc (.cells #[.int .u64 0, .int .u64 0, .int .u64 0, .int .u64 0, .int .u64 0] 40)).alloc (.cells #[.int .u64 0, .int .u64 0, .int .u64 0, .int .u64 0, .int .u64 0] 40)).alloc (.cells #[.int .u64 0, .int .u64 0, .int .u64 0, .int .u64 0, .int .u64 0] 40)) (w.heap.size + 1 + 1) 0 0 := by have h := El.zero ((w.alloc (.cells #[.int .u64 0, .int .u64 0, .int .u64 0, .int .u64 0, .int .u64 0] 40)).alloc (.cells #[.int .u64 0, .int .u64 0, .int .u64 0, .int .u64 0, .int .u64 0] 40)); (try simp only [World.size_alloc] at h); exact h
  go_wp2_with fail
  refine (sq_el (w.heap.size) 0 ab ao 0 X _ ht0 hX).mono ?_
  rintro e w1 ⟨rfl, hU, hE⟩
  have s1 := hU.size
  try simp only [World.size_alloc] at s1
  replace hV := hV.keep hU (fun i hi h => by obtain ⟨h1, h2, h3⟩ := h; omega)
  replace hX := hX.keep hU (fun i hi h => by obtain ⟨h1, h2, h3⟩ := h; omega)
  replace ht1 := ht1.keep hU (fun i hi h => by obtain ⟨h1, h2, h3⟩ := h; omega)
  replace ht2 := ht2.keep hU (fun i hi h => by obtain ⟨h1, h2, h3⟩ := h; omega)
  replace hA := hA.trans hU (fun b o hb h => by obtain ⟨h1, h2, h3⟩ := h; exfalso; omega)
  clear hU
  clear ht0
  obtain ⟨x1, ex⟩ : ∃ x : F, x = X * X := ⟨_, rfl⟩
  rw [← ex] at hE
  have X1 := Lib.hid ex
  clear ex
  have ht0 := hE
  clear hE
  go_wp2_with fail
  refine (mul_el (w.heap.size + 1) 0 ab ao (w.heap.size) 0 0 X x1 _ ht1 hX ht0.r).mono ?_
  rintro e w2 ⟨rfl, hU, hE⟩
  have s2 := hU.size
  try simp only [World.size_alloc] at s2
  replace hV := hV.keep hU (fun i hi h => by obtain ⟨h1, h2, h3⟩ := h; omega)
  replace hX := hX.keep hU (fun i hi h => by obtain ⟨h1, h2, h3⟩ := h; omega)
  replace ht0 := ht0.keep hU (fun i hi h => by obtain ⟨h1, h2, h3⟩ := h; omega)
  replace ht2 := ht2.keep hU (fun i hi h => by obtain ⟨h1, h2, h3⟩ := h; omega)
  replace hA := hA.trans hU (fun b o hb h => by obtain ⟨h1, h2, h3⟩ := h; exfalso; omega)
  clear hU
  clear ht1
  obtain ⟨x2, ex⟩ : ∃ x : F, x = X * x1 := ⟨_, rfl⟩
  rw [← ex] at hE
  have X2 := Lib.hid ex
  clear ex
  have ht1 := hE
  clear hE
  go_wp2_with fail
  refine (sq_el (w.heap.size) 0 (w.heap.size + 1) 0 x1 x2 _ ht0 ht1.r).mono ?_
  rintro e w3 ⟨rfl, hU, hE⟩
  have s3 := hU.size
  try simp only [World.size_alloc] at s3
  replace hV := hV.keep hU (fun i hi h => by obtain ⟨h1, h2, h3⟩ := h; omega)
  replace hX := hX.keep hU (fun i hi h => by obtain ⟨h1, h2, h3⟩ := h; omega)
  replace ht1 := ht1.keep hU (fun i hi h => by obtain ⟨h1, h2, h3⟩ := h; omega)
  replace ht2 := ht2.keep hU (fun i hi h => by obtain ⟨h1, h2, h3⟩ := h; omega)
  replace hA := hA.trans hU (fun b o hb h => by obtain ⟨h1, h2, h3⟩ := h; exfalso; omega)
  clear hU
  clear ht0
  obtain ⟨x3, ex⟩ : ∃ x : F, x = x2 * x2 := ⟨_, rfl⟩
  rw [← ex] at hE
  have X3 := Lib.hid ex
  clear ex
  have ht0 := hE
  clear hE
  go_wp2_with fail
  refine (sq_el (w.heap.size) 0 (w.heap.size) 0 x3 x3 _ ht0 ht0.r).mono ?_
  rintro e w4 ⟨rfl, hU, hE⟩
  have s4 := hU.size
  try simp only [World.size_alloc] at s4
  replace hV := hV.keep hU (fun i hi h => by obtain ⟨h1, h2, h3⟩ := h; omega)
  replace hX := hX.keep hU (fun i hi h => by obtain ⟨h1, h2, h3⟩ := h; omega)
  replace ht1 := ht1.keep hU (fun i hi h => by obtain ⟨h1, h2, h3⟩ := h; omega)
  replace ht2 := ht2.keep hU (fun i hi h => by obtain ⟨h1, h2, h3⟩ := h; omega)
  replace hA := hA.trans hU (fun b o hb h => by obtain ⟨h1, h2, h3⟩ := h; exfalso; omega)
  clear hU
  clear ht0
  obtain ⟨x4, ex⟩ : ∃ x : F, x = x3 * x3 := ⟨_, rfl⟩
  rw [← ex] at hE
  have X4 := Lib.hid ex
  clear ex
  have ht0 := hE
  clear hE
  go_wp2_with fail
  refine (mul_el (w.heap.size) 0 (w.heap.size + 1) 0 (w.heap.size) 0 x4 x2 x4 _ ht0 ht1.r ht0.r).mono ?_
  rintro e w5 ⟨rfl, hU, hE⟩
  have s5 := hU.size
  try simp only [World.size_alloc] at s5
  replace hV := hV.keep hU (fun i hi h => by obtain ⟨h1, h2, h3⟩ := h; omega)
  replace hX := hX.keep hU (fun i hi h => by obtain ⟨h1, h2, h3⟩ := h; omega)
  replace ht1 := ht1.keep hU (fun i hi h => by obtain ⟨h1, h2, h3⟩ := h; omega)
  replace ht2 := ht2.keep hU (fun i hi h => by obtain ⟨h1, h2, h3⟩ := h; omega)
  replace hA := hA.trans hU (fun b o hb h => by obtain ⟨h1, h2, h3⟩ := h; exfalso; omega)
  clear hU
  clear ht0
  obtain ⟨x5, ex⟩ : ∃ x : F, x = x2 * x4 := ⟨_, rfl⟩
  rw [← ex] at hE
  have X5 := Lib.hid ex
  clear ex
  have ht0 := hE
  clear hE
  go_wp2_with fail
  refine (sq_el (w.heap.size) 0 (w.heap.size) 0 x5 x5 _ ht0 ht0.r).mono ?_
  rintro e w6 ⟨rfl, hU, hE⟩
  have s6 := hU.size
  try simp only [World.size_alloc] at s6
  replace hV := hV.keep hU (fun i hi h => by obtain ⟨h1, h2, h3⟩ := h; omega)
  replace hX := hX.keep hU (fun i hi h => by obtain ⟨h1, h2, h3⟩ := h; omega)
  replace ht1 := ht1.keep hU (fun i hi h => by obtain ⟨h1, h2, h3⟩ := h; omega)
  replace ht2 := ht2.keep hU (fun i hi h => by obtain ⟨h1, h2, h3⟩ := h; omega)
  replace hA := hA.trans hU (fun b o hb h => by obtain ⟨h1, h2, h3⟩ := h; exfalso; omega)
  clear hU
  clear ht0
  obtain ⟨x6, ex⟩ : ∃ x : F, x = x5 * x5 := ⟨_, rfl⟩
  rw [← ex] at hE
  have X6 := Lib.hid ex
  clear ex
  have ht0 := hE
  clear hE
  go_wp2_with fail
  refine (mul_el (w.heap.size) 0 ab ao (w.heap.size) 0 x6 X x6 _ ht0 hX ht0.r).mono ?_
  rintro e w7 ⟨rfl, hU, hE⟩
  have s7 := hU.size
  try simp only [World.size_alloc] at s7
  replace hV := hV.keep hU (fun i hi h => by obtain ⟨h1, h2, h3⟩ := h; omega)
  replace hX := hX.keep hU (fun i hi h => by obtain ⟨h1, h2, h3⟩ := h; omega)
  replace ht1 := ht1.keep hU (fun i hi h => by obtain ⟨h1, h2, h3⟩ := h; omega)
  replace ht2 := ht2.keep hU (fun i hi h => by obtain ⟨h1, h2, h3⟩ := h; omega)
  replace hA := hA.trans hU (fun b o hb h => by obtain ⟨h1, h2, h3⟩ := h; exfalso; omega)
  clear hU
  clear ht0
  obtain ⟨x7, ex⟩ : ∃ x : F, x = X * x6 := ⟨_, rfl⟩
  rw [← ex] at hE
  have X7 := Lib.hid ex
  clear ex
  have ht0 := hE
  clear hE
  go_wp2_with fail
  refine (sqn_el 5 (by decide) (by decide) (w.heap.size + 1) 0 (w.heap.size) 0 x2 x7 _ ht1 ht0.r).mono ?_
  rintro e w8 ⟨rfl, hU, hE⟩
  replace hE : El _ _ _ (sqN x7 5) := hE
  have s8 := hU.size
  try simp only [World.size_alloc] at s8
  replace hV := hV.keep hU (fun i hi h => by obtain ⟨h1, h2, h3⟩ := h; omega)
  replace hX := hX.keep hU (fun i hi h => by obtain ⟨h1, h2, h3⟩ := h; omega)
  replace ht0 := ht0.keep hU (fun i hi h => by obtain ⟨h1, h2, h3⟩ := h; omega)
  replace ht2 := ht2.keep hU (fun i hi h => by obtain ⟨h1, h2, h3⟩ := h; omega)
  replace hA := hA.trans hU (fun b o hb h => by obtain ⟨h1, h2, h3⟩ := h; exfalso; omega)
  clear hU
  clear ht1
  obtain ⟨x8, ex⟩ : ∃ x : F, x = sqN x7 5 := ⟨_, rfl⟩
  rw [← ex] at hE
  have X8 := Lib.hid ex
  clear ex
  have ht1 := hE
  clear hE
  go_wp2_with fail
  refine (mul_el (w.heap.size + 1) 0 (w.heap.size + 1) 0 (w.heap.size) 0 x8 x8 x7 _ ht1 ht1.r ht0.r).mono ?_
  rintro e w9 ⟨rfl, hU, hE⟩
  have s9 := hU.size
  try simp only [World.size_alloc] at s9
  replace hV := hV.keep hU (fun i hi h => by obtain ⟨h1, h2, h3⟩ := h; omega)
  replace hX := hX.keep hU (fun i hi h => by obtain ⟨h1, h2, h3⟩ := h; omega)
  replace ht0 := ht0.keep hU (fun i hi h => by obtain ⟨h1, h2, h3⟩ := h; omega)
  replace ht2 := ht2.keep hU (fun i hi h => by obtain ⟨h1, h2, h3⟩ := h; omega)
  replace hA := hA.trans hU (fun b o hb h => by obtain ⟨h1, h2, h3⟩ := h; exfalso; omega)
  clear hU
  clear ht1
  obtain ⟨x9, ex⟩ : ∃ x : F, x = x8 * x7 := ⟨_, rfl⟩
  rw [← ex] at hE
  have X9 := Lib.hid ex
  clear ex
  have ht1 := hE
  clear hE
  go_wp2_with fail
  refine (sqn_el 5 (by decide) (by decide) (w.heap.size + 1 + 1) 0 (w.heap.size + 1) 0 0 x9 _ ht2 ht1.r).mono ?_
  rintro e w10 ⟨rfl, hU, hE⟩
  replace hE : El _ _ _ (sqN x9 5) := hE
  have s10 := hU.size
  try simp only [World.size_alloc] at s10
  replace hV := hV.keep hU (fun i hi h => by obtain ⟨h1, h2, h3⟩ := h; omega)
  replace hX := hX.keep hU (fun i hi h => by obtain ⟨h1, h2, h3⟩ := h; omega)
  replace ht0 := ht0.keep hU (fun i hi h => by obtain ⟨h1, h2, h3⟩ := h; omega)
  replace ht1 := ht1.keep hU (fun i hi h => by obtain ⟨h1, h2, h3⟩ := h; omega)
  replace hA := hA.trans hU (fun b o hb h => by obtain ⟨h1, h2, h3⟩ := h; exfalso; omega)
  clear hU
  clear ht2
  obtain ⟨x10, ex⟩ : ∃ x : F, x = sqN x9 5 := ⟨_, rfl⟩
  rw [← ex] at hE
  have X10 := Lib.hid ex
  clear ex
  have ht2 := hE
  clear hE
  go_wp2_with fail
  refine (mul_el (w.heap.size) 0 (w.heap.size + 1 + 1) 0 (w.heap.size) 0 x7 x10 x7 _ ht0 ht2.r ht0.r).mono ?_
  rintro e w11 ⟨rfl, hU, hE⟩
  have s11 := hU.size
  try simp only [World.size_alloc] at s11
  replace hV := hV.keep hU (fun i hi h => by obtain ⟨h1, h2, h3⟩ := h; omega)
  replace hX := hX.keep hU (fun i hi h => by obtain ⟨h1, h2, h3⟩ := h; omega)
  replace ht1 := ht1.keep hU (fun i hi h => by obtain ⟨h1, h2, h3⟩ := h; omega)
  replace ht2 := ht2.keep hU (fun i hi h => by obtain ⟨h1, h2, h3⟩ := h; omega)
  replace hA := hA.trans hU (fun b o hb h => by obtain ⟨h1, h2, h3⟩ := h; exfalso; omega)
  clear hU
  clear ht0
  obtain ⟨x11, ex⟩ : ∃ x : F, x = x10 * x7 := ⟨_, rfl⟩
  rw [← ex] at hE
  have X11 := Lib.hid ex
  clear ex
  have ht0 := hE
  clear hE
  go_wp2_with fail
  refine (sqn_el 15 (by decide) (by decide) (w.heap.size + 1 + 1) 0 (w.heap.size) 0 x10 x11 _ ht2 ht0.r).mono ?_
  rintro e w12 ⟨rfl, hU, hE⟩
  replace hE : El _ _ _ (sqN x11 15) := hE
  have s12 := hU.size
  try simp only [World.size_alloc] at s12
  replace hV := hV.keep hU (fun i hi h => by obtain ⟨h1, h2, h3⟩ := h; omega)
  replace hX := hX.keep hU (fun i hi h => by obtain ⟨h1, h2, h3⟩ := h; omega)
  replace ht0 := ht0.keep hU (fun i hi h => by obtain ⟨h1, h2, h3⟩ := h; omega)
  replace ht1 := ht1.keep hU (fun i hi h => by obtain ⟨h1, h2, h3⟩ := h; omega)
  replace hA := hA.trans hU (fun b o hb h => by obtain ⟨h1, h2, h3⟩ := h; exfalso; omega)
  clear hU
  clear ht2
  obtain ⟨x12, ex⟩ : ∃ x : F, x = sqN x11 15 := ⟨_, rfl⟩
  rw [← ex] at hE
  have X12 := Lib.hid ex
  clear ex
  have ht2 := hE
  clear hE
  go_wp2_with fail
  refine (mul_el (w.heap.size + 1 + 1) 0 (w.heap.size + 1 + 1) 0 (w.heap.size) 0 x12 x12 x11 _ ht2 ht2.r ht0.r).mono ?_
  rintro e w13 ⟨rfl, hU, hE⟩
  have s13 := hU.size
  try simp only [World.size_alloc] at s13
  replace hV := hV.keep hU (fun i hi h => by obtain ⟨h1, h2, h3⟩ := h; omega)
  replace hX := hX.keep hU (fun i hi h => by obtain ⟨h1, h2, h3⟩ := h; omega)
  replace ht0 := ht0.keep hU (fun i hi h => by obtain ⟨h1, h2, h3⟩ := h; omega)
  replace ht1 := ht1.keep hU (fun i hi h => by obtain ⟨h1, h2, h3⟩ := h; omega)
  replace hA := hA.trans hU (fun b o hb h => by obtain ⟨h1, h2, h3⟩ := h; exfalso; omega)
  clear hU
  clear ht2
  obtain ⟨x13, ex⟩ : ∃ x : F, x = x12 * x11 := ⟨_, rfl⟩
  rw [← ex] at hE
  have X13 := Lib.hid ex
  clear ex
  have ht2 := hE
  clear hE
  go_wp2_with fail
  refine (sqn_el 30 (by decide) (by decide) (w.heap.size) 0 (w.heap.size + 1 + 1) 0 x11 x13 _ ht0 ht2.r).mono ?_
  rintro e w14 ⟨rfl, hU, hE⟩
  replace hE : El _ _ _ (sqN x13 30) := hE
  have s14 := hU.size
  try simp only [World.size_alloc] at s14
  replace hV := hV.keep hU (fun i hi h => by obtain ⟨h1, h2, h3⟩ := h; omega)
  replace hX := hX.keep hU (fun i hi h => by obtain ⟨h1, h2, h3⟩ := h; omega)
  replace ht1 := ht1.keep hU (fun i hi h => by obtain ⟨h1, h2, h3⟩ := h; omega)
  replace ht2 := ht2.keep hU (fun i hi h => by obtain ⟨h1, h2, h3⟩ := h; omega)
  replace hA := hA.trans hU (fun b o hb h => by obtain ⟨h1, h2, h3⟩ := h; exfalso; omega)
  clear hU
  clear ht0
  obtain ⟨x14, ex⟩ : ∃ x : F, x = sqN x13 30 := ⟨_, rfl⟩
  rw [← ex] at hE
  have X14 := Lib.hid ex
  clear ex
  have ht0 := hE
  clear hE
  go_wp2_with fail
  refine (mul_el (w.heap.size) 0 (w.heap.size) 0 (w.heap.size + 1 + 1) 0 x14 x14 x13 _ ht0 ht0.r ht2.r).mono ?_
  rintro e w15 ⟨rfl, hU, hE⟩
  have s15 := hU.size
  try simp only [World.size_alloc] at s15
  replace hV := hV.keep hU (fun i hi h => by obtain ⟨h1, h2, h3⟩ := h; omega)
  replace hX := hX.keep hU (fun i hi h => by obtain ⟨h1, h2, h3⟩ := h; omega)
  replace ht1 := ht1.keep hU (fun i hi h => by obtain ⟨h1, h2, h3⟩ := h; omega)
  replace ht2 := ht2.keep hU (fun i hi h => by obtain ⟨h1, h2, h3⟩ := h; omega)
  replace hA := hA.trans hU (fun b o hb h => by obtain ⟨h1, h2, h3⟩ := h; exfalso; omega)
  clear hU
  clear ht0
  obtain ⟨x15, ex⟩ : ∃ x : F, x = x14 * x13 := ⟨_, rfl⟩
  rw [← ex] at hE
  have X15 := Lib.hid ex
  clear ex
  have ht0 := hE
  clear hE
  go_wp2_with fail
  refine (sqn_el 60 (by decide) (by decide) (w.heap.size + 1 + 1) 0 (w.heap.size) 0 x13 x15 _ ht2 ht0.r).mono ?_
  rintro e w16 ⟨rfl, hU, hE⟩
  replace hE : El _ _ _ (sqN x15 60) := hE
  have s16 := hU.size
  try simp only [World.size_alloc] at s16
  replace hV := hV.keep hU (fun i hi h => by obtain ⟨h1, h2, h3⟩ := h; omega)
  replace hX := hX.keep hU (fun i hi h => by obtain ⟨h1, h2, h3⟩ := h; omega)
  replace ht0 := ht0.keep hU (fun i hi h => by obtain ⟨h1, h2, h3⟩ := h; omega)
  replace ht1 := ht1.keep hU (fun i hi h => by obtain ⟨h1, h2, h3⟩ := h; omega)
  replace hA := hA.trans hU (fun b o hb h => by obtain ⟨h1, h2, h3⟩ := h; exfalso; omega)
  clear hU
  clear ht2
  obtain ⟨x16, ex⟩ : ∃ x : F, x = sqN x15 60 := ⟨_, rfl⟩
  rw [← ex] at hE
  have X16 := Lib.hid ex
  clear ex
  have ht2 := hE
  clear hE
  go_wp2_with fail
  refine (mul_el (w.heap.size + 1 + 1) 0 (w.heap.size + 1 + 1) 0 (w.heap.size) 0 x16 x16 x15 _ ht2 ht2.r ht0.r).mono ?_
  rintro e w17 ⟨rfl, hU, hE⟩
  have s17 := hU.size
  try simp only [World.size_alloc] at s17
  replace hV := hV.keep hU (fun i hi h => by obtain ⟨h1, h2, h3⟩ := h; omega)
  replace hX := hX.keep hU (fun i hi h => by obtain ⟨h1, h2, h3⟩ := h; omega)
  replace ht0 := ht0.keep hU (fun i hi h => by obtain ⟨h1, h2, h3⟩ := h; omega)
  replace ht1 := ht1.keep hU (fun i hi h => by obtain ⟨h1, h2, h3⟩ := h; omega)
  replace hA := hA.trans hU (fun b o hb h => by obtain ⟨h1, h2, h3⟩ := h; exfalso; omega)
  clear hU
  clear ht2
  obtain ⟨x17, ex⟩ : ∃ x : F, x = x16 * x15 := ⟨_, rfl⟩
  rw [← ex] at hE
  have X17 := Lib.hid ex
  clear ex
  have ht2 := hE
  clear hE
  go_wp2_with fail
  refine (sqn_el 120 (by decide) (by decide) (w.heap.size) 0 (w.heap.size + 1 + 1) 0 x15 x17 _ ht0 ht2.r).mono ?_
  rintro e w18 ⟨rfl, hU, hE⟩
  replace hE : El _ _ _ (sqN x17 120) := hE
  have s18 := hU.size
  try simp only [World.size_alloc] at s18
  replace hV := hV.keep hU (fun i hi h => by obtain ⟨h1, h2, h3⟩ := h; omega)
  replace hX := hX.keep hU (fun i hi h => by obtain ⟨h1, h2, h3⟩ := h; omega)
  replace ht1 := ht1.keep hU (fun i hi h => by obtain ⟨h1, h2, h3⟩ := h; omega)
  replace ht2 := ht2.keep hU (fun i hi h => by obtain ⟨h1, h2, h3⟩ := h; omega)
  replace hA := hA.trans hU (fun b o hb h => by obtain ⟨h1, h2, h3⟩ := h; exfalso; omega)
  clear hU
  clear ht0
  obtain ⟨x18, ex⟩ : ∃ x : F, x = sqN x17 120 := ⟨_, rfl⟩
  rw [← ex] at hE
  have X18 := Lib.hid ex
  clear ex
  have ht0 := hE
  clear hE
  go_wp2_with fail
  refine (mul_el (w.heap.size) 0 (w.heap.size) 0 (w.heap.size + 1 + 1) 0 x18 x18 x17 _ ht0 ht0.r ht2.r).mono ?_
  rintro e w19 ⟨rfl, hU, hE⟩
  have s19 := hU.size
  try simp only [World.size_alloc] at s19
  replace hV := hV.keep hU (fun i hi h => by obtain ⟨h1, h2, h3⟩ := h; omega)
  replace hX := hX.keep hU (fun i hi h => by obtain ⟨h1, h2, h3⟩ := h; omega)
  replace ht1 := ht1.keep hU (fun i hi h => by obtain ⟨h1, h2, h3⟩ := h; omega)
  replace ht2 := ht2.keep hU (fun i hi h => by obtain ⟨h1, h2, h3⟩ := h; omega)
  replace hA := hA.trans hU (fun b o hb h => by obtain ⟨h1, h2, h3⟩ := h; exfalso; omega)
  clear hU
  clear ht0
  obtain ⟨x19, ex⟩ : ∃ x : F, x = x18 * x17 := ⟨_, rfl⟩
  rw [← ex] at hE
  have X19 := Lib.hid ex
  clear ex
  have ht0 := hE
  clear hE
  go_wp2_with fail
  refine (sqn_el 10 (by decide) (by decide) (w.heap.size) 0 (w.heap.size) 0 x19 x19 _ ht0 ht0.r).mono ?_
  rintro e w20 ⟨rfl, hU, hE⟩
  replace hE : El _ _ _ (sqN x19 10) := hE
  have s20 := hU.size
  try simp only [World.size_alloc] at s20
  replace hV := hV.keep hU (fun i hi h => by obtain ⟨h1, h2, h3⟩ := h; omega)
  replace hX := hX.keep hU (fun i hi h => by obtain ⟨h1, h2, h3⟩ := h; omega)
  replace ht1 := ht1.keep hU (fun i hi h => by obtain ⟨h1, h2, h3⟩ := h; omega)
  replace ht2 := ht2.keep hU (fun i hi h => by obtain ⟨h1, h2, h3⟩ := h; omega)
  replace hA := hA.trans hU (fun b o hb h => by obtain ⟨h1, h2, h3⟩ := h; exfalso; omega)
  clear hU
  clear ht0
  obtain ⟨x20, ex⟩ : ∃ x : F, x = sqN x19 10 := ⟨_, rfl⟩
  rw [← ex] at hE
  have X20 := Lib.hid ex
  clear ex
  have ht0 := hE
  clear hE
  go_wp2_with fail
  refine (mul_el (w.heap.size) 0 (w.heap.size) 0 (w.heap.size + 1) 0 x20 x20 x9 _ ht0 ht0.r ht1.r).mono ?_
  rintro e w21 ⟨rfl, hU, hE⟩
  have s21 := hU.size
  try simp only [World.size_alloc] at s21
  replace hV := hV.keep hU (fun i hi h => by obtain ⟨h1, h2, h3⟩ := h; omega)
  replace hX := hX.keep hU (fun i hi h => by obtain ⟨h1, h2, h3⟩ := h; omega)
  replace ht1 := ht1.keep hU (fun i hi h => by obtain ⟨h1, h2, h3⟩ := h; omega)
  replace ht2 := ht2.keep hU (fun i hi h => by obtain ⟨h1, h2, h3⟩ := h; omega)
  replace hA := hA.trans hU (fun b o hb h => by obtain ⟨h1, h2, h3⟩ := h; exfalso; omega)
  clear hU
  clear ht0
  obtain ⟨x21, ex⟩ : ∃ x : F, x = x20 * x9 := ⟨_, rfl⟩
  rw [← ex] at hE
  have X21 := Lib.hid ex
  clear ex
  have ht0 := hE
  clear hE
  go_wp2_with fail
  refine (sqn_el 2 (by decide) (by decide) (w.heap.size) 0 (w.heap.size) 0 x21 x21 _ ht0 ht0.r).mono ?_
  rintro e w22 ⟨rfl, hU, hE⟩
  replace hE : El _ _ _ (sqN x21 2) := hE
  have s22 := hU.size
  try simp only [World.size_alloc] at s22
  replace hV := hV.keep hU (fun i hi h => by obtain ⟨h1, h2, h3⟩ := h; omega)
  replace hX := hX.keep hU (fun i hi h => by obtain ⟨h1, h2, h3⟩ := h; omega)
  replace ht1 := ht1.keep hU (fun i hi h => by obtain ⟨h1, h2, h3⟩ := h; omega)
  replace ht2 := ht2.keep hU (fun i hi h => by obtain ⟨h1, h2, h3⟩ := h; omega)
  replace hA := hA.trans hU (fun b o hb h => by obtain ⟨h1, h2, h3⟩ := h; exfalso; omega)
  clear hU
  clear ht0
  obtain ⟨x22, ex⟩ : ∃ x : F, x = sqN x21 2 := ⟨_, rfl⟩
  rw [← ex] at hE
  have X22 := Lib.hid ex
  clear ex
  have ht0 := hE
  clear hE
  go_wp2_with fail
  refine (mul_el vb vo (w.heap.size) 0 ab ao V x22 X _ hV ht0.r hX).mono ?_
  rintro e w23 ⟨rfl, hU, hE⟩
  have s23 := hU.size
  try simp only [World.size_alloc] at s23
  replace hX := hX.keep hU (fun i hi h => by obtain ⟨h1, h2, h3⟩ := h; omega)
  replace ht0 := ht0.keep hU (fun i hi h => by obtain ⟨h1, h2, h3⟩ := h; omega)
  replace ht1 := ht1.keep hU (fun i hi h => by obtain ⟨h1, h2, h3⟩ := h; omega)
  replace ht2 := ht2.keep hU (fun i hi h => by obtain ⟨h1, h2, h3⟩ := h; omega)
  replace hA := hA.trans hU (fun b o hb h => by obtain ⟨h1, h2, h3⟩ := h; exact ⟨h1, by omega, by omega⟩)
  clear hU
  clear hV
  obtain ⟨x23, ex⟩ : ∃ x : F, x = x22 * X := ⟨_, rfl⟩
  rw [← ex] at hE
  have X23 := Lib.hid ex
  clear ex
  have hV := hE
  clear hE
  go_wp2
  go_ret
  have pX : X = fpow X 1 := (fpow_one X).symm
  have px1 : x1 = fpow X 2 := pw_mul X1.out pX pX (by decide)
  have px2 : x2 = fpow X 3 := pw_mul X2.out pX px1 (by decide)
  have px3 : x3 = fpow X 6 := pw_mul X3.out px2 px2 (by decide)
  have px4 : x4 = fpow X 12 := pw_mul X4.out px3 px3 (by decide)
  have px5 : x5 = fpow X 15 := pw_mul X5.out px2 px4 (by decide)
  have px6 : x6 = fpow X 30 := pw_mul X6.out px5 px5 (by decide)
  have px7 : x7 = fpow X 31 := pw_mul X7.out pX px6 (by decide)
  have px8 : x8 = fpow X 992 := pw_sqn X8.out px7 (by decide)
  have px9 : x9 = fpow X 1023 := pw_mul X9.out px8 px7 (by decide)
  have px10 : x10 = fpow X 32736 := pw_sqn X10.out px9 (by decide)
  have px11 : x11 = fpow X 32767 := pw_mul X11.out px10 px7 (by decide)
  have px12 : x12 = fpow X 1073709056 := pw_sqn X12.out px11 (by decide)
  have px13 : x13 = fpow X 1073741823 := pw_mul X13.out px12 px11 (by decide)
  have px14 : x14 = fpow X 1152921503533105152 := pw_sqn X14.out px13 (by decide)
  have px15 : x15 = fpow X 1152921504606846975 := pw_mul X15.out px14 px13 (by decide)
  have px16 : x16 = fpow X 1329227995784915871750885555673497600 := pw_sqn X16.out px15 (by decide)
  have px17 : x17 = fpow X 1329227995784915872903807060280344575 := pw_mul X17.out px16 px15 (by decide)
  have px18 : x18 = fpow X 1766847064778384329583297500742918514498255901090703085217799141012275200 := pw_sqn X18.out px17 (by decide)
  have px19 : x19 = fpow X 1766847064778384329583297500742918515827483896875618958121606201292619775 := pw_mul X19.out px18 px17 (by decide)
  have px20 : x20 = fpow X 1809251394333065553493296640760748560207343510400633813116524750123642649600 := pw_sqn X20.out px19 (by decide)
  have px21 : x21 = fpow X 1809251394333065553493296640760748560207343510400633813116524750123642650623 := pw_mul X21.out px20 px9 (by decide)
  have px22 : x22 = fpow X 7237005577332262213973186563042994240829374041602535252466099000494570602492 := pw_sqn X22.out px21 (by decide)
  have px23 : x23 = fpow X 7237005577332262213973186563042994240829374041602535252466099000494570602493 := pw_mul X23.out px22 pX (by decide)
  exact ⟨rfl, hA, by rw [← px23]; exact hV⟩

end Go.Proofs.YtkibnongmkhbaaaGreatDoor
end
