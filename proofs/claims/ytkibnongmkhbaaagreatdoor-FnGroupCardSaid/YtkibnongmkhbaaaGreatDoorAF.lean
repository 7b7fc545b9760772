/- Part of the proof that laws.FnGroup returns true for all 32 bytes p, q and x: the field's SqrtRatio, the curve's constant.
   Conditions: those that each theorem states. -/
import Derived.Test.YtkibnongmkhbaaaGreatDoorAE

section
open Go Go.RowKit
namespace Go.Proofs.YtkibnongmkhbaaaGreatDoor
open Ed


theorem bits_i64_or (a b : Int) (ha : a = 0 ∨ a = 1) (hb : b = 0 ∨ b = 1) : bits .or .i64 a b = if a = 1 ∨ b = 1 then 1 else 0 := by
  rcases ha with rfl | rfl <;> rcases hb with rfl | rfl <;> decide

theorem eqI_01 (X Y : F) : eqI X Y = 0 ∨ eqI X Y = 1 := by
  unfold eqI; split
  · exact .inr rfl
  · exact .inl rfl
theorem eqI_1 (X Y : F) : eqI X Y = 1 ↔ X = Y := by
  unfold eqI; split
  · rename_i h; exact ⟨fun _ => h, fun _ => rfl⟩
  · rename_i h; exact ⟨fun h1 => absurd h1 (by decide), fun h1 => absurd h1 h⟩

/-- Select -/
theorem sel_any (c : Int) (hc : c = 0 ∨ c = 1) (vb vo ab ao bb bo : Nat) (V X Y : F) (w : World) (hV : El w vb vo V) (hX : ElR w ab ao X) (hY : ElR w bb bo Y) (pa : Ap vb vo ab ao) (pb : Ap vb vo bb bo) :
    Calls Tryz.prog 65 #[.pointer (some ⟨vb, vo, none⟩), .pointer (some ⟨ab, ao, none⟩), .pointer (some ⟨bb, bo, none⟩), .int .i64 c] w fun e w' => e = .returned (.pointer (some ⟨vb, vo, none⟩)) ∧ Upd w w' (Rg vb vo 5) ∧ El w' vb vo (if c = 1 then X else Y) := by
  rcases hc with rfl | rfl
  · exact (sel0_c vb vo ab ao bb bo V X Y w hV hX hY pa pb).mono fun e w' h => by rw [if_neg (by decide)]; exact h
  · exact (sel1_c vb vo ab ao bb bo V X Y w hV hX hY pa pb).mono fun e w' h => by rw [if_pos rfl]; exact h

theorem m1_val : z (lv 1718705420411056 234908883556509 2233514472574048 2117202627021982 765476049583133) = I := by
  rw [show lv 1718705420411056 234908883556509 2233514472574048 2117202627021982 765476049583133 = ((19681161376707505956807079304988542015446066515923890162744021073123829784752 : Nat) : Int) by decide, z_nat]
  rfl

theorem Glob.m1 {B : Nat} {w : World} (h : Glob B w) : ∃ sb so, w.cell? ⟨0, 0, none⟩ = some (.pointer (some ⟨sb, so, none⟩)) ∧ ElR w sb so I ∧ sb < B := by
  obtain ⟨_, _, _, _, sb, so, h⟩ := h
  exact ⟨sb, so, h.ps, ⟨_, _, _, _, _, h.rs, ⟨by decide, by decide⟩, ⟨by decide, by decide⟩, ⟨by decide, by decide⟩, ⟨by decide, by decide⟩, ⟨by decide, by decide⟩, m1_val⟩, h.hs⟩

/-- the root that the code reckons -/
def srR (u v : F) : F := u * (v * v * v) * fpow (u * (v * v * v) * (v * v * (v * v))) 7237005577332262213973186563042994240829374041602535252466099000494570602493
def srC (u v : F) : F := v * (srR u v * srR u v)

set_option maxRecDepth 100000 in
set_option maxHeartbeats 4000000 in
theorem sqrt_c (B vb vo ab ao bb bo : Nat) (V X Y : F) (w : World) (hG : Glob B w) (hB : B ≤ vb) (hV : El w vb vo V) (hX : ElR w ab ao X) (hY : ElR w bb bo Y) (hd : vb ≠ ab) (hd' : vb ≠ bb) :
    Calls Tryz.prog 63 #[.pointer (some ⟨vb, vo, none⟩), .pointer (some ⟨ab, ao, none⟩), .pointer (some ⟨bb, bo, none⟩)] w fun e w' =>
      ∃ s : Int, e = .returned (.tuple #[.pointer (some ⟨vb, vo, none⟩), .int .i64 s]) ∧ Upd w w' (Rg vb vo 5) ∧ (s = 0 ∨ s = 1) ∧ (s = 1 ↔ (srC X Y = X ∨ srC X Y = -X)) ∧
      El w' vb vo (absF (if srC X Y = -X ∨ srC X Y = -X * I then srR X Y * I else srR X Y)) := by
  have l1 := hV.lt
  have l2 := hX.lt
  have l3 := hY.lt
  have hlB : B ≤ w.heap.size := by omega
  have hA := Upd.refl w (Rg vb vo 5)
  go_enter Tryz.func63, Tryz.ntmps63
  have A0 := (Upd.refl w (fun _ _ => False)).alloc (.cells #[.int .u64 0, .int .u64 0, .int .u64 0, .int .u64 0, .int .u64 0] 40)
  replace hV := hV.keep A0 (fun _ _ h => h)
  replace hX := hX.keep A0 (fun _ _ h => h)
  replace hY := hY.keep A0 (fun _ _ h => h)
  replace hG := hG.keep A0 (fun _ _ _ h => h)
  replace hA := hA.alloc (.cells #[.int .u64 0, .int .u64 0, .int .u64 0, .int .u64 0, .int .u64 0] 40)
  clear A0
  have ht0 : El (w.alloc (.cells #[.int .u64 0, .int .u64 0, .int .u64 0, .int .u64 0, .int .u64 0] 40)) (w.heap.size) 0 0 := by have h := El.zero w; (try simp only [World.size_alloc] at h); exact h
  have A0 := (Upd.refl (w.alloc (.cells #[.int .u64 0, .int .u64 0, .int .u64 0, .int .u64 0, .int .u64 0] 40)) (fun _ _ => False)).alloc (.cells #[.int .u64 0, .int .u64 0, .int .u64 0, .int .u64 0, .int .u64 0] 40)
  replace hV := hV.keep A0 (fun _ _ h => h)
  replace hX := hX.keep A0 (fun _ _ h => h)
  replace hY := hY.keep A0 (fun _ _ h => h)
  replace ht0 := ht0.keep A0 (fun _ _ h => h)
  replace hG := hG.keep A0 (fun _ _ _ h => h)
  replace hA := hA.alloc (.cells #[.int .u64 0, .int .u64 0, .int .u64 0, .int .u64 0, .int .u64 0] 40)
  clear A0
  have hv2 : El ((w.alloc (.cells #[.int .u64 0, .int .u64 0, .int .u64 0, .int .u64 0, .int .u64 0] 40)).alloc (.cells #[.int .u64 0, .int .u64 0, .int .u64 0, .int .u64 0, .int .u64 0] 40)) (w.heap.size + 1) 0 0 := by have h := El.zero (w.alloc (.cells #[.int .u64 0, .int .u64 0, .int .u64 0, .int .u64 0, .int .u64 0] 40)); (try simp only [World.size_alloc] at h); exact h
  go_wp2_with fail
  refine (sq_el (w.heap.size + 1) 0 bb bo 0 Y _ hv2 hY).mono ?_
  rintro e w1 ⟨rfl, hU, hE⟩
  have s1 := hU.size
  try simp only [World.size_alloc] at s1
  replace hV := hV.keep hU (fun i hi h => by obtain ⟨h1, h2, h3⟩ := h; omega)
  replace hX := hX.keep hU (fun i hi h => by obtain ⟨h1, h2, h3⟩ := h; omega)
  replace hY := hY.keep hU (fun i hi h => by obtain ⟨h1, h2, h3⟩ := h; omega)
  replace ht0 := ht0.keep hU (fun i hi h => by obtain ⟨h1, h2, h3⟩ := h; omega)
  replace hG := hG.keep hU (fun b o hb h => by obtain ⟨h1, h2, h3⟩ := h; omega)
  replace hA := hA.trans hU (fun b o hb h => by obtain ⟨h1, h2, h3⟩ := h; exfalso; omega)
  clear hU
  clear hv2
  obtain ⟨x1, ex⟩ : ∃ x : F, x = Y * Y := ⟨_, rfl⟩
  rw [← ex] at hE
  have X1 := Lib.hid ex
  clear ex
  have hv2 := hE
  clear hE
  have A0 := (Upd.refl w1 (fun _ _ => False)).alloc (.cells #[.int .u64 0, .int .u64 0, .int .u64 0, .int .u64 0, .int .u64 0] 40)
  replace hV := hV.keep A0 (fun _ _ h => h)
  replace hX := hX.keep A0 (fun _ _ h => h)
  replace hY := hY.keep A0 (fun _ _ h => h)
  replace ht0 := ht0.keep A0 (fun _ _ h => h)
  replace hv2 := hv2.keep A0 (fun _ _ h => h)
  replace hG := hG.keep A0 (fun _ _ _ h => h)
  replace hA := hA.alloc (.cells #[.int .u64 0, .int .u64 0, .int .u64 0, .int .u64 0, .int .u64 0] 40)
  clear A0
  have huv3 : El (w1.alloc (.cells #[.int .u64 0, .int .u64 0, .int .u64 0, .int .u64 0, .int .u64 0] 40)) (w1.heap.size) 0 0 := by have h := El.zero w1; (try simp only [World.size_alloc] at h); exact h
  go_wp2_with fail
  refine (mul_el (w.heap.size) 0 (w.heap.size + 1) 0 bb bo 0 x1 Y _ ht0 hv2.r hY).mono ?_
  rintro e w2 ⟨rfl, hU, hE⟩
  have s2 := hU.size
  try simp only [World.size_alloc] at s2
  replace hV := hV.keep hU (fun i hi h => by obtain ⟨h1, h2, h3⟩ := h; omega)
  replace hX := hX.keep hU (fun i hi h => by obtain ⟨h1, h2, h3⟩ := h; omega)
  replace hY := hY.keep hU (fun i hi h => by obtain ⟨h1, h2, h3⟩ := h; omega)
  replace hv2 := hv2.keep hU (fun i hi h => by obtain ⟨h1, h2, h3⟩ := h; omega)
  replace huv3 := huv3.keep hU (fun i hi h => by obtain ⟨h1, h2, h3⟩ := h; omega)
  replace hG := hG.keep hU (fun b o hb h => by obtain ⟨h1, h2, h3⟩ := h; omega)
  replace hA := hA.trans hU (fun b o hb h => by obtain ⟨h1, h2, h3⟩ := h; exfalso; omega)
  clear hU
  clear ht0
  obtain ⟨x2, ex⟩ : ∃ x : F, x = x1 * Y := ⟨_, rfl⟩
  rw [← ex] at hE
  have X2 := Lib.hid ex
  clear ex
  have ht0 := hE
  clear hE
  go_wp2_with fail
  refine (mul_el (w1.heap.size) 0 ab ao (w.heap.size) 0 0 X x2 _ huv3 hX ht0.r).mono ?_
  rintro e w3 ⟨rfl, hU, hE⟩
  have s3 := hU.size
  try simp only [World.size_alloc] at s3
  replace hV := hV.keep hU (fun i hi h => by obtain ⟨h1, h2, h3⟩ := h; omega)
  replace hX := hX.keep hU (fun i hi h => by obtain ⟨h1, h2, h3⟩ := h; omega)
  replace hY := hY.keep hU (fun i hi h => by obtain ⟨h1, h2, h3⟩ := h; omega)
  replace ht0 := ht0.keep hU (fun i hi h => by obtain ⟨h1, h2, h3⟩ := h; omega)
  replace hv2 := hv2.keep hU (fun i hi h => by obtain ⟨h1, h2, h3⟩ := h; omega)
  replace hG := hG.keep hU (fun b o hb h => by obtain ⟨h1, h2, h3⟩ := h; omega)
  replace hA := hA.trans hU (fun b o hb h => by obtain ⟨h1, h2, h3⟩ := h; exfalso; omega)
  clear hU
  clear huv3
  obtain ⟨x3, ex⟩ : ∃ x : F, x = X * x2 := ⟨_, rfl⟩
  rw [← ex] at hE
  have X3 := Lib.hid ex
  clear ex
  have huv3 := hE
  clear hE
  have A0 := (Upd.refl w3 (fun _ _ => False)).alloc (.cells #[.int .u64 0, .int .u64 0, .int .u64 0, .int .u64 0, .int .u64 0] 40)
  replace hV := hV.keep A0 (fun _ _ h => h)
  replace hX := hX.keep A0 (fun _ _ h => h)
  replace hY := hY.keep A0 (fun _ _ h => h)
  replace ht0 := ht0.keep A0 (fun _ _ h => h)
  replace hv2 := hv2.keep A0 (fun _ _ h => h)
  replace huv3 := huv3.keep A0 (fun _ _ h => h)
  replace hG := hG.keep A0 (fun _ _ _ h => h)
  replace hA := hA.alloc (.cells #[.int .u64 0, .int .u64 0, .int .u64 0, .int .u64 0, .int .u64 0] 40)
  clear A0
  have huv7 : El (w3.alloc (.cells #[.int .u64 0, .int .u64 0, .int .u64 0, .int .u64 0, .int .u64 0] 40)) (w3.heap.size) 0 0 := by have h := El.zero w3; (try simp only [World.size_alloc] at h); exact h
  go_wp2_with fail
  refine (sq_el (w.heap.size) 0 (w.heap.size + 1) 0 x2 x1 _ ht0 hv2.r).mono ?_
  rintro e w4 ⟨rfl, hU, hE⟩
  have s4 := hU.size
  try simp only [World.size_alloc] at s4
  replace hV := hV.keep hU (fun i hi h => by obtain ⟨h1, h2, h3⟩ := h; omega)
  replace hX := hX.keep hU (fun i hi h => by obtain ⟨h1, h2, h3⟩ := h; omega)
  replace hY := hY.keep hU (fun i hi h => by obtain ⟨h1, h2, h3⟩ := h; omega)
  replace hv2 := hv2.keep hU (fun i hi h => by obtain ⟨h1, h2, h3⟩ := h; omega)
  replace huv3 := huv3.keep hU (fun i hi h => by obtain ⟨h1, h2, h3⟩ := h; omega)
  replace huv7 := huv7.keep hU (fun i hi h => by obtain ⟨h1, h2, h3⟩ := h; omega)
  replace hG := hG.keep hU (fun b o hb h => by obtain ⟨h1, h2, h3⟩ := h; omega)
  replace hA := hA.trans hU (fun b o hb h => by obtain ⟨h1, h2, h3⟩ := h; exfalso; omega)
  clear hU
  clear ht0
  obtain ⟨x4, ex⟩ : ∃ x : F, x = x1 * x1 := ⟨_, rfl⟩
  rw [← ex] at hE
  have X4 := Lib.hid ex
  clear ex
  have ht0 := hE
  clear hE
  go_wp2_with fail
  refine (mul_el (w3.heap.size) 0 (w1.heap.size) 0 (w.heap.size) 0 0 x3 x4 _ huv7 huv3.r ht0.r).mono ?_
  rintro e w5 ⟨rfl, hU, hE⟩
  have s5 := hU.size
  try simp only [World.size_alloc] at s5
  replace hV := hV.keep hU (fun i hi h => by obtain ⟨h1, h2, h3⟩ := h; omega)
  replace hX := hX.keep hU (fun i hi h => by obtain ⟨h1, h2, h3⟩ := h; omega)
  replace hY := hY.keep hU (fun i hi h => by obtain ⟨h1, h2, h3⟩ := h; omega)
  replace ht0 := ht0.keep hU (fun i hi h => by obtain ⟨h1, h2, h3⟩ := h; omega)
  replace hv2 := hv2.keep hU (fun i hi h => by obtain ⟨h1, h2, h3⟩ := h; omega)
  replace huv3 := huv3.keep hU (fun i hi h => by obtain ⟨h1, h2, h3⟩ := h; omega)
  replace hG := hG.keep hU (fun b o hb h => by obtain ⟨h1, h2, h3⟩ := h; omega)
  replace hA := hA.trans hU (fun b o hb h => by obtain ⟨h1, h2, h3⟩ := h; exfalso; omega)
  clear hU
  clear huv7
  obtain ⟨x5, ex⟩ : ∃ x : F, x = x3 * x4 := ⟨_, rfl⟩
  rw [← ex] at hE
  have X5 := Lib.hid ex
  clear ex
  have huv7 := hE
  clear hE
  have A0 := (Upd.refl w5 (fun _ _ => False)).alloc (.cells #[.int .u64 0, .int .u64 0, .int .u64 0, .int .u64 0, .int .u64 0] 40)
  replace hV := hV.keep A0 (fun _ _ h => h)
  replace hX := hX.keep A0 (fun _ _ h => h)
  replace hY := hY.keep A0 (fun _ _ h => h)
  replace ht0 := ht0.keep A0 (fun _ _ h => h)
  replace hv2 := hv2.keep A0 (fun _ _ h => h)
  replace huv3 := huv3.keep A0 (fun _ _ h => h)
  replace huv7 := huv7.keep A0 (fun _ _ h => h)
  replace hG := hG.keep A0 (fun _ _ _ h => h)
  replace hA := hA.alloc (.cells #[.int .u64 0, .int .u64 0, .int .u64 0, .int .u64 0, .int .u64 0] 40)
  clear A0
  have hrr : El (w5.alloc (.cells #[.int .u64 0, .int .u64 0, .int .u64 0, .int .u64 0, .int .u64 0] 40)) (w5.heap.size) 0 0 := by have h := El.zero w5; (try simp only [World.size_alloc] at h); exact h
  go_wp2_with fail
  refine (pow_c (w.heap.size) 0 (w3.heap.size) 0 x4 x5 _ ht0 huv7.r (by omega)).mono ?_
  rintro e w6 ⟨rfl, hU, hE⟩
  have s6 := hU.size
  try simp only [World.size_alloc] at s6
  replace hV := hV.keep hU (fun i hi h => by obtain ⟨h1, h2, h3⟩ := h; omega)
  replace hX := hX.keep hU (fun i hi h => by obtain ⟨h1, h2, h3⟩ := h; omega)
  replace hY := hY.keep hU (fun i hi h => by obtain ⟨h1, h2, h3⟩ := h; omega)
  replace hv2 := hv2.keep hU (fun i hi h => by obtain ⟨h1, h2, h3⟩ := h; omega)
  replace huv3 := huv3.keep hU (fun i hi h => by obtain ⟨h1, h2, h3⟩ := h; omega)
  replace huv7 := huv7.keep hU (fun i hi h => by obtain ⟨h1, h2, h3⟩ := h; omega)
  replace hrr := hrr.keep hU (fun i hi h => by obtain ⟨h1, h2, h3⟩ := h; omega)
  replace hG := hG.keep hU (fun b o hb h => by obtain ⟨h1, h2, h3⟩ := h; omega)
  replace hA := hA.trans hU (fun b o hb h => by obtain ⟨h1, h2, h3⟩ := h; exfalso; omega)
  clear hU
  clear ht0
  obtain ⟨x6, ex⟩ : ∃ x : F, x = fpow x5 7237005577332262213973186563042994240829374041602535252466099000494570602493 := ⟨_, rfl⟩
  rw [← ex] at hE
  have X6 := Lib.hid ex
  clear ex
  have ht0 := hE
  clear hE
  go_wp2_with fail
  refine (mul_el (w5.heap.size) 0 (w1.heap.size) 0 (w.heap.size) 0 0 x3 x6 _ hrr huv3.r ht0.r).mono ?_
  rintro e w7 ⟨rfl, hU, hE⟩
  have s7 := hU.size
  try simp only [World.size_alloc] at s7
  replace hV := hV.keep hU (fun i hi h => by obtain ⟨h1, h2, h3⟩ := h; omega)
  replace hX := hX.keep hU (fun i hi h => by obtain ⟨h1, h2, h3⟩ := h; omega)
  replace hY := hY.keep hU (fun i hi h => by obtain ⟨h1, h2, h3⟩ := h; omega)
  replace ht0 := ht0.keep hU (fun i hi h => by obtain ⟨h1, h2, h3⟩ := h; omega)
  replace hv2 := hv2.keep hU (fun i hi h => by obtain ⟨h1, h2, h3⟩ := h; omega)
  replace huv3 := huv3.keep hU (fun i hi h => by obtain ⟨h1, h2, h3⟩ := h; omega)
  replace huv7 := huv7.keep hU (fun i hi h => by obtain ⟨h1, h2, h3⟩ := h; omega)
  replace hG := hG.keep hU (fun b o hb h => by obtain ⟨h1, h2, h3⟩ := h; omega)
  replace hA := hA.trans hU (fun b o hb h => by obtain ⟨h1, h2, h3⟩ := h; exfalso; omega)
  clear hU
  clear hrr
  obtain ⟨x7, ex⟩ : ∃ x : F, x = x3 * x6 := ⟨_, rfl⟩
  rw [← ex] at hE
  have X7 := Lib.hid ex
  clear ex
  have hrr := hE
  clear hE
  have A0 := (Upd.refl w7 (fun _ _ => False)).alloc (.cells #[.int .u64 0, .int .u64 0, .int .u64 0, .int .u64 0, .int .u64 0] 40)
  replace hV := hV.keep A0 (fun _ _ h => h)
  replace hX := hX.keep A0 (fun _ _ h => h)
  replace hY := hY.keep A0 (fun _ _ h => h)
  replace ht0 := ht0.keep A0 (fun _ _ h => h)
  replace hv2 := hv2.keep A0 (fun _ _ h => h)
  replace huv3 := huv3.keep A0 (fun _ _ h => h)
  replace huv7 := huv7.keep A0 (fun _ _ h => h)
  replace hrr := hrr.keep A0 (fun _ _ h => h)
  replace hG := hG.keep A0 (fun _ _ _ h => h)
  replace hA := hA.alloc (.cells #[.int .u64 0, .int .u64 0, .int .u64 0, .int .u64 0, .int .u64 0] 40)
  clear A0
  have hck : El (w7.alloc (.cells #[.int .u64 0, .int .u64 0, .int .u64 0, .int .u64 0, .int .u64 0] 40)) (w7.heap.size) 0 0 := by have h := El.zero w7; (try simp only [World.size_alloc] at h); exact h
  go_wp2_with fail
  refine (sq_el (w.heap.size) 0 (w5.heap.size) 0 x6 x7 _ ht0 hrr.r).mono ?_
  rintro e w8 ⟨rfl, hU, hE⟩
  have s8 := hU.size
  try simp only [World.size_alloc] at s8
  replace hV := hV.keep hU (fun i hi h => by obtain ⟨h1, h2, h3⟩ := h; omega)
  replace hX := hX.keep hU (fun i hi h => by obtain ⟨h1, h2, h3⟩ := h; omega)
  replace hY := hY.keep hU (fun i hi h => by obtain ⟨h1, h2, h3⟩ := h; omega)
  replace hv2 := hv2.keep hU (fun i hi h => by obtain ⟨h1, h2, h3⟩ := h; omega)
  replace huv3 := huv3.keep hU (fun i hi h => by obtain ⟨h1, h2, h3⟩ := h; omega)
  replace huv7 := huv7.keep hU (fun i hi h => by obtain ⟨h1, h2, h3⟩ := h; omega)
  replace hrr := hrr.keep hU (fun i hi h => by obtain ⟨h1, h2, h3⟩ := h; omega)
  replace hck := hck.keep hU (fun i hi h => by obtain ⟨h1, h2, h3⟩ := h; omega)
  replace hG := hG.keep hU (fun b o hb h => by obtain ⟨h1, h2, h3⟩ := h; omega)
  replace hA := hA.trans hU (fun b o hb h => by obtain ⟨h1, h2, h3⟩ := h; exfalso; omega)
  clear hU
  clear ht0
  obtain ⟨x8, ex⟩ : ∃ x : F, x = x7 * x7 := ⟨_, rfl⟩
  rw [← ex] at hE
  have X8 := Lib.hid ex
  clear ex
  have ht0 := hE
  clear hE
  go_wp2_with fail
  refine (mul_el (w7.heap.size) 0 bb bo (w.heap.size) 0 0 Y x8 _ hck hY ht0.r).mono ?_
  rintro e w9 ⟨rfl, hU, hE⟩
  have s9 := hU.size
  try simp only [World.size_alloc] at s9
  replace hV := hV.keep hU (fun i hi h => by obtain ⟨h1, h2, h3⟩ := h; omega)
  replace hX := hX.keep hU (fun i hi h => by obtain ⟨h1, h2, h3⟩ := h; omega)
  replace hY := hY.keep hU (fun i hi h => by obtain ⟨h1, h2, h3⟩ := h; omega)
  replace ht0 := ht0.keep hU (fun i hi h => by obtain ⟨h1, h2, h3⟩ := h; omega)
  replace hv2 := hv2.keep hU (fun i hi h => by obtain ⟨h1, h2, h3⟩ := h; omega)
  replace huv3 := huv3.keep hU (fun i hi h => by obtain ⟨h1, h2, h3⟩ := h; omega)
  replace huv7 := huv7.keep hU (fun i hi h => by obtain ⟨h1, h2, h3⟩ := h; omega)
  replace hrr := hrr.keep hU (fun i hi h => by obtain ⟨h1, h2, h3⟩ := h; omega)
  replace hG := hG.keep hU (fun b o hb h => by obtain ⟨h1, h2, h3⟩ := h; omega)
  replace hA := hA.trans hU (fun b o hb h => by obtain ⟨h1, h2, h3⟩ := h; exfalso; omega)
  clear hU
  clear hck
  obtain ⟨x9, ex⟩ : ∃ x : F, x = Y * x8 := ⟨_, rfl⟩
  rw [← ex] at hE
  have X9 := Lib.hid ex
  clear ex
  have hck := hE
  clear hE
  have A0 := (Upd.refl w9 (fun _ _ => False)).alloc (.cells #[.int .u64 0, .int .u64 0, .int .u64 0, .int .u64 0, .int .u64 0] 40)
  replace hV := hV.keep A0 (fun _ _ h => h)
  replace hX := hX.keep A0 (fun _ _ h => h)
  replace hY := hY.keep A0 (fun _ _ h => h)
  replace ht0 := ht0.keep A0 (fun _ _ h => h)
  replace hv2 := hv2.keep A0 (fun _ _ h => h)
  replace huv3 := huv3.keep A0 (fun _ _ h => h)
  replace huv7 := huv7.keep A0 (fun _ _ h => h)
  replace hrr := hrr.keep A0 (fun _ _ h => h)
  replace hck := hck.keep A0 (fun _ _ h => h)
  replace hG := hG.keep A0 (fun _ _ _ h => h)
  replace hA := hA.alloc (.cells #[.int .u64 0, .int .u64 0, .int .u64 0, .int .u64 0, .int .u64 0] 40)
  clear A0
  have hun : El (w9.alloc (.cells #[.int .u64 0, .int .u64 0, .int .u64 0, .int .u64 0, .int .u64 0] 40)) (w9.heap.size) 0 0 := by have h := El.zero w9; (try simp only [World.size_alloc] at h); exact h
  go_wp2_with fail
  refine (neg_c B (w9.heap.size) 0 ab ao 0 X _ hG (by omega) hun hX (by unfold Ap; omega)).mono ?_
  rintro e w10 ⟨rfl, hU, hE⟩
  have s10 := hU.size
  try simp only [World.size_alloc] at s10
  replace hV := hV.keep hU (fun i hi h => by obtain ⟨h1, h2, h3⟩ := h; omega)
  replace hX := hX.keep hU (fun i hi h => by obtain ⟨h1, h2, h3⟩ := h; omega)
  replace hY := hY.keep hU (fun i hi h => by obtain ⟨h1, h2, h3⟩ := h; omega)
  replace ht0 := ht0.keep hU (fun i hi h => by obtain ⟨h1, h2, h3⟩ := h; omega)
  replace hv2 := hv2.keep hU (fun i hi h => by obtain ⟨h1, h2, h3⟩ := h; omega)
  replace huv3 := huv3.keep hU (fun i hi h => by obtain ⟨h1, h2, h3⟩ := h; omega)
  replace huv7 := huv7.keep hU (fun i hi h => by obtain ⟨h1, h2, h3⟩ := h; omega)
  replace hrr := hrr.keep hU (fun i hi h => by obtain ⟨h1, h2, h3⟩ := h; omega)
  replace hck := hck.keep hU (fun i hi h => by obtain ⟨h1, h2, h3⟩ := h; omega)
  replace hG := hG.keep hU (fun b o hb h => by obtain ⟨h1, h2, h3⟩ := h; omega)
  replace hA := hA.trans hU (fun b o hb h => by obtain ⟨h1, h2, h3⟩ := h; exfalso; omega)
  clear hU
  clear hun
  obtain ⟨x10, ex⟩ : ∃ x : F, x = -X := ⟨_, rfl⟩
  rw [← ex] at hE
  have X10 := Lib.hid ex
  clear ex
  have hun := hE
  clear hE
  go_wp2_with fail
  refine (equal_c (w7.heap.size) 0 ab ao x9 X _ hck.r hX).mono ?_
  rintro e w11 ⟨rfl, hU⟩
  have s11 := hU.size
  try simp only [World.size_alloc] at s11
  replace hV := hV.keep hU (fun _ _ h => h)
  replace hX := hX.keep hU (fun _ _ h => h)
  replace hY := hY.keep hU (fun _ _ h => h)
  replace ht0 := ht0.keep hU (fun _ _ h => h)
  replace hv2 := hv2.keep hU (fun _ _ h => h)
  replace huv3 := huv3.keep hU (fun _ _ h => h)
  replace huv7 := huv7.keep hU (fun _ _ h => h)
  replace hrr := hrr.keep hU (fun _ _ h => h)
  replace hck := hck.keep hU (fun _ _ h => h)
  replace hun := hun.keep hU (fun _ _ h => h)
  replace hG := hG.keep hU (fun _ _ _ h => h)
  replace hA := hA.trans hU (fun _ _ _ h => h.elim)
  clear hU
  have Ec1 := Lib.hid (eqI_1 x9 X)
  have Oc1 := Lib.hid (eqI_01 x9 X)
  generalize eqI x9 X = c1 at *
  go_wp2_with fail
  refine (equal_c (w7.heap.size) 0 (w9.heap.size) 0 x9 x10 _ hck.r hun.r).mono ?_
  rintro e w12 ⟨rfl, hU⟩
  have s12 := hU.size
  try simp only [World.size_alloc] at s12
  replace hV := hV.keep hU (fun _ _ h => h)
  replace hX := hX.keep hU (fun _ _ h => h)
  replace hY := hY.keep hU (fun _ _ h => h)
  replace ht0 := ht0.keep hU (fun _ _ h => h)
  replace hv2 := hv2.keep hU (fun _ _ h => h)
  replace huv3 := huv3.keep hU (fun _ _ h => h)
  replace huv7 := huv7.keep hU (fun _ _ h => h)
  replace hrr := hrr.keep hU (fun _ _ h => h)
  replace hck := hck.keep hU (fun _ _ h => h)
  replace hun := hun.keep hU (fun _ _ h => h)
  replace hG := hG.keep hU (fun _ _ _ h => h)
  replace hA := hA.trans hU (fun _ _ _ h => h.elim)
  clear hU
  have Ec2 := Lib.hid (eqI_1 x9 x10)
  have Oc2 := Lib.hid (eqI_01 x9 x10)
  generalize eqI x9 x10 = c2 at *
  obtain ⟨sb12, so12, hp, hs, lsb⟩ := hG.m1
  go_wp2_with fail
  refine (mul_el (w.heap.size) 0 (w9.heap.size) 0 sb12 so12 x8 x10 I _ ht0 hun.r hs).mono ?_
  rintro e w13 ⟨rfl, hU, hE⟩
  have s13 := hU.size
  try simp only [World.size_alloc] at s13
  replace hV := hV.keep hU (fun i hi h => by obtain ⟨h1, h2, h3⟩ := h; omega)
  replace hX := hX.keep hU (fun i hi h => by obtain ⟨h1, h2, h3⟩ := h; omega)
  replace hY := hY.keep hU (fun i hi h => by obtain ⟨h1, h2, h3⟩ := h; omega)
  replace hv2 := hv2.keep hU (fun i hi h => by obtain ⟨h1, h2, h3⟩ := h; omega)
  replace huv3 := huv3.keep hU (fun i hi h => by obtain ⟨h1, h2, h3⟩ := h; omega)
  replace huv7 := huv7.keep hU (fun i hi h => by obtain ⟨h1, h2, h3⟩ := h; omega)
  replace hrr := hrr.keep hU (fun i hi h => by obtain ⟨h1, h2, h3⟩ := h; omega)
  replace hck := hck.keep hU (fun i hi h => by obtain ⟨h1, h2, h3⟩ := h; omega)
  replace hun := hun.keep hU (fun i hi h => by obtain ⟨h1, h2, h3⟩ := h; omega)
  replace hs := hs.keep hU (fun i hi h => by obtain ⟨h1, h2, h3⟩ := h; omega)
  replace hG := hG.keep hU (fun b o hb h => by obtain ⟨h1, h2, h3⟩ := h; omega)
  replace hA := hA.trans hU (fun b o hb h => by obtain ⟨h1, h2, h3⟩ := h; exfalso; omega)
  clear hU
  clear ht0
  obtain ⟨x11, ex⟩ : ∃ x : F, x = x10 * I := ⟨_, rfl⟩
  rw [← ex] at hE
  have X11 := Lib.hid ex
  clear ex
  have ht0 := hE
  clear hE
  clear hp hs lsb
  go_wp2_with fail
  refine (equal_c (w7.heap.size) 0 (w.heap.size) 0 x9 x11 _ hck.r ht0.r).mono ?_
  rintro e w14 ⟨rfl, hU⟩
  have s14 := hU.size
  try simp only [World.size_alloc] at s14
  replace hV := hV.keep hU (fun _ _ h => h)
  replace hX := hX.keep hU (fun _ _ h => h)
  replace hY := hY.keep hU (fun _ _ h => h)
  replace ht0 := ht0.keep hU (fun _ _ h => h)
  replace hv2 := hv2.keep hU (fun _ _ h => h)
  replace huv3 := huv3.keep hU (fun _ _ h => h)
  replace huv7 := huv7.keep hU (fun _ _ h => h)
  replace hrr := hrr.keep hU (fun _ _ h => h)
  replace hck := hck.keep hU (fun _ _ h => h)
  replace hun := hun.keep hU (fun _ _ h => h)
  replace hG := hG.keep hU (fun _ _ _ h => h)
  replace hA := hA.trans hU (fun _ _ _ h => h.elim)
  clear hU
  have Ec3 := Lib.hid (eqI_1 x9 x11)
  have Oc3 := Lib.hid (eqI_01 x9 x11)
  generalize eqI x9 x11 = c3 at *
  have A0 := (Upd.refl w14 (fun _ _ => False)).alloc (.cells #[.int .u64 0, .int .u64 0, .int .u64 0, .int .u64 0, .int .u64 0] 40)
  replace hV := hV.keep A0 (fun _ _ h => h)
  replace hX := hX.keep A0 (fun _ _ h => h)
  replace hY := hY.keep A0 (fun _ _ h => h)
  replace ht0 := ht0.keep A0 (fun _ _ h => h)
  replace hv2 := hv2.keep A0 (fun _ _ h => h)
  replace huv3 := huv3.keep A0 (fun _ _ h => h)
  replace huv7 := huv7.keep A0 (fun _ _ h => h)
  replace hrr := hrr.keep A0 (fun _ _ h => h)
  replace hck := hck.keep A0 (fun _ _ h => h)
  replace hun := hun.keep A0 (fun _ _ h => h)
  replace hG := hG.keep A0 (fun _ _ _ h => h)
  replace hA := hA.alloc (.cells #[.int .u64 0, .int .u64 0, .int .u64 0, .int .u64 0, .int .u64 0] 40)
  clear A0
  have hrp : El (w14.alloc (.cells #[.int .u64 0, .int .u64 0, .int .u64 0, .int .u64 0, .int .u64 0] 40)) (w14.heap.size) 0 0 := by have h := El.zero w14; (try simp only [World.size_alloc] at h); exact h
  obtain ⟨sb14, so14, hp, hs, lsb⟩ := hG.m1
  go_wp2_with fail
  refine (mul_el (w14.heap.size) 0 (w5.heap.size) 0 sb14 so14 0 x7 I _ hrp hrr.r hs).mono ?_
  rintro e w15 ⟨rfl, hU, hE⟩
  have s15 := hU.size
  try simp only [World.size_alloc] at s15
  replace hV := hV.keep hU (fun i hi h => by obtain ⟨h1, h2, h3⟩ := h; omega)
  replace hX := hX.keep hU (fun i hi h => by obtain ⟨h1, h2, h3⟩ := h; omega)
  replace hY := hY.keep hU (fun i hi h => by obtain ⟨h1, h2, h3⟩ := h; omega)
  replace ht0 := ht0.keep hU (fun i hi h => by obtain ⟨h1, h2, h3⟩ := h; omega)
  replace hv2 := hv2.keep hU (fun i hi h => by obtain ⟨h1, h2, h3⟩ := h; omega)
  replace huv3 := huv3.keep hU (fun i hi h => by obtain ⟨h1, h2, h3⟩ := h; omega)
  replace huv7 := huv7.keep hU (fun i hi h => by obtain ⟨h1, h2, h3⟩ := h; omega)
  replace hrr := hrr.keep hU (fun i hi h => by obtain ⟨h1, h2, h3⟩ := h; omega)
  replace hck := hck.keep hU (fun i hi h => by obtain ⟨h1, h2, h3⟩ := h; omega)
  replace hun := hun.keep hU (fun i hi h => by obtain ⟨h1, h2, h3⟩ := h; omega)
  replace hs := hs.keep hU (fun i hi h => by obtain ⟨h1, h2, h3⟩ := h; omega)
  replace hG := hG.keep hU (fun b o hb h => by obtain ⟨h1, h2, h3⟩ := h; omega)
  replace hA := hA.trans hU (fun b o hb h => by obtain ⟨h1, h2, h3⟩ := h; exfalso; omega)
  clear hU
  clear hrp
  obtain ⟨x12, ex⟩ : ∃ x : F, x = x7 * I := ⟨_, rfl⟩
  rw [← ex] at hE
  have X12 := Lib.hid ex
  clear ex
  have hrp := hE
  clear hE
  clear hp hs lsb
  have ho : bits .or .i64 c2 c3 = if c2 = 1 ∨ c3 = 1 then 1 else 0 := bits_i64_or c2 c3 Oc2.out Oc3.out
  obtain ⟨c, ec⟩ : ∃ c, c = if c2 = 1 ∨ c3 = 1 then (1 : Int) else 0 := ⟨_, rfl⟩
  rw [← ec] at ho
  have hc : Hid (c = 0 ∨ c = 1) := by show c = 0 ∨ c = 1; rw [ec]; (split <;> simp)
  have Ec := Lib.hid ec
  clear ec
  go_wp2_with fail
  refine (sel_any c hc.out (w5.heap.size) 0 (w14.heap.size) 0 (w5.heap.size) 0 x7 x12 x7 _ hrr hrp.r hrr.r (by unfold Ap; omega) (by unfold Ap; omega)).mono ?_
  rintro e w16 ⟨rfl, hU, hE⟩
  clear ho
  have s16 := hU.size
  try simp only [World.size_alloc] at s16
  replace hV := hV.keep hU (fun i hi h => by obtain ⟨h1, h2, h3⟩ := h; omega)
  replace hX := hX.keep hU (fun i hi h => by obtain ⟨h1, h2, h3⟩ := h; omega)
  replace hY := hY.keep hU (fun i hi h => by obtain ⟨h1, h2, h3⟩ := h; omega)
  replace ht0 := ht0.keep hU (fun i hi h => by obtain ⟨h1, h2, h3⟩ := h; omega)
  replace hv2 := hv2.keep hU (fun i hi h => by obtain ⟨h1, h2, h3⟩ := h; omega)
  replace huv3 := huv3.keep hU (fun i hi h => by obtain ⟨h1, h2, h3⟩ := h; omega)
  replace huv7 := huv7.keep hU (fun i hi h => by obtain ⟨h1, h2, h3⟩ := h; omega)
  replace hck := hck.keep hU (fun i hi h => by obtain ⟨h1, h2, h3⟩ := h; omega)
  replace hun := hun.keep hU (fun i hi h => by obtain ⟨h1, h2, h3⟩ := h; omega)
  replace hrp := hrp.keep hU (fun i hi h => by obtain ⟨h1, h2, h3⟩ := h; omega)
  replace hG := hG.keep hU (fun b o hb h => by obtain ⟨h1, h2, h3⟩ := h; omega)
  replace hA := hA.trans hU (fun b o hb h => by obtain ⟨h1, h2, h3⟩ := h; exfalso; omega)
  clear hU
  clear hrr
  obtain ⟨x13, ex⟩ : ∃ x : F, x = if c = 1 then x12 else x7 := ⟨_, rfl⟩
  rw [← ex] at hE
  have X13 := Lib.hid ex
  clear ex
  have hrr := hE
  clear hE
  go_wp2_with fail
  refine (abs_c B vb vo (w5.heap.size) 0 V x13 _ hG (by omega) hV hrr.r (by unfold Ap; omega)).mono ?_
  rintro e w17 ⟨rfl, hU, hE⟩
  have s17 := hU.size
  try simp only [World.size_alloc] at s17
  replace hX := hX.keep hU (fun i hi h => by obtain ⟨h1, h2, h3⟩ := h; omega)
  replace hY := hY.keep hU (fun i hi h => by obtain ⟨h1, h2, h3⟩ := h; omega)
  replace ht0 := ht0.keep hU (fun i hi h => by obtain ⟨h1, h2, h3⟩ := h; omega)
  replace hv2 := hv2.keep hU (fun i hi h => by obtain ⟨h1, h2, h3⟩ := h; omega)
  replace huv3 := huv3.keep hU (fun i hi h => by obtain ⟨h1, h2, h3⟩ := h; omega)
  replace huv7 := huv7.keep hU (fun i hi h => by obtain ⟨h1, h2, h3⟩ := h; omega)
  replace hrr := hrr.keep hU (fun i hi h => by obtain ⟨h1, h2, h3⟩ := h; omega)
  replace hck := hck.keep hU (fun i hi h => by obtain ⟨h1, h2, h3⟩ := h; omega)
  replace hun := hun.keep hU (fun i hi h => by obtain ⟨h1, h2, h3⟩ := h; omega)
  replace hrp := hrp.keep hU (fun i hi h => by obtain ⟨h1, h2, h3⟩ := h; omega)
  replace hG := hG.keep hU (fun b o hb h => by obtain ⟨h1, h2, h3⟩ := h; omega)
  replace hA := hA.trans hU (fun b o hb h => by obtain ⟨h1, h2, h3⟩ := h; exact ⟨h1, by omega, by omega⟩)
  clear hU
  clear hV
  obtain ⟨x14, ex⟩ : ∃ x : F, x = absF x13 := ⟨_, rfl⟩
  rw [← ex] at hE
  have X14 := Lib.hid ex
  clear ex
  have hV := hE
  clear hE
  have ho : bits .or .i64 c1 c2 = if c1 = 1 ∨ c2 = 1 then 1 else 0 := bits_i64_or c1 c2 Oc1.out Oc2.out
  obtain ⟨s, es⟩ : ∃ s, s = if c1 = 1 ∨ c2 = 1 then (1 : Int) else 0 := ⟨_, rfl⟩
  rw [← es] at ho
  have Es := Lib.hid es
  clear es
  simp only []
  repeat go_step
  go_ret2
  have q1 := X1.out; have q2 := X2.out; have q3 := X3.out; have q4 := X4.out; have q5 := X5.out; have q6 := X6.out; have q7 := X7.out; have q8 := X8.out; have q9 := X9.out
  have q10 := X10.out; have q11 := X11.out; have q12 := X12.out; have q13 := X13.out; have q14 := X14.out
  have hR : x7 = srR X Y := by
    unfold srR
    rw [q7, q6, q5, q4, q3, q2, q1]
  have hC : x9 = srC X Y := by
    unfold srC
    rw [q9, q8, hR]
  have es := Es.out
  have ec := Ec.out
  have i1 := Ec1.out; have i2 := Ec2.out; have i3 := Ec3.out
  rw [hC, q10] at i2
  rw [hC] at i1
  rw [hC, q11, q10] at i3
  refine ⟨s, rfl, hA, ?_, ?_, ?_⟩
  · rw [es]; split <;> simp
  · rw [es]
    split
    · rename_i h; exact ⟨fun _ => h.imp i1.1 i2.1, fun _ => rfl⟩
    · rename_i h; exact ⟨fun h1 => absurd h1 (by decide), fun h1 => absurd (h1.imp i1.2 i2.2) h⟩
  · have : x14 = absF (if srC X Y = -X ∨ srC X Y = -X * I then srR X Y * I else srR X Y) := by
      rw [q14, q13, q12, hR]
      refine congrArg absF ?_
      by_cases h : c2 = 1 ∨ c3 = 1
      · rw [if_pos h] at ec
        rw [if_pos ec, if_pos (h.imp i2.1 i3.1)]
      · rw [if_neg h] at ec
        rw [if_neg (by omega), if_neg (fun h1 => h (h1.imp i2.2 i3.2))]
    rw [← this]
    exact hV

end Go.Proofs.YtkibnongmkhbaaaGreatDoor
end

section
open Go Go.RowKit
namespace Go.Proofs.YtkibnongmkhbaaaGreatDoor
open Ed

theorem By.lit (L : List Int) (w : World) (t : TypeId) (n : Nat) (hn : n ≤ L.length) : By (w.alloc (.cells (L.map (Value.int .u8)).toArray t)) w.heap.size 0 n (fun i => L.getD i 0) := by
  intro i hi
  rw [Nat.zero_add, World.cell?_alloc_new]
  have hl : i < L.length := by omega
  simp [hl]

theorem El.zeros (w : World) (n o : Nat) (t : TypeId) (h : o + 5 ≤ n) : El (w.alloc (.cells (List.replicate n (Value.int .u64 0)).toArray t)) w.heap.size o 0 := by
  have hc : ∀ i, i < n → (w.alloc (.cells (List.replicate n (Value.int .u64 0)).toArray t)).cell? ⟨w.heap.size, i, none⟩ = some (.int .u64 0) := by
    intro i hi
    rw [World.cell?_alloc_new]
    simp [hi]
  exact ⟨0, 0, 0, 0, 0, ⟨hc _ (by omega), hc _ (by omega), hc _ (by omega), hc _ (by omega), hc _ (by omega), by simp, by simp, by simp, by simp, by simp⟩, lim0, lim0, lim0, lim0, lim0, lv0⟩

/-- a block of twenty zeros -/
def Z20 (t : TypeId) : Obj := .cells (List.replicate 20 (Value.int .u64 0)).toArray t

def dL : List Int := [163, 120, 89, 19, 202, 77, 235, 117, 171, 216, 65, 65, 77, 10, 112, 0, 152, 232, 121, 119, 121, 64, 199, 140, 115, 254, 111, 43, 238, 108, 3, 82]

theorem dL_byte (i : Nat) : Byte (dL.getD i 0) := by
  unfold Byte
  by_cases h : i < 32
  · have : ∀ j : Fin 32, 0 ≤ dL.getD j.val 0 ∧ dL.getD j.val 0 < 256 := by decide
    exact this ⟨i, h⟩
  · rw [List.getD_eq_getElem?_getD, List.getElem?_eq_none (show dL.length ≤ i by show 32 ≤ i; omega)]
    exact ⟨by decide, by decide⟩

theorem d_val : z (le (fun i => dL.getD i 0) 0 32 % 57896044618658097711785492504343953926634992332820282019728792003956564819968) = D := by
  rw [show le (fun i => dL.getD i 0) 0 32 % 57896044618658097711785492504343953926634992332820282019728792003956564819968 = ((37095705934669439343138083508754565189542113879843219016388785533085940283555 : Nat) : Int) by decide, z_nat]
  rfl

set_option maxRecDepth 100000 in
theorem dOf_c (w : World) : Calls Tryz.prog 61 #[] w fun e w' => e = .returned (.pointer (some ⟨w.heap.size, 0, none⟩)) ∧ Upd w w' (fun _ _ => False) ∧ El w' w.heap.size 0 D := by
  have A1 := (Upd.refl (w.alloc (.cells #[.int .u64 0, .int .u64 0, .int .u64 0, .int .u64 0, .int .u64 0] 40)) (fun _ _ => False)).alloc (.cells (dL.map (Value.int .u8)).toArray 5)
  have hV := (El.zero w).keep A1 (fun _ _ h => h)
  have hB := By.lit dL (w.alloc (.cells #[.int .u64 0, .int .u64 0, .int .u64 0, .int .u64 0, .int .u64 0] 40)) 5 32 (by decide)
  simp only [World.size_alloc] at hB
  go_enter Tryz.func61, Tryz.ntmps61
  go_wp2_with fail
  refine (setBytes_c w.heap.size 0 (w.heap.size + 1) 0 32 0 (fun i => dL.getD i 0) dL_byte _ hV hB (by omega) (by omega)).mono ?_
  rintro e w1 ⟨rfl, hU, hE⟩
  rw [d_val] at hE
  go_wp2
  go_ret
  exact ⟨rfl, (((Upd.refl w (fun _ _ => False)).alloc (.cells #[.int .u64 0, .int .u64 0, .int .u64 0, .int .u64 0, .int .u64 0] 40)).alloc (.cells (dL.map (Value.int .u8)).toArray 5)).trans hU (fun b o hb h => absurd h.1 (by omega)), hE⟩

set_option maxRecDepth 100000 in
theorem feOne_c (B : Nat) (w : World) (hG : Glob B w) : Calls Tryz.prog 59 #[] w fun e w' => e = .returned (.pointer (some ⟨w.heap.size, 0, none⟩)) ∧ Upd w w' (fun _ _ => False) ∧ El w' w.heap.size 0 1 := by
  have A0 := (Upd.refl w (fun _ _ => False)).alloc (.cells #[.int .u64 0, .int .u64 0, .int .u64 0, .int .u64 0, .int .u64 0] 40)
  have hG0 := hG.keep A0 (fun _ _ _ h => h)
  go_enter Tryz.func59, Tryz.ntmps59
  go_wp2_with fail
  refine (one_c B w.heap.size 0 0 _ hG0 (El.zero w)).mono ?_
  rintro e w1 ⟨rfl, hU, hE⟩
  go_wp2
  go_ret
  exact ⟨rfl, A0.trans hU (fun b o hb h => absurd h.1 (by omega)), hE⟩

set_option maxRecDepth 100000 in
theorem d2_c (w : World) : Calls Tryz.prog 70 #[] w fun e w' => e = .returned (.pointer (some ⟨w.heap.size, 0, none⟩)) ∧ Upd w w' (fun _ _ => False) ∧ El w' w.heap.size 0 (D + D) := by
  have A0 := (Upd.refl w (fun _ _ => False)).alloc (.cells #[.int .u64 0, .int .u64 0, .int .u64 0, .int .u64 0, .int .u64 0] 40)
  have hV := El.zero w
  go_enter Tryz.func70, Tryz.ntmps70
  go_wp2_with fail
  refine (dOf_c _).mono ?_
  rintro e w1 ⟨rfl, hU1, hE1⟩
  have s1 := hU1.size
  simp only [World.size_alloc] at s1
  replace hV := hV.keep hU1 (fun _ _ h => h)
  go_wp2_with fail
  refine (dOf_c _).mono ?_
  rintro e w2 ⟨rfl, hU2, hE2⟩
  replace hV := hV.keep hU2 (fun _ _ h => h)
  replace hE1 := hE1.keep hU2 (fun _ _ h => h)
  simp only [World.size_alloc] at hE1
  go_wp2_with fail
  refine (add_c w.heap.size 0 (w.heap.size + 1) 0 w1.heap.size 0 0 D D _ hV hE1.r hE2.r (by unfold Ap; omega) (by unfold Ap; omega)).mono ?_
  rintro e w3 ⟨rfl, hU3, hE3⟩
  go_wp2
  go_ret
  exact ⟨rfl, ((A0.trans hU1 (fun _ _ _ h => h)).trans hU2 (fun _ _ _ h => h)).trans hU3 (fun b o hb h => absurd h.1 (by omega)), hE3⟩

theorem errNew_c (s : ByteArray) (w : World) : Calls Tryz.prog 56 #[.string s] w fun e w' => ∃ (t : TypeId) (v : Value), e = .returned (.iface t v) ∧ Upd w w' (fun _ _ => False) := by
  go_enter Tryz.func56, Tryz.ntmps56
  go_wp2
  go_ret
  exact ⟨_, _, rfl, (Upd.refl _ _).alloc _⟩
end Go.Proofs.YtkibnongmkhbaaaGreatDoor
end
