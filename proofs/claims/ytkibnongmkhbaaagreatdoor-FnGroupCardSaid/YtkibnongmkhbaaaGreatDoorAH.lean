/- Part of the proof that laws.FnGroup returns true for all 32 bytes p, q and x: the group's addition and doubling in extended coordinates.
   Conditions: those that each theorem states. -/
import Derived.Deep.RegionHeld3
import Derived.Test.YtkibnongmkhbaaaGreatDoorAG

section
open Go Go.RowKit
namespace Go.Proofs.YtkibnongmkhbaaaGreatDoor
open Ed

/-- one of two -/
def selF (c : Int) (x y : F) : F := if c = 1 then x else y
/-- three elements in memory -/
def P3 (w : World) (b o : Nat) (X Y Z : F) : Prop := El w b o X ∧ El w b (o + 5) Y ∧ El w b (o + 10) Z
theorem P3.keep {w w' : World} {S : Nat → Nat → Prop} {b o : Nat} {X Y Z : F} (hu : Upd w w' S) (h : P3 w b o X Y Z) (hn : ∀ i, i < 15 → ¬ S b (o + i)) : P3 w' b o X Y Z :=
  ⟨h.1.keep hu (fun i hi => hn i (by omega)), h.2.1.keep hu (fun i hi => by rw [Nat.add_assoc]; exact hn _ (by omega)), h.2.2.keep hu (fun i hi => by rw [Nat.add_assoc]; exact hn _ (by omega))⟩

set_option maxRecDepth 100000 in
set_option maxHeartbeats 4000000 in
theorem fromP3_c (vb vo pb po : Nat) (V0 V1 V2 V3 X Y Z T : F) (w : World) (Hv : Pt w vb vo V0 V1 V2 V3) (Hp : Pt w pb po X Y Z T) (hne : vb ≠ pb) :
    Calls Tryz.prog 29 #[.pointer (some ⟨vb, vo, none⟩), .pointer (some ⟨pb, po, none⟩)] w fun e w' => e = .returned (.pointer (some ⟨vb, vo, none⟩)) ∧ Upd w w' (Rg vb vo 20) ∧ Pt w' vb vo (Y + X) (Y - X) Z (T * (D + D)) := by
  obtain ⟨hv0, hv1, hv2, hv3⟩ := Hv
  obtain ⟨hp0, hp1, hp2, hp3⟩ := Hp
  have lv := hv0.lt
  have lp := hp0.lt
  have hA := Upd.refl w (Rg vb vo 20)
  go_enter Tryz.func29, Tryz.ntmps29
  replace hA := hA.drew
  replace hv0 := hv0.drew
  replace hv1 := hv1.drew
  replace hv2 := hv2.drew
  replace hv3 := hv3.drew
  replace hp0 := hp0.drew
  replace hp1 := hp1.drew
  replace hp2 := hp2.drew
  replace hp3 := hp3.drew
  go_wp2
  refine still_tail 9 (by kernel_rfl) (by kernel_rfl) ?_
  simp only [List.take_succ_cons, List.take_zero, List.drop_succ_cons, List.drop_zero]
  iterate 9 still_step
  refine wpStill_nil ?_
  go_wp2_with fail
  refine (add_c vb vo pb (po + 5) pb po V0 Y X _ hv0 hp1.r hp0.r (by unfold Ap; omega) (by unfold Ap; omega)).mono ?_
  rintro e w1 ⟨rfl, hU, hE⟩
  have s1 := hU.size
  try simp only [World.size_alloc] at s1
  replace hv1 := hv1.keep hU (fun i hi h => by obtain ⟨h1, h2, h3⟩ := h; omega)
  replace hv2 := hv2.keep hU (fun i hi h => by obtain ⟨h1, h2, h3⟩ := h; omega)
  replace hv3 := hv3.keep hU (fun i hi h => by obtain ⟨h1, h2, h3⟩ := h; omega)
  replace hp0 := hp0.keep hU (fun i hi h => by obtain ⟨h1, h2, h3⟩ := h; omega)
  replace hp1 := hp1.keep hU (fun i hi h => by obtain ⟨h1, h2, h3⟩ := h; omega)
  replace hp2 := hp2.keep hU (fun i hi h => by obtain ⟨h1, h2, h3⟩ := h; omega)
  replace hp3 := hp3.keep hU (fun i hi h => by obtain ⟨h1, h2, h3⟩ := h; omega)
  replace hA := hA.trans hU (fun b o hb h => by obtain ⟨h1, h2, h3⟩ := h; exact ⟨h1, by omega, by omega⟩)
  clear hU
  clear hv0
  have hv0 := hE
  clear hE
  replace hA := hA.drew
  replace hv0 := hv0.drew
  replace hv1 := hv1.drew
  replace hv2 := hv2.drew
  replace hv3 := hv3.drew
  replace hp0 := hp0.drew
  replace hp1 := hp1.drew
  replace hp2 := hp2.drew
  replace hp3 := hp3.drew
  go_wp2
  refine still_tail 9 (by kernel_rfl) (by kernel_rfl) ?_
  simp only [List.take_succ_cons, List.take_zero, List.drop_succ_cons, List.drop_zero]
  iterate 9 still_step
  refine wpStill_nil ?_
  go_wp2_with fail
  refine (sub_c vb (vo + 5) pb (po + 5) pb po V1 Y X _ hv1 hp1.r hp0.r (by unfold Ap; omega) (by unfold Ap; omega)).mono ?_
  rintro e w2 ⟨rfl, hU, hE⟩
  have s2 := hU.size
  try simp only [World.size_alloc] at s2
  replace hv0 := hv0.keep hU (fun i hi h => by obtain ⟨h1, h2, h3⟩ := h; omega)
  replace hv2 := hv2.keep hU (fun i hi h => by obtain ⟨h1, h2, h3⟩ := h; omega)
  replace hv3 := hv3.keep hU (fun i hi h => by obtain ⟨h1, h2, h3⟩ := h; omega)
  replace hp0 := hp0.keep hU (fun i hi h => by obtain ⟨h1, h2, h3⟩ := h; omega)
  replace hp1 := hp1.keep hU (fun i hi h => by obtain ⟨h1, h2, h3⟩ := h; omega)
  replace hp2 := hp2.keep hU (fun i hi h => by obtain ⟨h1, h2, h3⟩ := h; omega)
  replace hp3 := hp3.keep hU (fun i hi h => by obtain ⟨h1, h2, h3⟩ := h; omega)
  replace hA := hA.trans hU (fun b o hb h => by obtain ⟨h1, h2, h3⟩ := h; exact ⟨h1, by omega, by omega⟩)
  clear hU
  clear hv1
  have hv1 := hE
  clear hE
  replace hA := hA.drew
  replace hv0 := hv0.drew
  replace hv1 := hv1.drew
  replace hv2 := hv2.drew
  replace hv3 := hv3.drew
  replace hp0 := hp0.drew
  replace hp1 := hp1.drew
  replace hp2 := hp2.drew
  replace hp3 := hp3.drew
  go_wp2
  refine still_tail 6 (by kernel_rfl) (by kernel_rfl) ?_
  simp only [List.take_succ_cons, List.take_zero, List.drop_succ_cons, List.drop_zero]
  iterate 6 still_step
  refine wpStill_nil ?_
  go_wp2_with fail
  refine (set_c vb (vo + 10) pb (po + 10) V2 Z _ hv2 hp2.r).mono ?_
  rintro e w3 ⟨rfl, hU, hE⟩
  have s3 := hU.size
  try simp only [World.size_alloc] at s3
  replace hv0 := hv0.keep hU (fun i hi h => by obtain ⟨h1, h2, h3⟩ := h; omega)
  replace hv1 := hv1.keep hU (fun i hi h => by obtain ⟨h1, h2, h3⟩ := h; omega)
  replace hv3 := hv3.keep hU (fun i hi h => by obtain ⟨h1, h2, h3⟩ := h; omega)
  replace hp0 := hp0.keep hU (fun i hi h => by obtain ⟨h1, h2, h3⟩ := h; omega)
  replace hp1 := hp1.keep hU (fun i hi h => by obtain ⟨h1, h2, h3⟩ := h; omega)
  replace hp2 := hp2.keep hU (fun i hi h => by obtain ⟨h1, h2, h3⟩ := h; omega)
  replace hp3 := hp3.keep hU (fun i hi h => by obtain ⟨h1, h2, h3⟩ := h; omega)
  replace hA := hA.trans hU (fun b o hb h => by obtain ⟨h1, h2, h3⟩ := h; exact ⟨h1, by omega, by omega⟩)
  clear hU
  clear hv2
  have hv2 := hE
  clear hE
  go_wp2_with fail
  go_region_held3 (fun _ => True) (trivial) (first
    | ((try go_simp); go_at_call 70; refine (d2_c _).mono ?_; rintro e w4 ⟨rfl, hU4, hD⟩)
    | ((try go_simp); go_at_call 60; refine (mul_el vb (vo + 15) pb (po + 15) _ 0 V3 T (D + D) _ ((hv3.drew.keep hU4 (fun _ _ h => h))) ((hp3.drew.keep hU4 (fun _ _ h => h)).r) hD.r).mono ?_; rintro e w5 ⟨rfl, hU, hE⟩))
  go_wp2
  go_ret
  have L4 := hU4.size
  have L5 := hD.lt
  simp only [World.size_drew] at L4 L5 hU
  replace hA := (hA.drew.trans hU4 (fun _ _ _ h => h.elim)).trans hU (fun b o hb h => by obtain ⟨h1, h2, h3⟩ := h; exact ⟨h1, by omega, by omega⟩)
  replace hv0 := (hv0.drew.keep hU4 (fun _ _ h => h)).keep hU (fun i hi h => by obtain ⟨h1, h2, h3⟩ := h; omega)
  replace hv1 := (hv1.drew.keep hU4 (fun _ _ h => h)).keep hU (fun i hi h => by obtain ⟨h1, h2, h3⟩ := h; omega)
  replace hv2 := (hv2.drew.keep hU4 (fun _ _ h => h)).keep hU (fun i hi h => by obtain ⟨h1, h2, h3⟩ := h; omega)
  exact ⟨rfl, hA, hv0, hv1, hv2, hE⟩

set_option maxRecDepth 100000 in
set_option maxHeartbeats 4000000 in
theorem p1Add_c (vb vo pb po qb qo : Nat) (V0 V1 V2 V3 X Y Z T A B C E : F) (w : World) (Hv : Pt w vb vo V0 V1 V2 V3) (Hp : Pt w pb po X Y Z T) (Hq : Pt w qb qo A B C E) (hne : vb ≠ pb) (hnq : vb ≠ qb) :
    Calls Tryz.prog 30 #[.pointer (some ⟨vb, vo, none⟩), .pointer (some ⟨pb, po, none⟩), .pointer (some ⟨qb, qo, none⟩)] w fun e w' => e = .returned (.pointer (some ⟨vb, vo, none⟩)) ∧ Upd w w' (Rg vb vo 20) ∧ Pt w' vb vo ((Y + X) * A - (Y - X) * B) ((Y + X) * A + (Y - X) * B) (Z * C + Z * C + T * E) (Z * C + Z * C - T * E) := by
  obtain ⟨hv0, hv1, hv2, hv3⟩ := Hv
  obtain ⟨hp0, hp1, hp2, hp3⟩ := Hp
  obtain ⟨hq0, hq1, hq2, hq3⟩ := Hq
  have lv := hv0.lt
  have lp := hp0.lt
  have lq := hq0.lt
  have hA := Upd.refl w (Rg vb vo 20)
  go_enter Tryz.func30, Tryz.ntmps30
  have A0 := (Upd.refl w (fun _ _ => False)).alloc (.cells #[.int .u64 0, .int .u64 0, .int .u64 0, .int .u64 0, .int .u64 0] 40)
  replace hv0 := hv0.keep A0 (fun _ _ h => h)
  replace hv1 := hv1.keep A0 (fun _ _ h => h)
  replace hv2 := hv2.keep A0 (fun _ _ h => h)
  replace hv3 := hv3.keep A0 (fun _ _ h => h)
  replace hp0 := hp0.keep A0 (fun _ _ h => h)
  replace hp1 := hp1.keep A0 (fun _ _ h => h)
  replace hp2 := hp2.keep A0 (fun _ _ h => h)
  replace hp3 := hp3.keep A0 (fun _ _ h => h)
  replace hq0 := hq0.keep A0 (fun _ _ h => h)
  replace hq1 := hq1.keep A0 (fun _ _ h => h)
  replace hq2 := hq2.keep A0 (fun _ _ h => h)
  replace hq3 := hq3.keep A0 (fun _ _ h => h)
  replace hA := hA.alloc (.cells #[.int .u64 0, .int .u64 0, .int .u64 0, .int .u64 0, .int .u64 0] 40)
  clear A0
  have ha : El (w.alloc (.cells #[.int .u64 0, .int .u64 0, .int .u64 0, .int .u64 0, .int .u64 0] 40)) (w.heap.size) 0 0 := by have h := El.zero w; (try simp only [World.size_alloc] at h); exact h
  have A0 := (Upd.refl (w.alloc (.cells #[.int .u64 0, .int .u64 0, .int .u64 0, .int .u64 0, .int .u64 0] 40)) (fun _ _ => False)).alloc (.cells #[.int .u64 0, .int .u64 0, .int .u64 0, .int .u64 0, .int .u64 0] 40)
  replace hv0 := hv0.keep A0 (fun _ _ h => h)
  replace hv1 := hv1.keep A0 (fun _ _ h => h)
  replace hv2 := hv2.keep A0 (fun _ _ h => h)
  replace hv3 := hv3.keep A0 (fun _ _ h => h)
  replace hp0 := hp0.keep A0 (fun _ _ h => h)
  replace hp1 := hp1.keep A0 (fun _ _ h => h)
  replace hp2 := hp2.keep A0 (fun _ _ h => h)
  replace hp3 := hp3.keep A0 (fun _ _ h => h)
  replace hq0 := hq0.keep A0 (fun _ _ h => h)
  replace hq1 := hq1.keep A0 (fun _ _ h => h)
  replace hq2 := hq2.keep A0 (fun _ _ h => h)
  replace hq3 := hq3.keep A0 (fun _ _ h => h)
  replace ha := ha.keep A0 (fun _ _ h => h)
  replace hA := hA.alloc (.cells #[.int .u64 0, .int .u64 0, .int .u64 0, .int .u64 0, .int .u64 0] 40)
  clear A0
  have hb : El ((w.alloc (.cells #[.int .u64 0, .int .u64 0, .int .u64 0, .int .u64 0, .int .u64 0] 40)).alloc (.cells #[.int .u64 0, .int .u64 0, .int .u64 0, .int .u64 0, .int .u64 0] 40)) (w.heap.size + 1) 0 0 := by have h := El.zero (w.alloc (.cells #[.int .u64 0, .int .u64 0, .int .u64 0, .int .u64 0, .int .u64 0] 40)); (try simp only [World.size_alloc] at h); exact h
  have A0 := (Upd.refl ((w.alloc (.cells #[.int .u64 0, .int .u64 0, .int .u64 0, .int .u64 0, .int .u64 0] 40)).alloc (.cells #[.int .u64 0, .int .u64 0, .int .u64 0, .int .u64 0, .int .u64 0] 40)) (fun _ _ => False)).alloc (.cells #[.int .u64 0, .int .u64 0, .int .u64 0, .int .u64 0, .int .u64 0] 40)
  replace hv0 := hv0.keep A0 (fun _ _ h => h)
  replace hv1 := hv1.keep A0 (fun _ _ h => h)
  replace hv2 := hv2.keep A0 (fun _ _ h => h)
  replace hv3 := hv3.keep A0 (fun _ _ h => h)
  replace hp0 := hp0.keep A0 (fun _ _ h => h)
  replace hp1 := hp1.keep A0 (fun _ _ h => h)
  replace hp2 := hp2.keep A0 (fun _ _ h => h)
  replace hp3 := hp3.keep A0 (fun _ _ h => h)
  replace hq0 := hq0.keep A0 (fun _ _ h => h)
  replace hq1 := hq1.keep A0 (fun _ _ h => h)
  replace hq2 := hq2.keep A0 (fun _ _ h => h)
  replace hq3 := hq3.keep A0 (fun _ _ h => h)
  replace ha := ha.keep A0 (fun _ _ h => h)
  replace hb := hb.keep A0 (fun _ _ h => h)
  replace hA := hA.alloc (.cells #[.int .u64 0, .int .u64 0, .int .u64 0, .int .u64 0, .int .u64 0] 40)
  clear A0
  have hpp : El (((w.alloc (.cells #[.int .u64 0, .int .u64 0, .int .u64 0, .int .u64 0, .int .u64 0] 40)).alloc (.cells #[.int .u64 0, .int .u64 0, .int .u64 0, .int .u64 0, .int .u64 0] 40)).alloc (.cells #[.int .u64 0, .int .u64 0, .int .u64 0, .int .u64 0, .int .u64 0] 40)) (w.heap.size + 1 + 1) 0 0 := by have h := El.zero ((w.alloc (.cells #[.int .u64 0, .int .u64 0, .int .u64 0, .int .u64 0, .int .u64 0] 40)).alloc (.cells #[.int .u64 0, .int .u64 0, .int .u64 0, .int .u64 0, .int .u64 0] 40)); (try simp only [World.size_alloc] at h); exact h
  have A0 := (Upd.refl (((w.alloc (.cells #[.int .u64 0, .int .u64 0, .int .u64 0, .int .u64 0, .int .u64 0] 40)).alloc (.cells #[.int .u64 0, .int .u64 0, .int .u64 0, .int .u64 0, .int .u64 0] 40)).alloc (.cells #[.int .u64 0, .int .u64 0, .int .u64 0, .int .u64 0, .int .u64 0] 40)) (fun _ _ => False)).alloc (.cells #[.int .u64 0, .int .u64 0, .int .u64 0, .int .u64 0, .int .u64 0] 40)
  replace hv0 := hv0.keep A0 (fun _ _ h => h)
  replace hv1 := hv1.keep A0 (fun _ _ h => h)
  replace hv2 := hv2.keep A0 (fun _ _ h => h)
  replace hv3 := hv3.keep A0 (fun _ _ h => h)
  replace hp0 := hp0.keep A0 (fun _ _ h => h)
  replace hp1 := hp1.keep A0 (fun _ _ h => h)
  replace hp2 := hp2.keep A0 (fun _ _ h => h)
  replace hp3 := hp3.keep A0 (fun _ _ h => h)
  replace hq0 := hq0.keep A0 (fun _ _ h => h)
  replace hq1 := hq1.keep A0 (fun _ _ h => h)
  replace hq2 := hq2.keep A0 (fun _ _ h => h)
  replace hq3 := hq3.keep A0 (fun _ _ h => h)
  replace ha := ha.keep A0 (fun _ _ h => h)
  replace hb := hb.keep A0 (fun _ _ h => h)
  replace hpp := hpp.keep A0 (fun _ _ h => h)
  replace hA := hA.alloc (.cells #[.int .u64 0, .int .u64 0, .int .u64 0, .int .u64 0, .int .u64 0] 40)
  clear A0
  have hmm : El ((((w.alloc (.cells #[.int .u64 0, .int .u64 0, .int .u64 0, .int .u64 0, .int .u64 0] 40)).alloc (.cells #[.int .u64 0, .int .u64 0, .int .u64 0, .int .u64 0, .int .u64 0] 40)).alloc (.cells #[.int .u64 0, .int .u64 0, .int .u64 0, .int .u64 0, .int .u64 0] 40)).alloc (.cells #[.int .u64 0, .int .u64 0, .int .u64 0, .int .u64 0, .int .u64 0] 40)) (w.heap.size + 1 + 1 + 1) 0 0 := by have h := El.zero (((w.alloc (.cells #[.int .u64 0, .int .u64 0, .int .u64 0, .int .u64 0, .int .u64 0] 40)).alloc (.cells #[.int .u64 0, .int .u64 0, .int .u64 0, .int .u64 0, .int .u64 0] 40)).alloc (.cells #[.int .u64 0, .int .u64 0, .int .u64 0, .int .u64 0, .int .u64 0] 40)); (try simp only [World.size_alloc] at h); exact h
  have A0 := (Upd.refl ((((w.alloc (.cells #[.int .u64 0, .int .u64 0, .int .u64 0, .int .u64 0, .int .u64 0] 40)).alloc (.cells #[.int .u64 0, .int .u64 0, .int .u64 0, .int .u64 0, .int .u64 0] 40)).alloc (.cells #[.int .u64 0, .int .u64 0, .int .u64 0, .int .u64 0, .int .u64 0] 40)).alloc (.cells #[.int .u64 0, .int .u64 0, .int .u64 0, .int .u64 0, .int .u64 0] 40)) (fun _ _ => False)).alloc (.cells #[.int .u64 0, .int .u64 0, .int .u64 0, .int .u64 0, .int .u64 0] 40)
  replace hv0 := hv0.keep A0 (fun _ _ h => h)
  replace hv1 := hv1.keep A0 (fun _ _ h => h)
  replace hv2 := hv2.keep A0 (fun _ _ h => h)
  replace hv3 := hv3.keep A0 (fun _ _ h => h)
  replace hp0 := hp0.keep A0 (fun _ _ h => h)
  replace hp1 := hp1.keep A0 (fun _ _ h => h)
  replace hp2 := hp2.keep A0 (fun _ _ h => h)
  replace hp3 := hp3.keep A0 (fun _ _ h => h)
  replace hq0 := hq0.keep A0 (fun _ _ h => h)
  replace hq1 := hq1.keep A0 (fun _ _ h => h)
  replace hq2 := hq2.keep A0 (fun _ _ h => h)
  replace hq3 := hq3.keep A0 (fun _ _ h => h)
  replace ha := ha.keep A0 (fun _ _ h => h)
  replace hb := hb.keep A0 (fun _ _ h => h)
  replace hpp := hpp.keep A0 (fun _ _ h => h)
  replace hmm := hmm.keep A0 (fun _ _ h => h)
  replace hA := hA.alloc (.cells #[.int .u64 0, .int .u64 0, .int .u64 0, .int .u64 0, .int .u64 0] 40)
  clear A0
  have htt : El (((((w.alloc (.cells #[.int .u64 0, .int .u64 0, .int .u64 0, .int .u64 0, .int .u64 0] 40)).alloc (.cells #[.int .u64 0, .int .u64 0, .int .u64 0, .int .u64 0, .int .u64 0] 40)).alloc (.cells #[.int .u64 0, .int .u64 0, .int .u64 0, .int .u64 0, .int .u64 0] 40)).alloc (.cells #[.int .u64 0, .int .u64 0, .int .u64 0, .int .u64 0, .int .u64 0] 40)).alloc (.cells #[.int .u64 0, .int .u64 0, .int .u64 0, .int .u64 0, .int .u64 0] 40)) (w.heap.size + 1 + 1 + 1 + 1) 0 0 := by have h := El.zero ((((w.alloc (.cells #[.int .u64 0, .int .u64 0, .int .u64 0, .int .u64 0, .int .u64 0] 40)).alloc (.cells #[.int .u64 0, .int .u64 0, .int .u64 0, .int .u64 0, .int .u64 0] 40)).alloc (.cells #[.int .u64 0, .int .u64 0, .int .u64 0, .int .u64 0, .int .u64 0] 40)).alloc (.cells #[.int .u64 0, .int .u64 0, .int .u64 0, .int .u64 0, .int .u64 0] 40)); (try simp only [World.size_alloc] at h); exact h
  have A0 := (Upd.refl (((((w.alloc (.cells #[.int .u64 0, .int .u64 0, .int .u64 0, .int .u64 0, .int .u64 0] 40)).alloc (.cells #[.int .u64 0, .int .u64 0, .int .u64 0, .int .u64 0, .int .u64 0] 40)).alloc (.cells #[.int .u64 0, .int .u64 0, .int .u64 0, .int .u64 0, .int .u64 0] 40)).alloc (.cells #[.int .u64 0, .int .u64 0, .int .u64 0, .int .u64 0, .int .u64 0] 40)).alloc (.cells #[.int .u64 0, .int .u64 0, .int .u64 0, .int .u64 0, .int .u64 0] 40)) (fun _ _ => False)).alloc (.cells #[.int .u64 0, .int .u64 0, .int .u64 0, .int .u64 0, .int .u64 0] 40)
  replace hv0 := hv0.keep A0 (fun _ _ h => h)
  replace hv1 := hv1.keep A0 (fun _ _ h => h)
  replace hv2 := hv2.keep A0 (fun _ _ h => h)
  replace hv3 := hv3.keep A0 (fun _ _ h => h)
  replace hp0 := hp0.keep A0 (fun _ _ h => h)
  replace hp1 := hp1.keep A0 (fun _ _ h => h)
  replace hp2 := hp2.keep A0 (fun _ _ h => h)
  replace hp3 := hp3.keep A0 (fun _ _ h => h)
  replace hq0 := hq0.keep A0 (fun _ _ h => h)
  replace hq1 := hq1.keep A0 (fun _ _ h => h)
  replace hq2 := hq2.keep A0 (fun _ _ h => h)
  replace hq3 := hq3.keep A0 (fun _ _ h => h)
  replace ha := ha.keep A0 (fun _ _ h => h)
  replace hb := hb.keep A0 (fun _ _ h => h)
  replace hpp := hpp.keep A0 (fun _ _ h => h)
  replace hmm := hmm.keep A0 (fun _ _ h => h)
  replace htt := htt.keep A0 (fun _ _ h => h)
  replace hA := hA.alloc (.cells #[.int .u64 0, .int .u64 0, .int .u64 0, .int .u64 0, .int .u64 0] 40)
  clear A0
  have hzz : El ((((((w.alloc (.cells #[.int .u64 0, .int .u64 0, .int .u64 0, .int .u64 0, .int .u64 0] 40)).alloc (.cells #[.int .u64 0, .int .u64 0, .int .u64 0, .int .u64 0, .int .u64 0] 40)).alloc (.cells #[.int .u64 0, .int .u64 0, .int .u64 0, .int .u64 0, .int .u64 0] 40)).alloc (.cells #[.int .u64 0, .int .u64 0, .int .u64 0, .int .u64 0, .int .u64 0] 40)).alloc (.cells #[.int .u64 0, .int .u64 0, .int .u64 0, .int .u64 0, .int .u64 0] 40)).alloc (.cells #[.int .u64 0, .int .u64 0, .int .u64 0, .int .u64 0, .int .u64 0] 40)) (w.heap.size + 1 + 1 + 1 + 1 + 1) 0 0 := by have h := El.zero (((((w.alloc (.cells #[.int .u64 0, .int .u64 0, .int .u64 0, .int .u64 0, .int .u64 0] 40)).alloc (.cells #[.int .u64 0, .int .u64 0, .int .u64 0, .int .u64 0, .int .u64 0] 40)).alloc (.cells #[.int .u64 0, .int .u64 0, .int .u64 0, .int .u64 0, .int .u64 0] 40)).alloc (.cells #[.int .u64 0, .int .u64 0, .int .u64 0, .int .u64 0, .int .u64 0] 40)).alloc (.cells #[.int .u64 0, .int .u64 0, .int .u64 0, .int .u64 0, .int .u64 0] 40)); (try simp only [World.size_alloc] at h); exact h
  replace hA := hA.drew
  replace hv0 := hv0.drew
  replace hv1 := hv1.drew
  replace hv2 := hv2.drew
  replace hv3 := hv3.drew
  replace hp0 := hp0.drew
  replace hp1 := hp1.drew
  replace hp2 := hp2.drew
  replace hp3 := hp3.drew
  replace hq0 := hq0.drew
  replace hq1 := hq1.drew
  replace hq2 := hq2.drew
  replace hq3 := hq3.drew
  replace ha := ha.drew
  replace hb := hb.drew
  replace hpp := hpp.drew
  replace hmm := hmm.drew
  replace htt := htt.drew
  replace hzz := hzz.drew
  go_wp2
  refine still_tail 6 (by kernel_rfl) (by kernel_rfl) ?_
  simp only [List.take_succ_cons, List.take_zero, List.drop_succ_cons, List.drop_zero]
  iterate 6 still_step
  refine wpStill_nil ?_
  go_wp2_with fail
  refine (add_c (w.heap.size) 0 pb (po + 5) pb po 0 Y X _ ha hp1.r hp0.r (by unfold Ap; omega) (by unfold Ap; omega)).mono ?_
  rintro e w1 ⟨rfl, hU, hE⟩
  have s1 := hU.size
  try simp only [World.size_alloc] at s1
  replace hv0 := hv0.keep hU (fun i hi h => by obtain ⟨h1, h2, h3⟩ := h; omega)
  replace hv1 := hv1.keep hU (fun i hi h => by obtain ⟨h1, h2, h3⟩ := h; omega)
  replace hv2 := hv2.keep hU (fun i hi h => by obtain ⟨h1, h2, h3⟩ := h; omega)
  replace hv3 := hv3.keep hU (fun i hi h => by obtain ⟨h1, h2, h3⟩ := h; omega)
  replace hp0 := hp0.keep hU (fun i hi h => by obtain ⟨h1, h2, h3⟩ := h; omega)
  replace hp1 := hp1.keep hU (fun i hi h => by obtain ⟨h1, h2, h3⟩ := h; omega)
  replace hp2 := hp2.keep hU (fun i hi h => by obtain ⟨h1, h2, h3⟩ := h; omega)
  replace hp3 := hp3.keep hU (fun i hi h => by obtain ⟨h1, h2, h3⟩ := h; omega)
  replace hq0 := hq0.keep hU (fun i hi h => by obtain ⟨h1, h2, h3⟩ := h; omega)
  replace hq1 := hq1.keep hU (fun i hi h => by obtain ⟨h1, h2, h3⟩ := h; omega)
  replace hq2 := hq2.keep hU (fun i hi h => by obtain ⟨h1, h2, h3⟩ := h; omega)
  replace hq3 := hq3.keep hU (fun i hi h => by obtain ⟨h1, h2, h3⟩ := h; omega)
  replace hb := hb.keep hU (fun i hi h => by obtain ⟨h1, h2, h3⟩ := h; omega)
  replace hpp := hpp.keep hU (fun i hi h => by obtain ⟨h1, h2, h3⟩ := h; omega)
  replace hmm := hmm.keep hU (fun i hi h => by obtain ⟨h1, h2, h3⟩ := h; omega)
  replace htt := htt.keep hU (fun i hi h => by obtain ⟨h1, h2, h3⟩ := h; omega)
  replace hzz := hzz.keep hU (fun i hi h => by obtain ⟨h1, h2, h3⟩ := h; omega)
  replace hA := hA.trans hU (fun b o hb h => by obtain ⟨h1, h2, h3⟩ := h; exfalso; omega)
  clear hU
  clear ha
  obtain ⟨x1, ex⟩ : ∃ x : F, x = Y + X := ⟨_, rfl⟩
  rw [← ex] at hE
  have X1 := Lib.hid ex
  clear ex
  have ha := hE
  clear hE
  replace hA := hA.drew
  replace hv0 := hv0.drew
  replace hv1 := hv1.drew
  replace hv2 := hv2.drew
  replace hv3 := hv3.drew
  replace hp0 := hp0.drew
  replace hp1 := hp1.drew
  replace hp2 := hp2.drew
  replace hp3 := hp3.drew
  replace hq0 := hq0.drew
  replace hq1 := hq1.drew
  replace hq2 := hq2.drew
  replace hq3 := hq3.drew
  replace ha := ha.drew
  replace hb := hb.drew
  replace hpp := hpp.drew
  replace hmm := hmm.drew
  replace htt := htt.drew
  replace hzz := hzz.drew
  go_wp2
  refine still_tail 6 (by kernel_rfl) (by kernel_rfl) ?_
  simp only [List.take_succ_cons, List.take_zero, List.drop_succ_cons, List.drop_zero]
  iterate 6 still_step
  refine wpStill_nil ?_
  go_wp2_with fail
  refine (sub_c (w.heap.size + 1) 0 pb (po + 5) pb po 0 Y X _ hb hp1.r hp0.r (by unfold Ap; omega) (by unfold Ap; omega)).mono ?_
  rintro e w2 ⟨rfl, hU, hE⟩
  have s2 := hU.size
  try simp only [World.size_alloc] at s2
  replace hv0 := hv0.keep hU (fun i hi h => by obtain ⟨h1, h2, h3⟩ := h; omega)
  replace hv1 := hv1.keep hU (fun i hi h => by obtain ⟨h1, h2, h3⟩ := h; omega)
  replace hv2 := hv2.keep hU (fun i hi h => by obtain ⟨h1, h2, h3⟩ := h; omega)
  replace hv3 := hv3.keep hU (fun i hi h => by obtain ⟨h1, h2, h3⟩ := h; omega)
  replace hp0 := hp0.keep hU (fun i hi h => by obtain ⟨h1, h2, h3⟩ := h; omega)
  replace hp1 := hp1.keep hU (fun i hi h => by obtain ⟨h1, h2, h3⟩ := h; omega)
  replace hp2 := hp2.keep hU (fun i hi h => by obtain ⟨h1, h2, h3⟩ := h; omega)
  replace hp3 := hp3.keep hU (fun i hi h => by obtain ⟨h1, h2, h3⟩ := h; omega)
  replace hq0 := hq0.keep hU (fun i hi h => by obtain ⟨h1, h2, h3⟩ := h; omega)
  replace hq1 := hq1.keep hU (fun i hi h => by obtain ⟨h1, h2, h3⟩ := h; omega)
  replace hq2 := hq2.keep hU (fun i hi h => by obtain ⟨h1, h2, h3⟩ := h; omega)
  replace hq3 := hq3.keep hU (fun i hi h => by obtain ⟨h1, h2, h3⟩ := h; omega)
  replace ha := ha.keep hU (fun i hi h => by obtain ⟨h1, h2, h3⟩ := h; omega)
  replace hpp := hpp.keep hU (fun i hi h => by obtain ⟨h1, h2, h3⟩ := h; omega)
  replace hmm := hmm.keep hU (fun i hi h => by obtain ⟨h1, h2, h3⟩ := h; omega)
  replace htt := htt.keep hU (fun i hi h => by obtain ⟨h1, h2, h3⟩ := h; omega)
  replace hzz := hzz.keep hU (fun i hi h => by obtain ⟨h1, h2, h3⟩ := h; omega)
  replace hA := hA.trans hU (fun b o hb h => by obtain ⟨h1, h2, h3⟩ := h; exfalso; omega)
  clear hU
  clear hb
  obtain ⟨x2, ex⟩ : ∃ x : F, x = Y - X := ⟨_, rfl⟩
  rw [← ex] at hE
  have X2 := Lib.hid ex
  clear ex
  have hb := hE
  clear hE
  go_wp2_with fail
  refine (mul_el (w.heap.size + 1 + 1) 0 (w.heap.size) 0 qb qo 0 x1 A _ hpp ha.r hq0.r).mono ?_
  rintro e w3 ⟨rfl, hU, hE⟩
  have s3 := hU.size
  try simp only [World.size_alloc] at s3
  replace hv0 := hv0.keep hU (fun i hi h => by obtain ⟨h1, h2, h3⟩ := h; omega)
  replace hv1 := hv1.keep hU (fun i hi h => by obtain ⟨h1, h2, h3⟩ := h; omega)
  replace hv2 := hv2.keep hU (fun i hi h => by obtain ⟨h1, h2, h3⟩ := h; omega)
  replace hv3 := hv3.keep hU (fun i hi h => by obtain ⟨h1, h2, h3⟩ := h; omega)
  replace hp0 := hp0.keep hU (fun i hi h => by obtain ⟨h1, h2, h3⟩ := h; omega)
  replace hp1 := hp1.keep hU (fun i hi h => by obtain ⟨h1, h2, h3⟩ := h; omega)
  replace hp2 := hp2.keep hU (fun i hi h => by obtain ⟨h1, h2, h3⟩ := h; omega)
  replace hp3 := hp3.keep hU (fun i hi h => by obtain ⟨h1, h2, h3⟩ := h; omega)
  replace hq0 := hq0.keep hU (fun i hi h => by obtain ⟨h1, h2, h3⟩ := h; omega)
  replace hq1 := hq1.keep hU (fun i hi h => by obtain ⟨h1, h2, h3⟩ := h; omega)
  replace hq2 := hq2.keep hU (fun i hi h => by obtain ⟨h1, h2, h3⟩ := h; omega)
  replace hq3 := hq3.keep hU (fun i hi h => by obtain ⟨h1, h2, h3⟩ := h; omega)
  replace ha := ha.keep hU (fun i hi h => by obtain ⟨h1, h2, h3⟩ := h; omega)
  replace hb := hb.keep hU (fun i hi h => by obtain ⟨h1, h2, h3⟩ := h; omega)
  replace hmm := hmm.keep hU (fun i hi h => by obtain ⟨h1, h2, h3⟩ := h; omega)
  replace htt := htt.keep hU (fun i hi h => by obtain ⟨h1, h2, h3⟩ := h; omega)
  replace hzz := hzz.keep hU (fun i hi h => by obtain ⟨h1, h2, h3⟩ := h; omega)
  replace hA := hA.trans hU (fun b o hb h => by obtain ⟨h1, h2, h3⟩ := h; exfalso; omega)
  clear hU
  clear hpp
  obtain ⟨x3, ex⟩ : ∃ x : F, x = x1 * A := ⟨_, rfl⟩
  rw [← ex] at hE
  have X3 := Lib.hid ex
  clear ex
  have hpp := hE
  clear hE
  go_wp2_with fail
  refine (mul_el (w.heap.size + 1 + 1 + 1) 0 (w.heap.size + 1) 0 qb (qo + 5) 0 x2 B _ hmm hb.r hq1.r).mono ?_
  rintro e w4 ⟨rfl, hU, hE⟩
  have s4 := hU.size
  try simp only [World.size_alloc] at s4
  replace hv0 := hv0.keep hU (fun i hi h => by obtain ⟨h1, h2, h3⟩ := h; omega)
  replace hv1 := hv1.keep hU (fun i hi h => by obtain ⟨h1, h2, h3⟩ := h; omega)
  replace hv2 := hv2.keep hU (fun i hi h => by obtain ⟨h1, h2, h3⟩ := h; omega)
  replace hv3 := hv3.keep hU (fun i hi h => by obtain ⟨h1, h2, h3⟩ := h; omega)
  replace hp0 := hp0.keep hU (fun i hi h => by obtain ⟨h1, h2, h3⟩ := h; omega)
  replace hp1 := hp1.keep hU (fun i hi h => by obtain ⟨h1, h2, h3⟩ := h; omega)
  replace hp2 := hp2.keep hU (fun i hi h => by obtain ⟨h1, h2, h3⟩ := h; omega)
  replace hp3 := hp3.keep hU (fun i hi h => by obtain ⟨h1, h2, h3⟩ := h; omega)
  replace hq0 := hq0.keep hU (fun i hi h => by obtain ⟨h1, h2, h3⟩ := h; omega)
  replace hq1 := hq1.keep hU (fun i hi h => by obtain ⟨h1, h2, h3⟩ := h; omega)
  replace hq2 := hq2.keep hU (fun i hi h => by obtain ⟨h1, h2, h3⟩ := h; omega)
  replace hq3 := hq3.keep hU (fun i hi h => by obtain ⟨h1, h2, h3⟩ := h; omega)
  replace ha := ha.keep hU (fun i hi h => by obtain ⟨h1, h2, h3⟩ := h; omega)
  replace hb := hb.keep hU (fun i hi h => by obtain ⟨h1, h2, h3⟩ := h; omega)
  replace hpp := hpp.keep hU (fun i hi h => by obtain ⟨h1, h2, h3⟩ := h; omega)
  replace htt := htt.keep hU (fun i hi h => by obtain ⟨h1, h2, h3⟩ := h; omega)
  replace hzz := hzz.keep hU (fun i hi h => by obtain ⟨h1, h2, h3⟩ := h; omega)
  replace hA := hA.trans hU (fun b o hb h => by obtain ⟨h1, h2, h3⟩ := h; exfalso; omega)
  clear hU
  clear hmm
  obtain ⟨x4, ex⟩ : ∃ x : F, x = x2 * B := ⟨_, rfl⟩
  rw [← ex] at hE
  have X4 := Lib.hid ex
  clear ex
  have hmm := hE
  clear hE
  replace hA := hA.drew
  replace hv0 := hv0.drew
  replace hv1 := hv1.drew
  replace hv2 := hv2.drew
  replace hv3 := hv3.drew
  replace hp0 := hp0.drew
  replace hp1 := hp1.drew
  replace hp2 := hp2.drew
  replace hp3 := hp3.drew
  replace hq0 := hq0.drew
  replace hq1 := hq1.drew
  replace hq2 := hq2.drew
  replace hq3 := hq3.drew
  replace ha := ha.drew
  replace hb := hb.drew
  replace hpp := hpp.drew
  replace hmm := hmm.drew
  replace htt := htt.drew
  replace hzz := hzz.drew
  go_wp2
  refine still_tail 6 (by kernel_rfl) (by kernel_rfl) ?_
  simp only [List.take_succ_cons, List.take_zero, List.drop_succ_cons, List.drop_zero]
  iterate 6 still_step
  refine wpStill_nil ?_
  go_wp2_with fail
  refine (mul_el (w.heap.size + 1 + 1 + 1 + 1) 0 pb (po + 15) qb (qo + 15) 0 T E _ htt hp3.r hq3.r).mono ?_
  rintro e w5 ⟨rfl, hU, hE⟩
  have s5 := hU.size
  try simp only [World.size_alloc] at s5
  replace hv0 := hv0.keep hU (fun i hi h => by obtain ⟨h1, h2, h3⟩ := h; omega)
  replace hv1 := hv1.keep hU (fun i hi h => by obtain ⟨h1, h2, h3⟩ := h; omega)
  replace hv2 := hv2.keep hU (fun i hi h => by obtain ⟨h1, h2, h3⟩ := h; omega)
  replace hv3 := hv3.keep hU (fun i hi h => by obtain ⟨h1, h2, h3⟩ := h; omega)
  replace hp0 := hp0.keep hU (fun i hi h => by obtain ⟨h1, h2, h3⟩ := h; omega)
  replace hp1 := hp1.keep hU (fun i hi h => by obtain ⟨h1, h2, h3⟩ := h; omega)
  replace hp2 := hp2.keep hU (fun i hi h => by obtain ⟨h1, h2, h3⟩ := h; omega)
  replace hp3 := hp3.keep hU (fun i hi h => by obtain ⟨h1, h2, h3⟩ := h; omega)
  replace hq0 := hq0.keep hU (fun i hi h => by obtain ⟨h1, h2, h3⟩ := h; omega)
  replace hq1 := hq1.keep hU (fun i hi h => by obtain ⟨h1, h2, h3⟩ := h; omega)
  replace hq2 := hq2.keep hU (fun i hi h => by obtain ⟨h1, h2, h3⟩ := h; omega)
  replace hq3 := hq3.keep hU (fun i hi h => by obtain ⟨h1, h2, h3⟩ := h; omega)
  replace ha := ha.keep hU (fun i hi h => by obtain ⟨h1, h2, h3⟩ := h; omega)
  replace hb := hb.keep hU (fun i hi h => by obtain ⟨h1, h2, h3⟩ := h; omega)
  replace hpp := hpp.keep hU (fun i hi h => by obtain ⟨h1, h2, h3⟩ := h; omega)
  replace hmm := hmm.keep hU (fun i hi h => by obtain ⟨h1, h2, h3⟩ := h; omega)
  replace hzz := hzz.keep hU (fun i hi h => by obtain ⟨h1, h2, h3⟩ := h; omega)
  replace hA := hA.trans hU (fun b o hb h => by obtain ⟨h1, h2, h3⟩ := h; exfalso; omega)
  clear hU
  clear htt
  obtain ⟨x5, ex⟩ : ∃ x : F, x = T * E := ⟨_, rfl⟩
  rw [← ex] at hE
  have X5 := Lib.hid ex
  clear ex
  have htt := hE
  clear hE
  replace hA := hA.drew
  replace hv0 := hv0.drew
  replace hv1 := hv1.drew
  replace hv2 := hv2.drew
  replace hv3 := hv3.drew
  replace hp0 := hp0.drew
  replace hp1 := hp1.drew
  replace hp2 := hp2.drew
  replace hp3 := hp3.drew
  replace hq0 := hq0.drew
  replace hq1 := hq1.drew
  replace hq2 := hq2.drew
  replace hq3 := hq3.drew
  replace ha := ha.drew
  replace hb := hb.drew
  replace hpp := hpp.drew
  replace hmm := hmm.drew
  replace htt := htt.drew
  replace hzz := hzz.drew
  go_wp2
  refine still_tail 6 (by kernel_rfl) (by kernel_rfl) ?_
  simp only [List.take_succ_cons, List.take_zero, List.drop_succ_cons, List.drop_zero]
  iterate 6 still_step
  refine wpStill_nil ?_
  go_wp2_with fail
  refine (mul_el (w.heap.size + 1 + 1 + 1 + 1 + 1) 0 pb (po + 10) qb (qo + 10) 0 Z C _ hzz hp2.r hq2.r).mono ?_
  rintro e w6 ⟨rfl, hU, hE⟩
  have s6 := hU.size
  try simp only [World.size_alloc] at s6
  replace hv0 := hv0.keep hU (fun i hi h => by obtain ⟨h1, h2, h3⟩ := h; omega)
  replace hv1 := hv1.keep hU (fun i hi h => by obtain ⟨h1, h2, h3⟩ := h; omega)
  replace hv2 := hv2.keep hU (fun i hi h => by obtain ⟨h1, h2, h3⟩ := h; omega)
  replace hv3 := hv3.keep hU (fun i hi h => by obtain ⟨h1, h2, h3⟩ := h; omega)
  replace hp0 := hp0.keep hU (fun i hi h => by obtain ⟨h1, h2, h3⟩ := h; omega)
  replace hp1 := hp1.keep hU (fun i hi h => by obtain ⟨h1, h2, h3⟩ := h; omega)
  replace hp2 := hp2.keep hU (fun i hi h => by obtain ⟨h1, h2, h3⟩ := h; omega)
  replace hp3 := hp3.keep hU (fun i hi h => by obtain ⟨h1, h2, h3⟩ := h; omega)
  replace hq0 := hq0.keep hU (fun i hi h => by obtain ⟨h1, h2, h3⟩ := h; omega)
  replace hq1 := hq1.keep hU (fun i hi h => by obtain ⟨h1, h2, h3⟩ := h; omega)
  replace hq2 := hq2.keep hU (fun i hi h => by obtain ⟨h1, h2, h3⟩ := h; omega)
  replace hq3 := hq3.keep hU (fun i hi h => by obtain ⟨h1, h2, h3⟩ := h; omega)
  replace ha := ha.keep hU (fun i hi h => by obtain ⟨h1, h2, h3⟩ := h; omega)
  replace hb := hb.keep hU (fun i hi h => by obtain ⟨h1, h2, h3⟩ := h; omega)
  replace hpp := hpp.keep hU (fun i hi h => by obtain ⟨h1, h2, h3⟩ := h; omega)
  replace hmm := hmm.keep hU (fun i hi h => by obtain ⟨h1, h2, h3⟩ := h; omega)
  replace htt := htt.keep hU (fun i hi h => by obtain ⟨h1, h2, h3⟩ := h; omega)
  replace hA := hA.trans hU (fun b o hb h => by obtain ⟨h1, h2, h3⟩ := h; exfalso; omega)
  clear hU
  clear hzz
  obtain ⟨x6, ex⟩ : ∃ x : F, x = Z * C := ⟨_, rfl⟩
  rw [← ex] at hE
  have X6 := Lib.hid ex
  clear ex
  have hzz := hE
  clear hE
  go_wp2_with fail
  refine (add_c (w.heap.size + 1 + 1 + 1 + 1 + 1) 0 (w.heap.size + 1 + 1 + 1 + 1 + 1) 0 (w.heap.size + 1 + 1 + 1 + 1 + 1) 0 x6 x6 x6 _ hzz hzz.r hzz.r (by unfold Ap; omega) (by unfold Ap; omega)).mono ?_
  rintro e w7 ⟨rfl, hU, hE⟩
  have s7 := hU.size
  try simp only [World.size_alloc] at s7
  replace hv0 := hv0.keep hU (fun i hi h => by obtain ⟨h1, h2, h3⟩ := h; omega)
  replace hv1 := hv1.keep hU (fun i hi h => by obtain ⟨h1, h2, h3⟩ := h; omega)
  replace hv2 := hv2.keep hU (fun i hi h => by obtain ⟨h1, h2, h3⟩ := h; omega)
  replace hv3 := hv3.keep hU (fun i hi h => by obtain ⟨h1, h2, h3⟩ := h; omega)
  replace hp0 := hp0.keep hU (fun i hi h => by obtain ⟨h1, h2, h3⟩ := h; omega)
  replace hp1 := hp1.keep hU (fun i hi h => by obtain ⟨h1, h2, h3⟩ := h; omega)
  replace hp2 := hp2.keep hU (fun i hi h => by obtain ⟨h1, h2, h3⟩ := h; omega)
  replace hp3 := hp3.keep hU (fun i hi h => by obtain ⟨h1, h2, h3⟩ := h; omega)
  replace hq0 := hq0.keep hU (fun i hi h => by obtain ⟨h1, h2, h3⟩ := h; omega)
  replace hq1 := hq1.keep hU (fun i hi h => by obtain ⟨h1, h2, h3⟩ := h; omega)
  replace hq2 := hq2.keep hU (fun i hi h => by obtain ⟨h1, h2, h3⟩ := h; omega)
  replace hq3 := hq3.keep hU (fun i hi h => by obtain ⟨h1, h2, h3⟩ := h; omega)
  replace ha := ha.keep hU (fun i hi h => by obtain ⟨h1, h2, h3⟩ := h; omega)
  replace hb := hb.keep hU (fun i hi h => by obtain ⟨h1, h2, h3⟩ := h; omega)
  replace hpp := hpp.keep hU (fun i hi h => by obtain ⟨h1, h2, h3⟩ := h; omega)
  replace hmm := hmm.keep hU (fun i hi h => by obtain ⟨h1, h2, h3⟩ := h; omega)
  replace htt := htt.keep hU (fun i hi h => by obtain ⟨h1, h2, h3⟩ := h; omega)
  replace hA := hA.trans hU (fun b o hb h => by obtain ⟨h1, h2, h3⟩ := h; exfalso; omega)
  clear hU
  clear hzz
  obtain ⟨x7, ex⟩ : ∃ x : F, x = x6 + x6 := ⟨_, rfl⟩
  rw [← ex] at hE
  have X7 := Lib.hid ex
  clear ex
  have hzz := hE
  clear hE
  go_wp2_with fail
  refine (sub_c vb vo (w.heap.size + 1 + 1) 0 (w.heap.size + 1 + 1 + 1) 0 V0 x3 x4 _ hv0 hpp.r hmm.r (by unfold Ap; omega) (by unfold Ap; omega)).mono ?_
  rintro e w8 ⟨rfl, hU, hE⟩
  have s8 := hU.size
  try simp only [World.size_alloc] at s8
  replace hv1 := hv1.keep hU (fun i hi h => by obtain ⟨h1, h2, h3⟩ := h; omega)
  replace hv2 := hv2.keep hU (fun i hi h => by obtain ⟨h1, h2, h3⟩ := h; omega)
  replace hv3 := hv3.keep hU (fun i hi h => by obtain ⟨h1, h2, h3⟩ := h; omega)
  replace hp0 := hp0.keep hU (fun i hi h => by obtain ⟨h1, h2, h3⟩ := h; omega)
  replace hp1 := hp1.keep hU (fun i hi h => by obtain ⟨h1, h2, h3⟩ := h; omega)
  replace hp2 := hp2.keep hU (fun i hi h => by obtain ⟨h1, h2, h3⟩ := h; omega)
  replace hp3 := hp3.keep hU (fun i hi h => by obtain ⟨h1, h2, h3⟩ := h; omega)
  replace hq0 := hq0.keep hU (fun i hi h => by obtain ⟨h1, h2, h3⟩ := h; omega)
  replace hq1 := hq1.keep hU (fun i hi h => by obtain ⟨h1, h2, h3⟩ := h; omega)
  replace hq2 := hq2.keep hU (fun i hi h => by obtain ⟨h1, h2, h3⟩ := h; omega)
  replace hq3 := hq3.keep hU (fun i hi h => by obtain ⟨h1, h2, h3⟩ := h; omega)
  replace ha := ha.keep hU (fun i hi h => by obtain ⟨h1, h2, h3⟩ := h; omega)
  replace hb := hb.keep hU (fun i hi h => by obtain ⟨h1, h2, h3⟩ := h; omega)
  replace hpp := hpp.keep hU (fun i hi h => by obtain ⟨h1, h2, h3⟩ := h; omega)
  replace hmm := hmm.keep hU (fun i hi h => by obtain ⟨h1, h2, h3⟩ := h; omega)
  replace htt := htt.keep hU (fun i hi h => by obtain ⟨h1, h2, h3⟩ := h; omega)
  replace hzz := hzz.keep hU (fun i hi h => by obtain ⟨h1, h2, h3⟩ := h; omega)
  replace hA := hA.trans hU (fun b o hb h => by obtain ⟨h1, h2, h3⟩ := h; exact ⟨h1, by omega, by omega⟩)
  clear hU
  clear hv0
  have hv0 := hE
  clear hE
  go_wp2_with fail
  refine (add_c vb (vo + 5) (w.heap.size + 1 + 1) 0 (w.heap.size + 1 + 1 + 1) 0 V1 x3 x4 _ hv1 hpp.r hmm.r (by unfold Ap; omega) (by unfold Ap; omega)).mono ?_
  rintro e w9 ⟨rfl, hU, hE⟩
  have s9 := hU.size
  try simp only [World.size_alloc] at s9
  replace hv0 := hv0.keep hU (fun i hi h => by obtain ⟨h1, h2, h3⟩ := h; omega)
  replace hv2 := hv2.keep hU (fun i hi h => by obtain ⟨h1, h2, h3⟩ := h; omega)
  replace hv3 := hv3.keep hU (fun i hi h => by obtain ⟨h1, h2, h3⟩ := h; omega)
  replace hp0 := hp0.keep hU (fun i hi h => by obtain ⟨h1, h2, h3⟩ := h; omega)
  replace hp1 := hp1.keep hU (fun i hi h => by obtain ⟨h1, h2, h3⟩ := h; omega)
  replace hp2 := hp2.keep hU (fun i hi h => by obtain ⟨h1, h2, h3⟩ := h; omega)
  replace hp3 := hp3.keep hU (fun i hi h => by obtain ⟨h1, h2, h3⟩ := h; omega)
  replace hq0 := hq0.keep hU (fun i hi h => by obtain ⟨h1, h2, h3⟩ := h; omega)
  replace hq1 := hq1.keep hU (fun i hi h => by obtain ⟨h1, h2, h3⟩ := h; omega)
  replace hq2 := hq2.keep hU (fun i hi h => by obtain ⟨h1, h2, h3⟩ := h; omega)
  replace hq3 := hq3.keep hU (fun i hi h => by obtain ⟨h1, h2, h3⟩ := h; omega)
  replace ha := ha.keep hU (fun i hi h => by obtain ⟨h1, h2, h3⟩ := h; omega)
  replace hb := hb.keep hU (fun i hi h => by obtain ⟨h1, h2, h3⟩ := h; omega)
  replace hpp := hpp.keep hU (fun i hi h => by obtain ⟨h1, h2, h3⟩ := h; omega)
  replace hmm := hmm.keep hU (fun i hi h => by obtain ⟨h1, h2, h3⟩ := h; omega)
  replace htt := htt.keep hU (fun i hi h => by obtain ⟨h1, h2, h3⟩ := h; omega)
  replace hzz := hzz.keep hU (fun i hi h => by obtain ⟨h1, h2, h3⟩ := h; omega)
  replace hA := hA.trans hU (fun b o hb h => by obtain ⟨h1, h2, h3⟩ := h; exact ⟨h1, by omega, by omega⟩)
  clear hU
  clear hv1
  have hv1 := hE
  clear hE
  go_wp2_with fail
  refine (add_c vb (vo + 10) (w.heap.size + 1 + 1 + 1 + 1 + 1) 0 (w.heap.size + 1 + 1 + 1 + 1) 0 V2 x7 x5 _ hv2 hzz.r htt.r (by unfold Ap; omega) (by unfold Ap; omega)).mono ?_
  rintro e w10 ⟨rfl, hU, hE⟩
  have s10 := hU.size
  try simp only [World.size_alloc] at s10
  replace hv0 := hv0.keep hU (fun i hi h => by obtain ⟨h1, h2, h3⟩ := h; omega)
  replace hv1 := hv1.keep hU (fun i hi h => by obtain ⟨h1, h2, h3⟩ := h; omega)
  replace hv3 := hv3.keep hU (fun i hi h => by obtain ⟨h1, h2, h3⟩ := h; omega)
  replace hp0 := hp0.keep hU (fun i hi h => by obtain ⟨h1, h2, h3⟩ := h; omega)
  replace hp1 := hp1.keep hU (fun i hi h => by obtain ⟨h1, h2, h3⟩ := h; omega)
  replace hp2 := hp2.keep hU (fun i hi h => by obtain ⟨h1, h2, h3⟩ := h; omega)
  replace hp3 := hp3.keep hU (fun i hi h => by obtain ⟨h1, h2, h3⟩ := h; omega)
  replace hq0 := hq0.keep hU (fun i hi h => by obtain ⟨h1, h2, h3⟩ := h; omega)
  replace hq1 := hq1.keep hU (fun i hi h => by obtain ⟨h1, h2, h3⟩ := h; omega)
  replace hq2 := hq2.keep hU (fun i hi h => by obtain ⟨h1, h2, h3⟩ := h; omega)
  replace hq3 := hq3.keep hU (fun i hi h => by obtain ⟨h1, h2, h3⟩ := h; omega)
  replace ha := ha.keep hU (fun i hi h => by obtain ⟨h1, h2, h3⟩ := h; omega)
  replace hb := hb.keep hU (fun i hi h => by obtain ⟨h1, h2, h3⟩ := h; omega)
  replace hpp := hpp.keep hU (fun i hi h => by obtain ⟨h1, h2, h3⟩ := h; omega)
  replace hmm := hmm.keep hU (fun i hi h => by obtain ⟨h1, h2, h3⟩ := h; omega)
  replace htt := htt.keep hU (fun i hi h => by obtain ⟨h1, h2, h3⟩ := h; omega)
  replace hzz := hzz.keep hU (fun i hi h => by obtain ⟨h1, h2, h3⟩ := h; omega)
  replace hA := hA.trans hU (fun b o hb h => by obtain ⟨h1, h2, h3⟩ := h; exact ⟨h1, by omega, by omega⟩)
  clear hU
  clear hv2
  have hv2 := hE
  clear hE
  go_wp2_with fail
  refine (sub_c vb (vo + 15) (w.heap.size + 1 + 1 + 1 + 1 + 1) 0 (w.heap.size + 1 + 1 + 1 + 1) 0 V3 x7 x5 _ hv3 hzz.r htt.r (by unfold Ap; omega) (by unfold Ap; omega)).mono ?_
  rintro e w11 ⟨rfl, hU, hE⟩
  have s11 := hU.size
  try simp only [World.size_alloc] at s11
  replace hv0 := hv0.keep hU (fun i hi h => by obtain ⟨h1, h2, h3⟩ := h; omega)
  replace hv1 := hv1.keep hU (fun i hi h => by obtain ⟨h1, h2, h3⟩ := h; omega)
  replace hv2 := hv2.keep hU (fun i hi h => by obtain ⟨h1, h2, h3⟩ := h; omega)
  replace hp0 := hp0.keep hU (fun i hi h => by obtain ⟨h1, h2, h3⟩ := h; omega)
  replace hp1 := hp1.keep hU (fun i hi h => by obtain ⟨h1, h2, h3⟩ := h; omega)
  replace hp2 := hp2.keep hU (fun i hi h => by obtain ⟨h1, h2, h3⟩ := h; omega)
  replace hp3 := hp3.keep hU (fun i hi h => by obtain ⟨h1, h2, h3⟩ := h; omega)
  replace hq0 := hq0.keep hU (fun i hi h => by obtain ⟨h1, h2, h3⟩ := h; omega)
  replace hq1 := hq1.keep hU (fun i hi h => by obtain ⟨h1, h2, h3⟩ := h; omega)
  replace hq2 := hq2.keep hU (fun i hi h => by obtain ⟨h1, h2, h3⟩ := h; omega)
  replace hq3 := hq3.keep hU (fun i hi h => by obtain ⟨h1, h2, h3⟩ := h; omega)
  replace ha := ha.keep hU (fun i hi h => by obtain ⟨h1, h2, h3⟩ := h; omega)
  replace hb := hb.keep hU (fun i hi h => by obtain ⟨h1, h2, h3⟩ := h; omega)
  replace hpp := hpp.keep hU (fun i hi h => by obtain ⟨h1, h2, h3⟩ := h; omega)
  replace hmm := hmm.keep hU (fun i hi h => by obtain ⟨h1, h2, h3⟩ := h; omega)
  replace htt := htt.keep hU (fun i hi h => by obtain ⟨h1, h2, h3⟩ := h; omega)
  replace hzz := hzz.keep hU (fun i hi h => by obtain ⟨h1, h2, h3⟩ := h; omega)
  replace hA := hA.trans hU (fun b o hb h => by obtain ⟨h1, h2, h3⟩ := h; exact ⟨h1, by omega, by omega⟩)
  clear hU
  clear hv3
  have hv3 := hE
  clear hE
  go_wp2
  go_ret
  have e1 := X1.out
  have e2 := X2.out
  have e3 := X3.out
  have e4 := X4.out
  have e5 := X5.out
  have e6 := X6.out
  have e7 := X7.out
  rw [e1] at e3
  rw [e2] at e4
  rw [e6] at e7
  rw [e3, e4] at hv0 hv1
  rw [e7, e5] at hv2 hv3
  exact ⟨rfl, hA, hv0, hv1, hv2, hv3⟩

set_option maxRecDepth 100000 in
set_option maxHeartbeats 4000000 in
theorem fromP1_c (vb vo pb po : Nat) (V0 V1 V2 V3 X Y Z T : F) (w : World) (Hv : Pt w vb vo V0 V1 V2 V3) (Hp : Pt w pb po X Y Z T) (hne : vb ≠ pb) :
    Calls Tryz.prog 31 #[.pointer (some ⟨vb, vo, none⟩), .pointer (some ⟨pb, po, none⟩)] w fun e w' => e = .returned (.pointer (some ⟨vb, vo, none⟩)) ∧ Upd w w' (Rg vb vo 20) ∧ Pt w' vb vo (X * T) (Y * Z) (Z * T) (X * Y) := by
  obtain ⟨hv0, hv1, hv2, hv3⟩ := Hv
  obtain ⟨hp0, hp1, hp2, hp3⟩ := Hp
  have lv := hv0.lt
  have lp := hp0.lt
  have hA := Upd.refl w (Rg vb vo 20)
  go_enter Tryz.func31, Tryz.ntmps31
  replace hA := hA.drew
  replace hv0 := hv0.drew
  replace hv1 := hv1.drew
  replace hv2 := hv2.drew
  replace hv3 := hv3.drew
  replace hp0 := hp0.drew
  replace hp1 := hp1.drew
  replace hp2 := hp2.drew
  replace hp3 := hp3.drew
  go_wp2
  refine still_tail 9 (by kernel_rfl) (by kernel_rfl) ?_
  simp only [List.take_succ_cons, List.take_zero, List.drop_succ_cons, List.drop_zero]
  iterate 9 still_step
  refine wpStill_nil ?_
  go_wp2_with fail
  refine (mul_el vb vo pb po pb (po + 15) V0 X T _ hv0 hp0.r hp3.r).mono ?_
  rintro e w1 ⟨rfl, hU, hE⟩
  have s1 := hU.size
  try simp only [World.size_alloc] at s1
  replace hv1 := hv1.keep hU (fun i hi h => by obtain ⟨h1, h2, h3⟩ := h; omega)
  replace hv2 := hv2.keep hU (fun i hi h => by obtain ⟨h1, h2, h3⟩ := h; omega)
  replace hv3 := hv3.keep hU (fun i hi h => by obtain ⟨h1, h2, h3⟩ := h; omega)
  replace hp0 := hp0.keep hU (fun i hi h => by obtain ⟨h1, h2, h3⟩ := h; omega)
  replace hp1 := hp1.keep hU (fun i hi h => by obtain ⟨h1, h2, h3⟩ := h; omega)
  replace hp2 := hp2.keep hU (fun i hi h => by obtain ⟨h1, h2, h3⟩ := h; omega)
  replace hp3 := hp3.keep hU (fun i hi h => by obtain ⟨h1, h2, h3⟩ := h; omega)
  replace hA := hA.trans hU (fun b o hb h => by obtain ⟨h1, h2, h3⟩ := h; exact ⟨h1, by omega, by omega⟩)
  clear hU
  clear hv0
  have hv0 := hE
  clear hE
  replace hA := hA.drew
  replace hv0 := hv0.drew
  replace hv1 := hv1.drew
  replace hv2 := hv2.drew
  replace hv3 := hv3.drew
  replace hp0 := hp0.drew
  replace hp1 := hp1.drew
  replace hp2 := hp2.drew
  replace hp3 := hp3.drew
  go_wp2
  refine still_tail 9 (by kernel_rfl) (by kernel_rfl) ?_
  simp only [List.take_succ_cons, List.take_zero, List.drop_succ_cons, List.drop_zero]
  iterate 9 still_step
  refine wpStill_nil ?_
  go_wp2_with fail
  refine (mul_el vb (vo + 5) pb (po + 5) pb (po + 10) V1 Y Z _ hv1 hp1.r hp2.r).mono ?_
  rintro e w2 ⟨rfl, hU, hE⟩
  have s2 := hU.size
  try simp only [World.size_alloc] at s2
  replace hv0 := hv0.keep hU (fun i hi h => by obtain ⟨h1, h2, h3⟩ := h; omega)
  replace hv2 := hv2.keep hU (fun i hi h => by obtain ⟨h1, h2, h3⟩ := h; omega)
  replace hv3 := hv3.keep hU (fun i hi h => by obtain ⟨h1, h2, h3⟩ := h; omega)
  replace hp0 := hp0.keep hU (fun i hi h => by obtain ⟨h1, h2, h3⟩ := h; omega)
  replace hp1 := hp1.keep hU (fun i hi h => by obtain ⟨h1, h2, h3⟩ := h; omega)
  replace hp2 := hp2.keep hU (fun i hi h => by obtain ⟨h1, h2, h3⟩ := h; omega)
  replace hp3 := hp3.keep hU (fun i hi h => by obtain ⟨h1, h2, h3⟩ := h; omega)
  replace hA := hA.trans hU (fun b o hb h => by obtain ⟨h1, h2, h3⟩ := h; exact ⟨h1, by omega, by omega⟩)
  clear hU
  clear hv1
  have hv1 := hE
  clear hE
  replace hA := hA.drew
  replace hv0 := hv0.drew
  replace hv1 := hv1.drew
  replace hv2 := hv2.drew
  replace hv3 := hv3.drew
  replace hp0 := hp0.drew
  replace hp1 := hp1.drew
  replace hp2 := hp2.drew
  replace hp3 := hp3.drew
  go_wp2
  refine still_tail 9 (by kernel_rfl) (by kernel_rfl) ?_
  simp only [List.take_succ_cons, List.take_zero, List.drop_succ_cons, List.drop_zero]
  iterate 9 still_step
  refine wpStill_nil ?_
  go_wp2_with fail
  refine (mul_el vb (vo + 10) pb (po + 10) pb (po + 15) V2 Z T _ hv2 hp2.r hp3.r).mono ?_
  rintro e w3 ⟨rfl, hU, hE⟩
  have s3 := hU.size
  try simp only [World.size_alloc] at s3
  replace hv0 := hv0.keep hU (fun i hi h => by obtain ⟨h1, h2, h3⟩ := h; omega)
  replace hv1 := hv1.keep hU (fun i hi h => by obtain ⟨h1, h2, h3⟩ := h; omega)
  replace hv3 := hv3.keep hU (fun i hi h => by obtain ⟨h1, h2, h3⟩ := h; omega)
  replace hp0 := hp0.keep hU (fun i hi h => by obtain ⟨h1, h2, h3⟩ := h; omega)
  replace hp1 := hp1.keep hU (fun i hi h => by obtain ⟨h1, h2, h3⟩ := h; omega)
  replace hp2 := hp2.keep hU (fun i hi h => by obtain ⟨h1, h2, h3⟩ := h; omega)
  replace hp3 := hp3.keep hU (fun i hi h => by obtain ⟨h1, h2, h3⟩ := h; omega)
  replace hA := hA.trans hU (fun b o hb h => by obtain ⟨h1, h2, h3⟩ := h; exact ⟨h1, by omega, by omega⟩)
  clear hU
  clear hv2
  have hv2 := hE
  clear hE
  replace hA := hA.drew
  replace hv0 := hv0.drew
  replace hv1 := hv1.drew
  replace hv2 := hv2.drew
  replace hv3 := hv3.drew
  replace hp0 := hp0.drew
  replace hp1 := hp1.drew
  replace hp2 := hp2.drew
  replace hp3 := hp3.drew
  go_wp2
  refine still_tail 9 (by kernel_rfl) (by kernel_rfl) ?_
  simp only [List.take_succ_cons, List.take_zero, List.drop_succ_cons, List.drop_zero]
  iterate 9 still_step
  refine wpStill_nil ?_
  go_wp2_with fail
  refine (mul_el vb (vo + 15) pb po pb (po + 5) V3 X Y _ hv3 hp0.r hp1.r).mono ?_
  rintro e w4 ⟨rfl, hU, hE⟩
  have s4 := hU.size
  try simp only [World.size_alloc] at s4
  replace hv0 := hv0.keep hU (fun i hi h => by obtain ⟨h1, h2, h3⟩ := h; omega)
  replace hv1 := hv1.keep hU (fun i hi h => by obtain ⟨h1, h2, h3⟩ := h; omega)
  replace hv2 := hv2.keep hU (fun i hi h => by obtain ⟨h1, h2, h3⟩ := h; omega)
  replace hp0 := hp0.keep hU (fun i hi h => by obtain ⟨h1, h2, h3⟩ := h; omega)
  replace hp1 := hp1.keep hU (fun i hi h => by obtain ⟨h1, h2, h3⟩ := h; omega)
  replace hp2 := hp2.keep hU (fun i hi h => by obtain ⟨h1, h2, h3⟩ := h; omega)
  replace hp3 := hp3.keep hU (fun i hi h => by obtain ⟨h1, h2, h3⟩ := h; omega)
  replace hA := hA.trans hU (fun b o hb h => by obtain ⟨h1, h2, h3⟩ := h; exact ⟨h1, by omega, by omega⟩)
  clear hU
  clear hv3
  have hv3 := hE
  clear hE
  go_wp2
  go_ret
  exact ⟨rfl, hA, hv0, hv1, hv2, hv3⟩

set_option maxRecDepth 100000 in
set_option maxHeartbeats 4000000 in
theorem p2From_c (vb vo pb po : Nat) (V0 V1 V2 X Y Z T : F) (w : World) (Hv : P3 w vb vo V0 V1 V2) (Hp : Pt w pb po X Y Z T) (hne : vb ≠ pb) :
    Calls Tryz.prog 50 #[.pointer (some ⟨vb, vo, none⟩), .pointer (some ⟨pb, po, none⟩)] w fun e w' => e = .returned (.pointer (some ⟨vb, vo, none⟩)) ∧ Upd w w' (Rg vb vo 15) ∧ P3 w' vb vo (X * T) (Y * Z) (Z * T) := by
  obtain ⟨hv0, hv1, hv2⟩ := Hv
  obtain ⟨hp0, hp1, hp2, hp3⟩ := Hp
  have lv := hv0.lt
  have lp := hp0.lt
  have hA := Upd.refl w (Rg vb vo 15)
  go_enter Tryz.func50, Tryz.ntmps50
  replace hA := hA.drew
  replace hv0 := hv0.drew
  replace hv1 := hv1.drew
  replace hv2 := hv2.drew
  replace hp0 := hp0.drew
  replace hp1 := hp1.drew
  replace hp2 := hp2.drew
  replace hp3 := hp3.drew
  go_wp2
  refine still_tail 9 (by kernel_rfl) (by kernel_rfl) ?_
  simp only [List.take_succ_cons, List.take_zero, List.drop_succ_cons, List.drop_zero]
  iterate 9 still_step
  refine wpStill_nil ?_
  go_wp2_with fail
  refine (mul_el vb vo pb po pb (po + 15) V0 X T _ hv0 hp0.r hp3.r).mono ?_
  rintro e w1 ⟨rfl, hU, hE⟩
  have s1 := hU.size
  try simp only [World.size_alloc] at s1
  replace hv1 := hv1.keep hU (fun i hi h => by obtain ⟨h1, h2, h3⟩ := h; omega)
  replace hv2 := hv2.keep hU (fun i hi h => by obtain ⟨h1, h2, h3⟩ := h; omega)
  replace hp0 := hp0.keep hU (fun i hi h => by obtain ⟨h1, h2, h3⟩ := h; omega)
  replace hp1 := hp1.keep hU (fun i hi h => by obtain ⟨h1, h2, h3⟩ := h; omega)
  replace hp2 := hp2.keep hU (fun i hi h => by obtain ⟨h1, h2, h3⟩ := h; omega)
  replace hp3 := hp3.keep hU (fun i hi h => by obtain ⟨h1, h2, h3⟩ := h; omega)
  replace hA := hA.trans hU (fun b o hb h => by obtain ⟨h1, h2, h3⟩ := h; exact ⟨h1, by omega, by omega⟩)
  clear hU
  clear hv0
  have hv0 := hE
  clear hE
  replace hA := hA.drew
  replace hv0 := hv0.drew
  replace hv1 := hv1.drew
  replace hv2 := hv2.drew
  replace hp0 := hp0.drew
  replace hp1 := hp1.drew
  replace hp2 := hp2.drew
  replace hp3 := hp3.drew
  go_wp2
  refine still_tail 9 (by kernel_rfl) (by kernel_rfl) ?_
  simp only [List.take_succ_cons, List.take_zero, List.drop_succ_cons, List.drop_zero]
  iterate 9 still_step
  refine wpStill_nil ?_
  go_wp2_with fail
  refine (mul_el vb (vo + 5) pb (po + 5) pb (po + 10) V1 Y Z _ hv1 hp1.r hp2.r).mono ?_
  rintro e w2 ⟨rfl, hU, hE⟩
  have s2 := hU.size
  try simp only [World.size_alloc] at s2
  replace hv0 := hv0.keep hU (fun i hi h => by obtain ⟨h1, h2, h3⟩ := h; omega)
  replace hv2 := hv2.keep hU (fun i hi h => by obtain ⟨h1, h2, h3⟩ := h; omega)
  replace hp0 := hp0.keep hU (fun i hi h => by obtain ⟨h1, h2, h3⟩ := h; omega)
  replace hp1 := hp1.keep hU (fun i hi h => by obtain ⟨h1, h2, h3⟩ := h; omega)
  replace hp2 := hp2.keep hU (fun i hi h => by obtain ⟨h1, h2, h3⟩ := h; omega)
  replace hp3 := hp3.keep hU (fun i hi h => by obtain ⟨h1, h2, h3⟩ := h; omega)
  replace hA := hA.trans hU (fun b o hb h => by obtain ⟨h1, h2, h3⟩ := h; exact ⟨h1, by omega, by omega⟩)
  clear hU
  clear hv1
  have hv1 := hE
  clear hE
  replace hA := hA.drew
  replace hv0 := hv0.drew
  replace hv1 := hv1.drew
  replace hv2 := hv2.drew
  replace hp0 := hp0.drew
  replace hp1 := hp1.drew
  replace hp2 := hp2.drew
  replace hp3 := hp3.drew
  go_wp2
  refine still_tail 9 (by kernel_rfl) (by kernel_rfl) ?_
  simp only [List.take_succ_cons, List.take_zero, List.drop_succ_cons, List.drop_zero]
  iterate 9 still_step
  refine wpStill_nil ?_
  go_wp2_with fail
  refine (mul_el vb (vo + 10) pb (po + 10) pb (po + 15) V2 Z T _ hv2 hp2.r hp3.r).mono ?_
  rintro e w3 ⟨rfl, hU, hE⟩
  have s3 := hU.size
  try simp only [World.size_alloc] at s3
  replace hv0 := hv0.keep hU (fun i hi h => by obtain ⟨h1, h2, h3⟩ := h; omega)
  replace hv1 := hv1.keep hU (fun i hi h => by obtain ⟨h1, h2, h3⟩ := h; omega)
  replace hp0 := hp0.keep hU (fun i hi h => by obtain ⟨h1, h2, h3⟩ := h; omega)
  replace hp1 := hp1.keep hU (fun i hi h => by obtain ⟨h1, h2, h3⟩ := h; omega)
  replace hp2 := hp2.keep hU (fun i hi h => by obtain ⟨h1, h2, h3⟩ := h; omega)
  replace hp3 := hp3.keep hU (fun i hi h => by obtain ⟨h1, h2, h3⟩ := h; omega)
  replace hA := hA.trans hU (fun b o hb h => by obtain ⟨h1, h2, h3⟩ := h; exact ⟨h1, by omega, by omega⟩)
  clear hU
  clear hv2
  have hv2 := hE
  clear hE
  go_wp2
  go_ret
  exact ⟨rfl, hA, hv0, hv1, hv2⟩

set_option maxRecDepth 100000 in
set_option maxHeartbeats 4000000 in
theorem dbl_c (vb vo pb po : Nat) (V0 V1 V2 V3 X Y Z : F) (w : World) (Hv : Pt w vb vo V0 V1 V2 V3) (Hp : P3 w pb po X Y Z) (hne : vb ≠ pb) :
    Calls Tryz.prog 51 #[.pointer (some ⟨vb, vo, none⟩), .pointer (some ⟨pb, po, none⟩)] w fun e w' => e = .returned (.pointer (some ⟨vb, vo, none⟩)) ∧ Upd w w' (Rg vb vo 20) ∧ Pt w' vb vo ((X + Y) * (X + Y) - (Y * Y + X * X)) (Y * Y + X * X) (Y * Y - X * X) (Z * Z + Z * Z - (Y * Y - X * X)) := by
  obtain ⟨hv0, hv1, hv2, hv3⟩ := Hv
  obtain ⟨hp0, hp1, hp2⟩ := Hp
  have lv := hv0.lt
  have lp := hp0.lt
  have hA := Upd.refl w (Rg vb vo 20)
  go_enter Tryz.func51, Tryz.ntmps51
  have A0 := (Upd.refl w (fun _ _ => False)).alloc (.cells #[.int .u64 0, .int .u64 0, .int .u64 0, .int .u64 0, .int .u64 0] 40)
  replace hv0 := hv0.keep A0 (fun _ _ h => h)
  replace hv1 := hv1.keep A0 (fun _ _ h => h)
  replace hv2 := hv2.keep A0 (fun _ _ h => h)
  replace hv3 := hv3.keep A0 (fun _ _ h => h)
  replace hp0 := hp0.keep A0 (fun _ _ h => h)
  replace hp1 := hp1.keep A0 (fun _ _ h => h)
  replace hp2 := hp2.keep A0 (fun _ _ h => h)
  replace hA := hA.alloc (.cells #[.int .u64 0, .int .u64 0, .int .u64 0, .int .u64 0, .int .u64 0] 40)
  clear A0
  have hxx : El (w.alloc (.cells #[.int .u64 0, .int .u64 0, .int .u64 0, .int .u64 0, .int .u64 0] 40)) (w.heap.size) 0 0 := by have h := El.zero w; (try simp only [World.size_alloc] at h); exact h
  have A0 := (Upd.refl (w.alloc (.cells #[.int .u64 0, .int .u64 0, .int .u64 0, .int .u64 0, .int .u64 0] 40)) (fun _ _ => False)).alloc (.cells #[.int .u64 0, .int .u64 0, .int .u64 0, .int .u64 0, .int .u64 0] 40)
  replace hv0 := hv0.keep A0 (fun _ _ h => h)
  replace hv1 := hv1.keep A0 (fun _ _ h => h)
  replace hv2 := hv2.keep A0 (fun _ _ h => h)
  replace hv3 := hv3.keep A0 (fun _ _ h => h)
  replace hp0 := hp0.keep A0 (fun _ _ h => h)
  replace hp1 := hp1.keep A0 (fun _ _ h => h)
  replace hp2 := hp2.keep A0 (fun _ _ h => h)
  replace hxx := hxx.keep A0 (fun _ _ h => h)
  replace hA := hA.alloc (.cells #[.int .u64 0, .int .u64 0, .int .u64 0, .int .u64 0, .int .u64 0] 40)
  clear A0
  have hyy : El ((w.alloc (.cells #[.int .u64 0, .int .u64 0, .int .u64 0, .int .u64 0, .int .u64 0] 40)).alloc (.cells #[.int .u64 0, .int .u64 0, .int .u64 0, .int .u64 0, .int .u64 0] 40)) (w.heap.size + 1) 0 0 := by have h := El.zero (w.alloc (.cells #[.int .u64 0, .int .u64 0, .int .u64 0, .int .u64 0, .int .u64 0] 40)); (try simp only [World.size_alloc] at h); exact h
  have A0 := (Upd.refl ((w.alloc (.cells #[.int .u64 0, .int .u64 0, .int .u64 0, .int .u64 0, .int .u64 0] 40)).alloc (.cells #[.int .u64 0, .int .u64 0, .int .u64 0, .int .u64 0, .int .u64 0] 40)) (fun _ _ => False)).alloc (.cells #[.int .u64 0, .int .u64 0, .int .u64 0, .int .u64 0, .int .u64 0] 40)
  replace hv0 := hv0.keep A0 (fun _ _ h => h)
  replace hv1 := hv1.keep A0 (fun _ _ h => h)
  replace hv2 := hv2.keep A0 (fun _ _ h => h)
  replace hv3 := hv3.keep A0 (fun _ _ h => h)
  replace hp0 := hp0.keep A0 (fun _ _ h => h)
  replace hp1 := hp1.keep A0 (fun _ _ h => h)
  replace hp2 := hp2.keep A0 (fun _ _ h => h)
  replace hxx := hxx.keep A0 (fun _ _ h => h)
  replace hyy := hyy.keep A0 (fun _ _ h => h)
  replace hA := hA.alloc (.cells #[.int .u64 0, .int .u64 0, .int .u64 0, .int .u64 0, .int .u64 0] 40)
  clear A0
  have hz2 : El (((w.alloc (.cells #[.int .u64 0, .int .u64 0, .int .u64 0, .int .u64 0, .int .u64 0] 40)).alloc (.cells #[.int .u64 0, .int .u64 0, .int .u64 0, .int .u64 0, .int .u64 0] 40)).alloc (.cells #[.int .u64 0, .int .u64 0, .int .u64 0, .int .u64 0, .int .u64 0] 40)) (w.heap.size + 1 + 1) 0 0 := by have h := El.zero ((w.alloc (.cells #[.int .u64 0, .int .u64 0, .int .u64 0, .int .u64 0, .int .u64 0] 40)).alloc (.cells #[.int .u64 0, .int .u64 0, .int .u64 0, .int .u64 0, .int .u64 0] 40)); (try simp only [World.size_alloc] at h); exact h
  have A0 := (Upd.refl (((w.alloc (.cells #[.int .u64 0, .int .u64 0, .int .u64 0, .int .u64 0, .int .u64 0] 40)).alloc (.cells #[.int .u64 0, .int .u64 0, .int .u64 0, .int .u64 0, .int .u64 0] 40)).alloc (.cells #[.int .u64 0, .int .u64 0, .int .u64 0, .int .u64 0, .int .u64 0] 40)) (fun _ _ => False)).alloc (.cells #[.int .u64 0, .int .u64 0, .int .u64 0, .int .u64 0, .int .u64 0] 40)
  replace hv0 := hv0.keep A0 (fun _ _ h => h)
  replace hv1 := hv1.keep A0 (fun _ _ h => h)
  replace hv2 := hv2.keep A0 (fun _ _ h => h)
  replace hv3 := hv3.keep A0 (fun _ _ h => h)
  replace hp0 := hp0.keep A0 (fun _ _ h => h)
  replace hp1 := hp1.keep A0 (fun _ _ h => h)
  replace hp2 := hp2.keep A0 (fun _ _ h => h)
  replace hxx := hxx.keep A0 (fun _ _ h => h)
  replace hyy := hyy.keep A0 (fun _ _ h => h)
  replace hz2 := hz2.keep A0 (fun _ _ h => h)
  replace hA := hA.alloc (.cells #[.int .u64 0, .int .u64 0, .int .u64 0, .int .u64 0, .int .u64 0] 40)
  clear A0
  have hxy : El ((((w.alloc (.cells #[.int .u64 0, .int .u64 0, .int .u64 0, .int .u64 0, .int .u64 0] 40)).alloc (.cells #[.int .u64 0, .int .u64 0, .int .u64 0, .int .u64 0, .int .u64 0] 40)).alloc (.cells #[.int .u64 0, .int .u64 0, .int .u64 0, .int .u64 0, .int .u64 0] 40)).alloc (.cells #[.int .u64 0, .int .u64 0, .int .u64 0, .int .u64 0, .int .u64 0] 40)) (w.heap.size + 1 + 1 + 1) 0 0 := by have h := El.zero (((w.alloc (.cells #[.int .u64 0, .int .u64 0, .int .u64 0, .int .u64 0, .int .u64 0] 40)).alloc (.cells #[.int .u64 0, .int .u64 0, .int .u64 0, .int .u64 0, .int .u64 0] 40)).alloc (.cells #[.int .u64 0, .int .u64 0, .int .u64 0, .int .u64 0, .int .u64 0] 40)); (try simp only [World.size_alloc] at h); exact h
  go_wp2_with fail
  refine (sq_el (w.heap.size) 0 pb po 0 X _ hxx hp0.r).mono ?_
  rintro e w1 ⟨rfl, hU, hE⟩
  have s1 := hU.size
  try simp only [World.size_alloc] at s1
  replace hv0 := hv0.keep hU (fun i hi h => by obtain ⟨h1, h2, h3⟩ := h; omega)
  replace hv1 := hv1.keep hU (fun i hi h => by obtain ⟨h1, h2, h3⟩ := h; omega)
  replace hv2 := hv2.keep hU (fun i hi h => by obtain ⟨h1, h2, h3⟩ := h; omega)
  replace hv3 := hv3.keep hU (fun i hi h => by obtain ⟨h1, h2, h3⟩ := h; omega)
  replace hp0 := hp0.keep hU (fun i hi h => by obtain ⟨h1, h2, h3⟩ := h; omega)
  replace hp1 := hp1.keep hU (fun i hi h => by obtain ⟨h1, h2, h3⟩ := h; omega)
  replace hp2 := hp2.keep hU (fun i hi h => by obtain ⟨h1, h2, h3⟩ := h; omega)
  replace hyy := hyy.keep hU (fun i hi h => by obtain ⟨h1, h2, h3⟩ := h; omega)
  replace hz2 := hz2.keep hU (fun i hi h => by obtain ⟨h1, h2, h3⟩ := h; omega)
  replace hxy := hxy.keep hU (fun i hi h => by obtain ⟨h1, h2, h3⟩ := h; omega)
  replace hA := hA.trans hU (fun b o hb h => by obtain ⟨h1, h2, h3⟩ := h; exfalso; omega)
  clear hU
  clear hxx
  obtain ⟨x1, ex⟩ : ∃ x : F, x = X * X := ⟨_, rfl⟩
  rw [← ex] at hE
  have X1 := Lib.hid ex
  clear ex
  have hxx := hE
  clear hE
  go_wp2_with fail
  refine (sq_el (w.heap.size + 1) 0 pb (po + 5) 0 Y _ hyy hp1.r).mono ?_
  rintro e w2 ⟨rfl, hU, hE⟩
  have s2 := hU.size
  try simp only [World.size_alloc] at s2
  replace hv0 := hv0.keep hU (fun i hi h => by obtain ⟨h1, h2, h3⟩ := h; omega)
  replace hv1 := hv1.keep hU (fun i hi h => by obtain ⟨h1, h2, h3⟩ := h; omega)
  replace hv2 := hv2.keep hU (fun i hi h => by obtain ⟨h1, h2, h3⟩ := h; omega)
  replace hv3 := hv3.keep hU (fun i hi h => by obtain ⟨h1, h2, h3⟩ := h; omega)
  replace hp0 := hp0.keep hU (fun i hi h => by obtain ⟨h1, h2, h3⟩ := h; omega)
  replace hp1 := hp1.keep hU (fun i hi h => by obtain ⟨h1, h2, h3⟩ := h; omega)
  replace hp2 := hp2.keep hU (fun i hi h => by obtain ⟨h1, h2, h3⟩ := h; omega)
  replace hxx := hxx.keep hU (fun i hi h => by obtain ⟨h1, h2, h3⟩ := h; omega)
  replace hz2 := hz2.keep hU (fun i hi h => by obtain ⟨h1, h2, h3⟩ := h; omega)
  replace hxy := hxy.keep hU (fun i hi h => by obtain ⟨h1, h2, h3⟩ := h; omega)
  replace hA := hA.trans hU (fun b o hb h => by obtain ⟨h1, h2, h3⟩ := h; exfalso; omega)
  clear hU
  clear hyy
  obtain ⟨x2, ex⟩ : ∃ x : F, x = Y * Y := ⟨_, rfl⟩
  rw [← ex] at hE
  have X2 := Lib.hid ex
  clear ex
  have hyy := hE
  clear hE
  go_wp2_with fail
  refine (sq_el (w.heap.size + 1 + 1) 0 pb (po + 10) 0 Z _ hz2 hp2.r).mono ?_
  rintro e w3 ⟨rfl, hU, hE⟩
  have s3 := hU.size
  try simp only [World.size_alloc] at s3
  replace hv0 := hv0.keep hU (fun i hi h => by obtain ⟨h1, h2, h3⟩ := h; omega)
  replace hv1 := hv1.keep hU (fun i hi h => by obtain ⟨h1, h2, h3⟩ := h; omega)
  replace hv2 := hv2.keep hU (fun i hi h => by obtain ⟨h1, h2, h3⟩ := h; omega)
  replace hv3 := hv3.keep hU (fun i hi h => by obtain ⟨h1, h2, h3⟩ := h; omega)
  replace hp0 := hp0.keep hU (fun i hi h => by obtain ⟨h1, h2, h3⟩ := h; omega)
  replace hp1 := hp1.keep hU (fun i hi h => by obtain ⟨h1, h2, h3⟩ := h; omega)
  replace hp2 := hp2.keep hU (fun i hi h => by obtain ⟨h1, h2, h3⟩ := h; omega)
  replace hxx := hxx.keep hU (fun i hi h => by obtain ⟨h1, h2, h3⟩ := h; omega)
  replace hyy := hyy.keep hU (fun i hi h => by obtain ⟨h1, h2, h3⟩ := h; omega)
  replace hxy := hxy.keep hU (fun i hi h => by obtain ⟨h1, h2, h3⟩ := h; omega)
  replace hA := hA.trans hU (fun b o hb h => by obtain ⟨h1, h2, h3⟩ := h; exfalso; omega)
  clear hU
  clear hz2
  obtain ⟨x3, ex⟩ : ∃ x : F, x = Z * Z := ⟨_, rfl⟩
  rw [← ex] at hE
  have X3 := Lib.hid ex
  clear ex
  have hz2 := hE
  clear hE
  go_wp2_with fail
  refine (add_c (w.heap.size + 1 + 1) 0 (w.heap.size + 1 + 1) 0 (w.heap.size + 1 + 1) 0 x3 x3 x3 _ hz2 hz2.r hz2.r (by unfold Ap; omega) (by unfold Ap; omega)).mono ?_
  rintro e w4 ⟨rfl, hU, hE⟩
  have s4 := hU.size
  try simp only [World.size_alloc] at s4
  replace hv0 := hv0.keep hU (fun i hi h => by obtain ⟨h1, h2, h3⟩ := h; omega)
  replace hv1 := hv1.keep hU (fun i hi h => by obtain ⟨h1, h2, h3⟩ := h; omega)
  replace hv2 := hv2.keep hU (fun i hi h => by obtain ⟨h1, h2, h3⟩ := h; omega)
  replace hv3 := hv3.keep hU (fun i hi h => by obtain ⟨h1, h2, h3⟩ := h; omega)
  replace hp0 := hp0.keep hU (fun i hi h => by obtain ⟨h1, h2, h3⟩ := h; omega)
  replace hp1 := hp1.keep hU (fun i hi h => by obtain ⟨h1, h2, h3⟩ := h; omega)
  replace hp2 := hp2.keep hU (fun i hi h => by obtain ⟨h1, h2, h3⟩ := h; omega)
  replace hxx := hxx.keep hU (fun i hi h => by obtain ⟨h1, h2, h3⟩ := h; omega)
  replace hyy := hyy.keep hU (fun i hi h => by obtain ⟨h1, h2, h3⟩ := h; omega)
  replace hxy := hxy.keep hU (fun i hi h => by obtain ⟨h1, h2, h3⟩ := h; omega)
  replace hA := hA.trans hU (fun b o hb h => by obtain ⟨h1, h2, h3⟩ := h; exfalso; omega)
  clear hU
  clear hz2
  obtain ⟨x4, ex⟩ : ∃ x : F, x = x3 + x3 := ⟨_, rfl⟩
  rw [← ex] at hE
  have X4 := Lib.hid ex
  clear ex
  have hz2 := hE
  clear hE
  replace hA := hA.drew
  replace hv0 := hv0.drew
  replace hv1 := hv1.drew
  replace hv2 := hv2.drew
  replace hv3 := hv3.drew
  replace hp0 := hp0.drew
  replace hp1 := hp1.drew
  replace hp2 := hp2.drew
  replace hxx := hxx.drew
  replace hyy := hyy.drew
  replace hz2 := hz2.drew
  replace hxy := hxy.drew
  go_wp2
  refine still_tail 6 (by kernel_rfl) (by kernel_rfl) ?_
  simp only [List.take_succ_cons, List.take_zero, List.drop_succ_cons, List.drop_zero]
  iterate 6 still_step
  refine wpStill_nil ?_
  go_wp2_with fail
  refine (add_c (w.heap.size + 1 + 1 + 1) 0 pb po pb (po + 5) 0 X Y _ hxy hp0.r hp1.r (by unfold Ap; omega) (by unfold Ap; omega)).mono ?_
  rintro e w5 ⟨rfl, hU, hE⟩
  have s5 := hU.size
  try simp only [World.size_alloc] at s5
  replace hv0 := hv0.keep hU (fun i hi h => by obtain ⟨h1, h2, h3⟩ := h; omega)
  replace hv1 := hv1.keep hU (fun i hi h => by obtain ⟨h1, h2, h3⟩ := h; omega)
  replace hv2 := hv2.keep hU (fun i hi h => by obtain ⟨h1, h2, h3⟩ := h; omega)
  replace hv3 := hv3.keep hU (fun i hi h => by obtain ⟨h1, h2, h3⟩ := h; omega)
  replace hp0 := hp0.keep hU (fun i hi h => by obtain ⟨h1, h2, h3⟩ := h; omega)
  replace hp1 := hp1.keep hU (fun i hi h => by obtain ⟨h1, h2, h3⟩ := h; omega)
  replace hp2 := hp2.keep hU (fun i hi h => by obtain ⟨h1, h2, h3⟩ := h; omega)
  replace hxx := hxx.keep hU (fun i hi h => by obtain ⟨h1, h2, h3⟩ := h; omega)
  replace hyy := hyy.keep hU (fun i hi h => by obtain ⟨h1, h2, h3⟩ := h; omega)
  replace hz2 := hz2.keep hU (fun i hi h => by obtain ⟨h1, h2, h3⟩ := h; omega)
  replace hA := hA.trans hU (fun b o hb h => by obtain ⟨h1, h2, h3⟩ := h; exfalso; omega)
  clear hU
  clear hxy
  obtain ⟨x5, ex⟩ : ∃ x : F, x = X + Y := ⟨_, rfl⟩
  rw [← ex] at hE
  have X5 := Lib.hid ex
  clear ex
  have hxy := hE
  clear hE
  go_wp2_with fail
  refine (sq_el (w.heap.size + 1 + 1 + 1) 0 (w.heap.size + 1 + 1 + 1) 0 x5 x5 _ hxy hxy.r).mono ?_
  rintro e w6 ⟨rfl, hU, hE⟩
  have s6 := hU.size
  try simp only [World.size_alloc] at s6
  replace hv0 := hv0.keep hU (fun i hi h => by obtain ⟨h1, h2, h3⟩ := h; omega)
  replace hv1 := hv1.keep hU (fun i hi h => by obtain ⟨h1, h2, h3⟩ := h; omega)
  replace hv2 := hv2.keep hU (fun i hi h => by obtain ⟨h1, h2, h3⟩ := h; omega)
  replace hv3 := hv3.keep hU (fun i hi h => by obtain ⟨h1, h2, h3⟩ := h; omega)
  replace hp0 := hp0.keep hU (fun i hi h => by obtain ⟨h1, h2, h3⟩ := h; omega)
  replace hp1 := hp1.keep hU (fun i hi h => by obtain ⟨h1, h2, h3⟩ := h; omega)
  replace hp2 := hp2.keep hU (fun i hi h => by obtain ⟨h1, h2, h3⟩ := h; omega)
  replace hxx := hxx.keep hU (fun i hi h => by obtain ⟨h1, h2, h3⟩ := h; omega)
  replace hyy := hyy.keep hU (fun i hi h => by obtain ⟨h1, h2, h3⟩ := h; omega)
  replace hz2 := hz2.keep hU (fun i hi h => by obtain ⟨h1, h2, h3⟩ := h; omega)
  replace hA := hA.trans hU (fun b o hb h => by obtain ⟨h1, h2, h3⟩ := h; exfalso; omega)
  clear hU
  clear hxy
  obtain ⟨x6, ex⟩ : ∃ x : F, x = x5 * x5 := ⟨_, rfl⟩
  rw [← ex] at hE
  have X6 := Lib.hid ex
  clear ex
  have hxy := hE
  clear hE
  go_wp2_with fail
  refine (add_c vb (vo + 5) (w.heap.size + 1) 0 (w.heap.size) 0 V1 x2 x1 _ hv1 hyy.r hxx.r (by unfold Ap; omega) (by unfold Ap; omega)).mono ?_
  rintro e w7 ⟨rfl, hU, hE⟩
  have s7 := hU.size
  try simp only [World.size_alloc] at s7
  replace hv0 := hv0.keep hU (fun i hi h => by obtain ⟨h1, h2, h3⟩ := h; omega)
  replace hv2 := hv2.keep hU (fun i hi h => by obtain ⟨h1, h2, h3⟩ := h; omega)
  replace hv3 := hv3.keep hU (fun i hi h => by obtain ⟨h1, h2, h3⟩ := h; omega)
  replace hp0 := hp0.keep hU (fun i hi h => by obtain ⟨h1, h2, h3⟩ := h; omega)
  replace hp1 := hp1.keep hU (fun i hi h => by obtain ⟨h1, h2, h3⟩ := h; omega)
  replace hp2 := hp2.keep hU (fun i hi h => by obtain ⟨h1, h2, h3⟩ := h; omega)
  replace hxx := hxx.keep hU (fun i hi h => by obtain ⟨h1, h2, h3⟩ := h; omega)
  replace hyy := hyy.keep hU (fun i hi h => by obtain ⟨h1, h2, h3⟩ := h; omega)
  replace hz2 := hz2.keep hU (fun i hi h => by obtain ⟨h1, h2, h3⟩ := h; omega)
  replace hxy := hxy.keep hU (fun i hi h => by obtain ⟨h1, h2, h3⟩ := h; omega)
  replace hA := hA.trans hU (fun b o hb h => by obtain ⟨h1, h2, h3⟩ := h; exact ⟨h1, by omega, by omega⟩)
  clear hU
  clear hv1
  obtain ⟨x7, ex⟩ : ∃ x : F, x = x2 + x1 := ⟨_, rfl⟩
  rw [← ex] at hE
  have X7 := Lib.hid ex
  clear ex
  have hv1 := hE
  clear hE
  go_wp2_with fail
  refine (sub_c vb (vo + 10) (w.heap.size + 1) 0 (w.heap.size) 0 V2 x2 x1 _ hv2 hyy.r hxx.r (by unfold Ap; omega) (by unfold Ap; omega)).mono ?_
  rintro e w8 ⟨rfl, hU, hE⟩
  have s8 := hU.size
  try simp only [World.size_alloc] at s8
  replace hv0 := hv0.keep hU (fun i hi h => by obtain ⟨h1, h2, h3⟩ := h; omega)
  replace hv1 := hv1.keep hU (fun i hi h => by obtain ⟨h1, h2, h3⟩ := h; omega)
  replace hv3 := hv3.keep hU (fun i hi h => by obtain ⟨h1, h2, h3⟩ := h; omega)
  replace hp0 := hp0.keep hU (fun i hi h => by obtain ⟨h1, h2, h3⟩ := h; omega)
  replace hp1 := hp1.keep hU (fun i hi h => by obtain ⟨h1, h2, h3⟩ := h; omega)
  replace hp2 := hp2.keep hU (fun i hi h => by obtain ⟨h1, h2, h3⟩ := h; omega)
  replace hxx := hxx.keep hU (fun i hi h => by obtain ⟨h1, h2, h3⟩ := h; omega)
  replace hyy := hyy.keep hU (fun i hi h => by obtain ⟨h1, h2, h3⟩ := h; omega)
  replace hz2 := hz2.keep hU (fun i hi h => by obtain ⟨h1, h2, h3⟩ := h; omega)
  replace hxy := hxy.keep hU (fun i hi h => by obtain ⟨h1, h2, h3⟩ := h; omega)
  replace hA := hA.trans hU (fun b o hb h => by obtain ⟨h1, h2, h3⟩ := h; exact ⟨h1, by omega, by omega⟩)
  clear hU
  clear hv2
  obtain ⟨x8, ex⟩ : ∃ x : F, x = x2 - x1 := ⟨_, rfl⟩
  rw [← ex] at hE
  have X8 := Lib.hid ex
  clear ex
  have hv2 := hE
  clear hE
  replace hA := hA.drew
  replace hv0 := hv0.drew
  replace hv1 := hv1.drew
  replace hv2 := hv2.drew
  replace hv3 := hv3.drew
  replace hp0 := hp0.drew
  replace hp1 := hp1.drew
  replace hp2 := hp2.drew
  replace hxx := hxx.drew
  replace hyy := hyy.drew
  replace hz2 := hz2.drew
  replace hxy := hxy.drew
  go_wp2
  refine still_tail 6 (by kernel_rfl) (by kernel_rfl) ?_
  simp only [List.take_succ_cons, List.take_zero, List.drop_succ_cons, List.drop_zero]
  iterate 6 still_step
  refine wpStill_nil ?_
  go_wp2_with fail
  refine (sub_c vb vo (w.heap.size + 1 + 1 + 1) 0 vb (vo + 5) V0 x6 x7 _ hv0 hxy.r hv1.r (by unfold Ap; omega) (by unfold Ap; omega)).mono ?_
  rintro e w9 ⟨rfl, hU, hE⟩
  have s9 := hU.size
  try simp only [World.size_alloc] at s9
  replace hv1 := hv1.keep hU (fun i hi h => by obtain ⟨h1, h2, h3⟩ := h; omega)
  replace hv2 := hv2.keep hU (fun i hi h => by obtain ⟨h1, h2, h3⟩ := h; omega)
  replace hv3 := hv3.keep hU (fun i hi h => by obtain ⟨h1, h2, h3⟩ := h; omega)
  replace hp0 := hp0.keep hU (fun i hi h => by obtain ⟨h1, h2, h3⟩ := h; omega)
  replace hp1 := hp1.keep hU (fun i hi h => by obtain ⟨h1, h2, h3⟩ := h; omega)
  replace hp2 := hp2.keep hU (fun i hi h => by obtain ⟨h1, h2, h3⟩ := h; omega)
  replace hxx := hxx.keep hU (fun i hi h => by obtain ⟨h1, h2, h3⟩ := h; omega)
  replace hyy := hyy.keep hU (fun i hi h => by obtain ⟨h1, h2, h3⟩ := h; omega)
  replace hz2 := hz2.keep hU (fun i hi h => by obtain ⟨h1, h2, h3⟩ := h; omega)
  replace hxy := hxy.keep hU (fun i hi h => by obtain ⟨h1, h2, h3⟩ := h; omega)
  replace hA := hA.trans hU (fun b o hb h => by obtain ⟨h1, h2, h3⟩ := h; exact ⟨h1, by omega, by omega⟩)
  clear hU
  clear hv0
  have hv0 := hE
  clear hE
  replace hA := hA.drew
  replace hv0 := hv0.drew
  replace hv1 := hv1.drew
  replace hv2 := hv2.drew
  replace hv3 := hv3.drew
  replace hp0 := hp0.drew
  replace hp1 := hp1.drew
  replace hp2 := hp2.drew
  replace hxx := hxx.drew
  replace hyy := hyy.drew
  replace hz2 := hz2.drew
  replace hxy := hxy.drew
  go_wp2
  refine still_tail 6 (by kernel_rfl) (by kernel_rfl) ?_
  simp only [List.take_succ_cons, List.take_zero, List.drop_succ_cons, List.drop_zero]
  iterate 6 still_step
  refine wpStill_nil ?_
  go_wp2_with fail
  refine (sub_c vb (vo + 15) (w.heap.size + 1 + 1) 0 vb (vo + 10) V3 x4 x8 _ hv3 hz2.r hv2.r (by unfold Ap; omega) (by unfold Ap; omega)).mono ?_
  rintro e w10 ⟨rfl, hU, hE⟩
  have s10 := hU.size
  try simp only [World.size_alloc] at s10
  replace hv0 := hv0.keep hU (fun i hi h => by obtain ⟨h1, h2, h3⟩ := h; omega)
  replace hv1 := hv1.keep hU (fun i hi h => by obtain ⟨h1, h2, h3⟩ := h; omega)
  replace hv2 := hv2.keep hU (fun i hi h => by obtain ⟨h1, h2, h3⟩ := h; omega)
  replace hp0 := hp0.keep hU (fun i hi h => by obtain ⟨h1, h2, h3⟩ := h; omega)
  replace hp1 := hp1.keep hU (fun i hi h => by obtain ⟨h1, h2, h3⟩ := h; omega)
  replace hp2 := hp2.keep hU (fun i hi h => by obtain ⟨h1, h2, h3⟩ := h; omega)
  replace hxx := hxx.keep hU (fun i hi h => by obtain ⟨h1, h2, h3⟩ := h; omega)
  replace hyy := hyy.keep hU (fun i hi h => by obtain ⟨h1, h2, h3⟩ := h; omega)
  replace hz2 := hz2.keep hU (fun i hi h => by obtain ⟨h1, h2, h3⟩ := h; omega)
  replace hxy := hxy.keep hU (fun i hi h => by obtain ⟨h1, h2, h3⟩ := h; omega)
  replace hA := hA.trans hU (fun b o hb h => by obtain ⟨h1, h2, h3⟩ := h; exact ⟨h1, by omega, by omega⟩)
  clear hU
  clear hv3
  have hv3 := hE
  clear hE
  go_wp2
  go_ret
  have e1 := X1.out
  have e2 := X2.out
  have e3 := X3.out
  have e4 := X4.out
  have e5 := X5.out
  have e6 := X6.out
  have e7 := X7.out
  have e8 := X8.out
  rw [e3] at e4
  rw [e5] at e6
  rw [e1, e2] at e7 e8
  rw [e6, e7] at hv0
  rw [e7] at hv1
  rw [e8] at hv2
  rw [e4, e8] at hv3
  exact ⟨rfl, hA, hv0, hv1, hv2, hv3⟩

set_option maxRecDepth 100000 in
set_option maxHeartbeats 4000000 in
theorem cZero_c (B vb vo : Nat) (V0 V1 V2 V3 : F) (w : World) (hG : Glob B w) (hB : B ≤ vb) (Hv : Pt w vb vo V0 V1 V2 V3) :
    Calls Tryz.prog 79 #[.pointer (some ⟨vb, vo, none⟩)] w fun e w' => e = .returned (.pointer (some ⟨vb, vo, none⟩)) ∧ Upd w w' (Rg vb vo 20) ∧ Pt w' vb vo 1 1 1 0 := by
  obtain ⟨hv0, hv1, hv2, hv3⟩ := Hv
  have lv := hv0.lt
  have hA := Upd.refl w (Rg vb vo 20)
  go_enter Tryz.func79, Tryz.ntmps79
  go_wp2_with fail
  refine (one_c B vb vo V0 _ hG hv0).mono ?_
  rintro e w1 ⟨rfl, hU, hE⟩
  have s1 := hU.size
  try simp only [World.size_alloc] at s1
  replace hv1 := hv1.keep hU (fun i hi h => by obtain ⟨h1, h2, h3⟩ := h; omega)
  replace hv2 := hv2.keep hU (fun i hi h => by obtain ⟨h1, h2, h3⟩ := h; omega)
  replace hv3 := hv3.keep hU (fun i hi h => by obtain ⟨h1, h2, h3⟩ := h; omega)
  replace hG := hG.keep hU (fun b o hb h => by obtain ⟨h1, h2, h3⟩ := h; omega)
  replace hA := hA.trans hU (fun b o hb h => by obtain ⟨h1, h2, h3⟩ := h; exact ⟨h1, by omega, by omega⟩)
  clear hU
  clear hv0
  have hv0 := hE
  clear hE
  go_wp2_with fail
  refine (one_c B vb (vo + 5) V1 _ hG hv1).mono ?_
  rintro e w2 ⟨rfl, hU, hE⟩
  have s2 := hU.size
  try simp only [World.size_alloc] at s2
  replace hv0 := hv0.keep hU (fun i hi h => by obtain ⟨h1, h2, h3⟩ := h; omega)
  replace hv2 := hv2.keep hU (fun i hi h => by obtain ⟨h1, h2, h3⟩ := h; omega)
  replace hv3 := hv3.keep hU (fun i hi h => by obtain ⟨h1, h2, h3⟩ := h; omega)
  replace hG := hG.keep hU (fun b o hb h => by obtain ⟨h1, h2, h3⟩ := h; omega)
  replace hA := hA.trans hU (fun b o hb h => by obtain ⟨h1, h2, h3⟩ := h; exact ⟨h1, by omega, by omega⟩)
  clear hU
  clear hv1
  have hv1 := hE
  clear hE
  go_wp2_with fail
  refine (one_c B vb (vo + 10) V2 _ hG hv2).mono ?_
  rintro e w3 ⟨rfl, hU, hE⟩
  have s3 := hU.size
  try simp only [World.size_alloc] at s3
  replace hv0 := hv0.keep hU (fun i hi h => by obtain ⟨h1, h2, h3⟩ := h; omega)
  replace hv1 := hv1.keep hU (fun i hi h => by obtain ⟨h1, h2, h3⟩ := h; omega)
  replace hv3 := hv3.keep hU (fun i hi h => by obtain ⟨h1, h2, h3⟩ := h; omega)
  replace hG := hG.keep hU (fun b o hb h => by obtain ⟨h1, h2, h3⟩ := h; omega)
  replace hA := hA.trans hU (fun b o hb h => by obtain ⟨h1, h2, h3⟩ := h; exact ⟨h1, by omega, by omega⟩)
  clear hU
  clear hv2
  have hv2 := hE
  clear hE
  go_wp2_with fail
  refine (zero_c B vb (vo + 15) V3 _ hG hv3).mono ?_
  rintro e w4 ⟨rfl, hU, hE⟩
  have s4 := hU.size
  try simp only [World.size_alloc] at s4
  replace hv0 := hv0.keep hU (fun i hi h => by obtain ⟨h1, h2, h3⟩ := h; omega)
  replace hv1 := hv1.keep hU (fun i hi h => by obtain ⟨h1, h2, h3⟩ := h; omega)
  replace hv2 := hv2.keep hU (fun i hi h => by obtain ⟨h1, h2, h3⟩ := h; omega)
  replace hG := hG.keep hU (fun b o hb h => by obtain ⟨h1, h2, h3⟩ := h; omega)
  replace hA := hA.trans hU (fun b o hb h => by obtain ⟨h1, h2, h3⟩ := h; exact ⟨h1, by omega, by omega⟩)
  clear hU
  clear hv3
  have hv3 := hE
  clear hE
  go_wp2
  go_ret
  exact ⟨rfl, hA, hv0, hv1, hv2, hv3⟩

set_option maxRecDepth 100000 in
set_option maxHeartbeats 4000000 in
theorem cSel_c (c : Int) (hc : c = 0 ∨ c = 1) (vb vo pb po : Nat) (V0 V1 V2 V3 X Y Z T : F) (w : World) (Hv : Pt w vb vo V0 V1 V2 V3) (Hp : Pt w pb po X Y Z T) (hne : vb ≠ pb) :
    Calls Tryz.prog 81 #[.pointer (some ⟨vb, vo, none⟩), .pointer (some ⟨pb, po, none⟩), .pointer (some ⟨vb, vo, none⟩), .int .i64 c] w fun e w' => e = .returned (.pointer (some ⟨vb, vo, none⟩)) ∧ Upd w w' (Rg vb vo 20) ∧ Pt w' vb vo (selF c X V0) (selF c Y V1) (selF c Z V2) (selF c T V3) := by
  obtain ⟨hv0, hv1, hv2, hv3⟩ := Hv
  obtain ⟨hp0, hp1, hp2, hp3⟩ := Hp
  have lv := hv0.lt
  have lp := hp0.lt
  have hA := Upd.refl w (Rg vb vo 20)
  go_enter Tryz.func81, Tryz.ntmps81
  replace hA := hA.drew
  replace hv0 := hv0.drew
  replace hv1 := hv1.drew
  replace hv2 := hv2.drew
  replace hv3 := hv3.drew
  replace hp0 := hp0.drew
  replace hp1 := hp1.drew
  replace hp2 := hp2.drew
  replace hp3 := hp3.drew
  go_wp2
  refine still_tail 10 (by kernel_rfl) (by kernel_rfl) ?_
  simp only [List.take_succ_cons, List.take_zero, List.drop_succ_cons, List.drop_zero]
  iterate 10 still_step
  refine wpStill_nil ?_
  go_wp2_with fail
  refine (sel_any c hc vb vo pb po vb vo V0 X V0 _ hv0 hp0.r hv0.r (by unfold Ap; omega) (by unfold Ap; omega)).mono ?_
  rintro e w1 ⟨rfl, hU, hE⟩
  have s1 := hU.size
  try simp only [World.size_alloc] at s1
  replace hv1 := hv1.keep hU (fun i hi h => by obtain ⟨h1, h2, h3⟩ := h; omega)
  replace hv2 := hv2.keep hU (fun i hi h => by obtain ⟨h1, h2, h3⟩ := h; omega)
  replace hv3 := hv3.keep hU (fun i hi h => by obtain ⟨h1, h2, h3⟩ := h; omega)
  replace hp0 := hp0.keep hU (fun i hi h => by obtain ⟨h1, h2, h3⟩ := h; omega)
  replace hp1 := hp1.keep hU (fun i hi h => by obtain ⟨h1, h2, h3⟩ := h; omega)
  replace hp2 := hp2.keep hU (fun i hi h => by obtain ⟨h1, h2, h3⟩ := h; omega)
  replace hp3 := hp3.keep hU (fun i hi h => by obtain ⟨h1, h2, h3⟩ := h; omega)
  replace hA := hA.trans hU (fun b o hb h => by obtain ⟨h1, h2, h3⟩ := h; exact ⟨h1, by omega, by omega⟩)
  clear hU
  clear hv0
  have hv0 := hE
  clear hE
  replace hA := hA.drew
  replace hv0 := hv0.drew
  replace hv1 := hv1.drew
  replace hv2 := hv2.drew
  replace hv3 := hv3.drew
  replace hp0 := hp0.drew
  replace hp1 := hp1.drew
  replace hp2 := hp2.drew
  replace hp3 := hp3.drew
  go_wp2
  refine still_tail 10 (by kernel_rfl) (by kernel_rfl) ?_
  simp only [List.take_succ_cons, List.take_zero, List.drop_succ_cons, List.drop_zero]
  iterate 10 still_step
  refine wpStill_nil ?_
  go_wp2_with fail
  refine (sel_any c hc vb (vo + 5) pb (po + 5) vb (vo + 5) V1 Y V1 _ hv1 hp1.r hv1.r (by unfold Ap; omega) (by unfold Ap; omega)).mono ?_
  rintro e w2 ⟨rfl, hU, hE⟩
  have s2 := hU.size
  try simp only [World.size_alloc] at s2
  replace hv0 := hv0.keep hU (fun i hi h => by obtain ⟨h1, h2, h3⟩ := h; omega)
  replace hv2 := hv2.keep hU (fun i hi h => by obtain ⟨h1, h2, h3⟩ := h; omega)
  replace hv3 := hv3.keep hU (fun i hi h => by obtain ⟨h1, h2, h3⟩ := h; omega)
  replace hp0 := hp0.keep hU (fun i hi h => by obtain ⟨h1, h2, h3⟩ := h; omega)
  replace hp1 := hp1.keep hU (fun i hi h => by obtain ⟨h1, h2, h3⟩ := h; omega)
  replace hp2 := hp2.keep hU (fun i hi h => by obtain ⟨h1, h2, h3⟩ := h; omega)
  replace hp3 := hp3.keep hU (fun i hi h => by obtain ⟨h1, h2, h3⟩ := h; omega)
  replace hA := hA.trans hU (fun b o hb h => by obtain ⟨h1, h2, h3⟩ := h; exact ⟨h1, by omega, by omega⟩)
  clear hU
  clear hv1
  have hv1 := hE
  clear hE
  replace hA := hA.drew
  replace hv0 := hv0.drew
  replace hv1 := hv1.drew
  replace hv2 := hv2.drew
  replace hv3 := hv3.drew
  replace hp0 := hp0.drew
  replace hp1 := hp1.drew
  replace hp2 := hp2.drew
  replace hp3 := hp3.drew
  go_wp2
  refine still_tail 10 (by kernel_rfl) (by kernel_rfl) ?_
  simp only [List.take_succ_cons, List.take_zero, List.drop_succ_cons, List.drop_zero]
  iterate 10 still_step
  refine wpStill_nil ?_
  go_wp2_with fail
  refine (sel_any c hc vb (vo + 10) pb (po + 10) vb (vo + 10) V2 Z V2 _ hv2 hp2.r hv2.r (by unfold Ap; omega) (by unfold Ap; omega)).mono ?_
  rintro e w3 ⟨rfl, hU, hE⟩
  have s3 := hU.size
  try simp only [World.size_alloc] at s3
  replace hv0 := hv0.keep hU (fun i hi h => by obtain ⟨h1, h2, h3⟩ := h; omega)
  replace hv1 := hv1.keep hU (fun i hi h => by obtain ⟨h1, h2, h3⟩ := h; omega)
  replace hv3 := hv3.keep hU (fun i hi h => by obtain ⟨h1, h2, h3⟩ := h; omega)
  replace hp0 := hp0.keep hU (fun i hi h => by obtain ⟨h1, h2, h3⟩ := h; omega)
  replace hp1 := hp1.keep hU (fun i hi h => by obtain ⟨h1, h2, h3⟩ := h; omega)
  replace hp2 := hp2.keep hU (fun i hi h => by obtain ⟨h1, h2, h3⟩ := h; omega)
  replace hp3 := hp3.keep hU (fun i hi h => by obtain ⟨h1, h2, h3⟩ := h; omega)
  replace hA := hA.trans hU (fun b o hb h => by obtain ⟨h1, h2, h3⟩ := h; exact ⟨h1, by omega, by omega⟩)
  clear hU
  clear hv2
  have hv2 := hE
  clear hE
  replace hA := hA.drew
  replace hv0 := hv0.drew
  replace hv1 := hv1.drew
  replace hv2 := hv2.drew
  replace hv3 := hv3.drew
  replace hp0 := hp0.drew
  replace hp1 := hp1.drew
  replace hp2 := hp2.drew
  replace hp3 := hp3.drew
  go_wp2
  refine still_tail 10 (by kernel_rfl) (by kernel_rfl) ?_
  simp only [List.take_succ_cons, List.take_zero, List.drop_succ_cons, List.drop_zero]
  iterate 10 still_step
  refine wpStill_nil ?_
  go_wp2_with fail
  refine (sel_any c hc vb (vo + 15) pb (po + 15) vb (vo + 15) V3 T V3 _ hv3 hp3.r hv3.r (by unfold Ap; omega) (by unfold Ap; omega)).mono ?_
  rintro e w4 ⟨rfl, hU, hE⟩
  have s4 := hU.size
  try simp only [World.size_alloc] at s4
  replace hv0 := hv0.keep hU (fun i hi h => by obtain ⟨h1, h2, h3⟩ := h; omega)
  replace hv1 := hv1.keep hU (fun i hi h => by obtain ⟨h1, h2, h3⟩ := h; omega)
  replace hv2 := hv2.keep hU (fun i hi h => by obtain ⟨h1, h2, h3⟩ := h; omega)
  replace hp0 := hp0.keep hU (fun i hi h => by obtain ⟨h1, h2, h3⟩ := h; omega)
  replace hp1 := hp1.keep hU (fun i hi h => by obtain ⟨h1, h2, h3⟩ := h; omega)
  replace hp2 := hp2.keep hU (fun i hi h => by obtain ⟨h1, h2, h3⟩ := h; omega)
  replace hp3 := hp3.keep hU (fun i hi h => by obtain ⟨h1, h2, h3⟩ := h; omega)
  replace hA := hA.trans hU (fun b o hb h => by obtain ⟨h1, h2, h3⟩ := h; exact ⟨h1, by omega, by omega⟩)
  clear hU
  clear hv3
  have hv3 := hE
  clear hE
  go_wp2
  go_ret
  exact ⟨rfl, hA, hv0, hv1, hv2, hv3⟩


end Go.Proofs.YtkibnongmkhbaaaGreatDoor
end
