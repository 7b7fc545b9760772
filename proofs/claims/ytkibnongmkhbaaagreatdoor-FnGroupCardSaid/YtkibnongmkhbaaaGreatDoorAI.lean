/- Part of the proof that laws.FnGroup returns true for all 32 bytes p, q and x: the field's Swap.
   Conditions: those that each theorem states. -/
import Derived.Test.YtkibnongmkhbaaaGreatDoorAD

section
open Go Go.RowKit
namespace Go.Proofs.YtkibnongmkhbaaaGreatDoor
open Ed

theorem C5.oth {w : World} {b o : Nat} {l0 l1 l2 l3 l4 : Int} (h : C5 w b o l0 l1 l2 l3 l4) {q : Addr} (hq : ∀ j, j < 5 → q ≠ ⟨b, o + j, none⟩) (v : Value) : C5 (w.setCell q v) b o l0 l1 l2 l3 l4 :=
  ⟨(World.cell?_setCell_other _ _ _ _ (hq 0 (by omega))).trans h.c0, (World.cell?_setCell_other _ _ _ _ (hq 1 (by omega))).trans h.c1, (World.cell?_setCell_other _ _ _ _ (hq 2 (by omega))).trans h.c2,
    (World.cell?_setCell_other _ _ _ _ (hq 3 (by omega))).trans h.c3, (World.cell?_setCell_other _ _ _ _ (hq 4 (by omega))).trans h.c4,
    (World.frozen?_setCell _ _ _ _).trans h.f0, (World.frozen?_setCell _ _ _ _).trans h.f1, (World.frozen?_setCell _ _ _ _).trans h.f2, (World.frozen?_setCell _ _ _ _).trans h.f3, (World.frozen?_setCell _ _ _ _).trans h.f4⟩
set_option maxRecDepth 1000000 in
set_option maxHeartbeats 40000000 in
theorem swap0_c (vb vo ub uo : Nat) (X Y : F) (w : World) (hX : El w vb vo X) (hY : El w ub uo Y) (hd : vb ≠ ub ∨ vo + 5 ≤ uo ∨ uo + 5 ≤ vo) :
    Calls Tryz.prog 101 #[.pointer (some ⟨vb, vo, none⟩), .pointer (some ⟨ub, uo, none⟩), .int .i64 0] w fun e w' => e = .returned (.tuple #[]) ∧ Upd w w' (fun b o => Rg vb vo 5 b o ∨ Rg ub uo 5 b o) ∧ El w' vb vo X ∧ El w' ub uo Y := by
  have dj : ∀ i j, i < 5 → j < 5 → (⟨vb, vo + i, none⟩ : Addr) ≠ ⟨ub, uo + j, none⟩ := by
    intro i j hi hj e
    simp only [Addr.mk.injEq] at e
    omega
  obtain ⟨a0, a1, a2, a3, a4, hv, ⟨la0, ma0⟩, ⟨la1, ma1⟩, ⟨la2, ma2⟩, ⟨la3, ma3⟩, ⟨la4, ma4⟩, hza'⟩ := hX
  obtain ⟨b0, b1, b2, b3, b4, hu, ⟨lb0, mb0⟩, ⟨lb1, mb1⟩, ⟨lb2, mb2⟩, ⟨lb3, mb3⟩, ⟨lb4, mb4⟩, hzb'⟩ := hY
  have Hza := Lib.hid hza'
  have Hzb := Lib.hid hzb'
  have Dj := Lib.hid dj
  clear hza' hzb' hd dj
  have hU := Upd.refl w (fun b o => Rg vb vo 5 b o ∨ Rg ub uo 5 b o)
  go_enter Tryz.func101, Tryz.ntmps101
  go_wp2_with fail
  refine (mask_0 _).mono ?_
  rintro e w1 ⟨rfl, hw1⟩
  subst w1
  have cv := hv.c0
  have cu := hu.c0
  have cu2 : (w.setCell ⟨vb, vo, none⟩ (.int .u64 a0)).cell? ⟨ub, uo, none⟩ = some (.int .u64 b0) := (World.cell?_setCell_other _ _ _ _ (Dj.out 0 0 (by omega) (by omega))).trans hu.c0
  have fv := hv.f0
  have fu := hu.f0
  have q1 := and_zero (bits .xor .u64 a0 b0)
  have q2 := xor_zero a0 la0 (by omega)
  have q3 := xor_zero b0 lb0 (by omega)
  go_wp2
  refine still_all (by kernel_rfl) (by kernel_rfl) ?_
  iterate 12 still_step
  refine wpStill_nil ?_
  go_wp2
  clear cv cu cu2 fv fu q1 q2 q3
  replace hv := (C5.oth (hv.set0 a0) (q := ⟨ub, uo, none⟩) (fun j hj e => Dj.out j 0 hj (by omega) e.symm) (.int .u64 b0)).drew
  replace hu := ((C5.oth hu (q := ⟨vb, vo, none⟩) (fun j hj e => Dj.out 0 j (by omega) hj e) (.int .u64 a0)).set0 b0).drew
  replace hU := ((hU.set (b := vb) (o := vo) (fun _ => .inl ⟨rfl, by omega, by omega⟩) (.int .u64 a0)).set (b := ub) (o := uo) (fun _ => .inr ⟨rfl, by omega, by omega⟩) (.int .u64 b0)).drew
  generalize ((w.setCell ⟨vb, vo, none⟩ (.int .u64 a0)).setCell ⟨ub, uo, none⟩ (.int .u64 b0)).drew = w2 at *
  have cv := hv.c1
  have cu := hu.c1
  have cu2 : (w2.setCell ⟨vb, vo + 1, none⟩ (.int .u64 a1)).cell? ⟨ub, uo + 1, none⟩ = some (.int .u64 b1) := (World.cell?_setCell_other _ _ _ _ (Dj.out 1 1 (by omega) (by omega))).trans hu.c1
  have fv := hv.f1
  have fu := hu.f1
  have q1 := and_zero (bits .xor .u64 a1 b1)
  have q2 := xor_zero a1 la1 (by omega)
  have q3 := xor_zero b1 lb1 (by omega)
  refine still_all (by kernel_rfl) (by kernel_rfl) ?_
  iterate 12 still_step
  refine wpStill_nil ?_
  go_wp2
  clear cv cu cu2 fv fu q1 q2 q3
  replace hv := (C5.oth (hv.set1 a1) (q := ⟨ub, uo + 1, none⟩) (fun j hj e => Dj.out j 1 hj (by omega) e.symm) (.int .u64 b1)).drew
  replace hu := ((C5.oth hu (q := ⟨vb, vo + 1, none⟩) (fun j hj e => Dj.out 1 j (by omega) hj e) (.int .u64 a1)).set1 b1).drew
  replace hU := ((hU.set (b := vb) (o := vo + 1) (fun _ => .inl ⟨rfl, by omega, by omega⟩) (.int .u64 a1)).set (b := ub) (o := uo + 1) (fun _ => .inr ⟨rfl, by omega, by omega⟩) (.int .u64 b1)).drew
  generalize ((w2.setCell ⟨vb, vo + 1, none⟩ (.int .u64 a1)).setCell ⟨ub, uo + 1, none⟩ (.int .u64 b1)).drew = w3 at *
  have cv := hv.c2
  have cu := hu.c2
  have cu2 : (w3.setCell ⟨vb, vo + 2, none⟩ (.int .u64 a2)).cell? ⟨ub, uo + 2, none⟩ = some (.int .u64 b2) := (World.cell?_setCell_other _ _ _ _ (Dj.out 2 2 (by omega) (by omega))).trans hu.c2
  have fv := hv.f2
  have fu := hu.f2
  have q1 := and_zero (bits .xor .u64 a2 b2)
  have q2 := xor_zero a2 la2 (by omega)
  have q3 := xor_zero b2 lb2 (by omega)
  refine still_all (by kernel_rfl) (by kernel_rfl) ?_
  iterate 12 still_step
  refine wpStill_nil ?_
  go_wp2
  clear cv cu cu2 fv fu q1 q2 q3
  replace hv := (C5.oth (hv.set2 a2) (q := ⟨ub, uo + 2, none⟩) (fun j hj e => Dj.out j 2 hj (by omega) e.symm) (.int .u64 b2)).drew
  replace hu := ((C5.oth hu (q := ⟨vb, vo + 2, none⟩) (fun j hj e => Dj.out 2 j (by omega) hj e) (.int .u64 a2)).set2 b2).drew
  replace hU := ((hU.set (b := vb) (o := vo + 2) (fun _ => .inl ⟨rfl, by omega, by omega⟩) (.int .u64 a2)).set (b := ub) (o := uo + 2) (fun _ => .inr ⟨rfl, by omega, by omega⟩) (.int .u64 b2)).drew
  generalize ((w3.setCell ⟨vb, vo + 2, none⟩ (.int .u64 a2)).setCell ⟨ub, uo + 2, none⟩ (.int .u64 b2)).drew = w4 at *
  have cv := hv.c3
  have cu := hu.c3
  have cu2 : (w4.setCell ⟨vb, vo + 3, none⟩ (.int .u64 a3)).cell? ⟨ub, uo + 3, none⟩ = some (.int .u64 b3) := (World.cell?_setCell_other _ _ _ _ (Dj.out 3 3 (by omega) (by omega))).trans hu.c3
  have fv := hv.f3
  have fu := hu.f3
  have q1 := and_zero (bits .xor .u64 a3 b3)
  have q2 := xor_zero a3 la3 (by omega)
  have q3 := xor_zero b3 lb3 (by omega)
  refine still_all (by kernel_rfl) (by kernel_rfl) ?_
  iterate 12 still_step
  refine wpStill_nil ?_
  go_wp2
  clear cv cu cu2 fv fu q1 q2 q3
  replace hv := (C5.oth (hv.set3 a3) (q := ⟨ub, uo + 3, none⟩) (fun j hj e => Dj.out j 3 hj (by omega) e.symm) (.int .u64 b3)).drew
  replace hu := ((C5.oth hu (q := ⟨vb, vo + 3, none⟩) (fun j hj e => Dj.out 3 j (by omega) hj e) (.int .u64 a3)).set3 b3).drew
  replace hU := ((hU.set (b := vb) (o := vo + 3) (fun _ => .inl ⟨rfl, by omega, by omega⟩) (.int .u64 a3)).set (b := ub) (o := uo + 3) (fun _ => .inr ⟨rfl, by omega, by omega⟩) (.int .u64 b3)).drew
  generalize ((w4.setCell ⟨vb, vo + 3, none⟩ (.int .u64 a3)).setCell ⟨ub, uo + 3, none⟩ (.int .u64 b3)).drew = w5 at *
  have cv := hv.c4
  have cu := hu.c4
  have cu2 : (w5.setCell ⟨vb, vo + 4, none⟩ (.int .u64 a4)).cell? ⟨ub, uo + 4, none⟩ = some (.int .u64 b4) := (World.cell?_setCell_other _ _ _ _ (Dj.out 4 4 (by omega) (by omega))).trans hu.c4
  have fv := hv.f4
  have fu := hu.f4
  have q1 := and_zero (bits .xor .u64 a4 b4)
  have q2 := xor_zero a4 la4 (by omega)
  have q3 := xor_zero b4 lb4 (by omega)
  refine still_all (by kernel_rfl) (by kernel_rfl) ?_
  iterate 12 still_step
  refine wpStill_nil ?_
  go_wp2
  clear cv cu cu2 fv fu q1 q2 q3
  replace hv := (C5.oth (hv.set4 a4) (q := ⟨ub, uo + 4, none⟩) (fun j hj e => Dj.out j 4 hj (by omega) e.symm) (.int .u64 b4)).drew
  replace hu := ((C5.oth hu (q := ⟨vb, vo + 4, none⟩) (fun j hj e => Dj.out 4 j (by omega) hj e) (.int .u64 a4)).set4 b4).drew
  replace hU := ((hU.set (b := vb) (o := vo + 4) (fun _ => .inl ⟨rfl, by omega, by omega⟩) (.int .u64 a4)).set (b := ub) (o := uo + 4) (fun _ => .inr ⟨rfl, by omega, by omega⟩) (.int .u64 b4)).drew
  go_end0
  exact ⟨rfl, hU, ⟨_, _, _, _, _, hv, ⟨la0, ma0⟩, ⟨la1, ma1⟩, ⟨la2, ma2⟩, ⟨la3, ma3⟩, ⟨la4, ma4⟩, Hza.out⟩, ⟨_, _, _, _, _, hu, ⟨lb0, mb0⟩, ⟨lb1, mb1⟩, ⟨lb2, mb2⟩, ⟨lb3, mb3⟩, ⟨lb4, mb4⟩, Hzb.out⟩⟩
set_option maxRecDepth 1000000 in
set_option maxHeartbeats 40000000 in
theorem swap1_c (vb vo ub uo : Nat) (X Y : F) (w : World) (hX : El w vb vo X) (hY : El w ub uo Y) (hd : vb ≠ ub ∨ vo + 5 ≤ uo ∨ uo + 5 ≤ vo) :
    Calls Tryz.prog 101 #[.pointer (some ⟨vb, vo, none⟩), .pointer (some ⟨ub, uo, none⟩), .int .i64 1] w fun e w' => e = .returned (.tuple #[]) ∧ Upd w w' (fun b o => Rg vb vo 5 b o ∨ Rg ub uo 5 b o) ∧ El w' vb vo Y ∧ El w' ub uo X := by
  have dj : ∀ i j, i < 5 → j < 5 → (⟨vb, vo + i, none⟩ : Addr) ≠ ⟨ub, uo + j, none⟩ := by
    intro i j hi hj e
    simp only [Addr.mk.injEq] at e
    omega
  obtain ⟨a0, a1, a2, a3, a4, hv, ⟨la0, ma0⟩, ⟨la1, ma1⟩, ⟨la2, ma2⟩, ⟨la3, ma3⟩, ⟨la4, ma4⟩, hza'⟩ := hX
  obtain ⟨b0, b1, b2, b3, b4, hu, ⟨lb0, mb0⟩, ⟨lb1, mb1⟩, ⟨lb2, mb2⟩, ⟨lb3, mb3⟩, ⟨lb4, mb4⟩, hzb'⟩ := hY
  have Hza := Lib.hid hza'
  have Hzb := Lib.hid hzb'
  have Dj := Lib.hid dj
  clear hza' hzb' hd dj
  have hU := Upd.refl w (fun b o => Rg vb vo 5 b o ∨ Rg ub uo 5 b o)
  go_enter Tryz.func101, Tryz.ntmps101
  go_wp2_with fail
  refine (mask_1 _).mono ?_
  rintro e w1 ⟨rfl, hw1⟩
  subst w1
  have cv := hv.c0
  have cu := hu.c0
  have cu2 : (w.setCell ⟨vb, vo, none⟩ (.int .u64 b0)).cell? ⟨ub, uo, none⟩ = some (.int .u64 b0) := (World.cell?_setCell_other _ _ _ _ (Dj.out 0 0 (by omega) (by omega))).trans hu.c0
  have fv := hv.f0
  have fu := hu.f0
  have q1 := and_ones (bits .xor .u64 a0 b0) (bits_u64 .xor a0 b0).1 (bits_u64 .xor a0 b0).2
  have q2 := xor_left a0 b0 lb0 (by omega)
  have q3 := xor_right a0 b0 la0 (by omega)
  go_wp2
  refine still_all (by kernel_rfl) (by kernel_rfl) ?_
  iterate 12 still_step
  refine wpStill_nil ?_
  go_wp2
  clear cv cu cu2 fv fu q1 q2 q3
  replace hv := (C5.oth (hv.set0 b0) (q := ⟨ub, uo, none⟩) (fun j hj e => Dj.out j 0 hj (by omega) e.symm) (.int .u64 a0)).drew
  replace hu := ((C5.oth hu (q := ⟨vb, vo, none⟩) (fun j hj e => Dj.out 0 j (by omega) hj e) (.int .u64 b0)).set0 a0).drew
  replace hU := ((hU.set (b := vb) (o := vo) (fun _ => .inl ⟨rfl, by omega, by omega⟩) (.int .u64 b0)).set (b := ub) (o := uo) (fun _ => .inr ⟨rfl, by omega, by omega⟩) (.int .u64 a0)).drew
  generalize ((w.setCell ⟨vb, vo, none⟩ (.int .u64 b0)).setCell ⟨ub, uo, none⟩ (.int .u64 a0)).drew = w2 at *
  have cv := hv.c1
  have cu := hu.c1
  have cu2 : (w2.setCell ⟨vb, vo + 1, none⟩ (.int .u64 b1)).cell? ⟨ub, uo + 1, none⟩ = some (.int .u64 b1) := (World.cell?_setCell_other _ _ _ _ (Dj.out 1 1 (by omega) (by omega))).trans hu.c1
  have fv := hv.f1
  have fu := hu.f1
  have q1 := and_ones (bits .xor .u64 a1 b1) (bits_u64 .xor a1 b1).1 (bits_u64 .xor a1 b1).2
  have q2 := xor_left a1 b1 lb1 (by omega)
  have q3 := xor_right a1 b1 la1 (by omega)
  refine still_all (by kernel_rfl) (by kernel_rfl) ?_
  iterate 12 still_step
  refine wpStill_nil ?_
  go_wp2
  clear cv cu cu2 fv fu q1 q2 q3
  replace hv := (C5.oth (hv.set1 b1) (q := ⟨ub, uo + 1, none⟩) (fun j hj e => Dj.out j 1 hj (by omega) e.symm) (.int .u64 a1)).drew
  replace hu := ((C5.oth hu (q := ⟨vb, vo + 1, none⟩) (fun j hj e => Dj.out 1 j (by omega) hj e) (.int .u64 b1)).set1 a1).drew
  replace hU := ((hU.set (b := vb) (o := vo + 1) (fun _ => .inl ⟨rfl, by omega, by omega⟩) (.int .u64 b1)).set (b := ub) (o := uo + 1) (fun _ => .inr ⟨rfl, by omega, by omega⟩) (.int .u64 a1)).drew
  generalize ((w2.setCell ⟨vb, vo + 1, none⟩ (.int .u64 b1)).setCell ⟨ub, uo + 1, none⟩ (.int .u64 a1)).drew = w3 at *
  have cv := hv.c2
  have cu := hu.c2
  have cu2 : (w3.setCell ⟨vb, vo + 2, none⟩ (.int .u64 b2)).cell? ⟨ub, uo + 2, none⟩ = some (.int .u64 b2) := (World.cell?_setCell_other _ _ _ _ (Dj.out 2 2 (by omega) (by omega))).trans hu.c2
  have fv := hv.f2
  have fu := hu.f2
  have q1 := and_ones (bits .xor .u64 a2 b2) (bits_u64 .xor a2 b2).1 (bits_u64 .xor a2 b2).2
  have q2 := xor_left a2 b2 lb2 (by omega)
  have q3 := xor_right a2 b2 la2 (by omega)
  refine still_all (by kernel_rfl) (by kernel_rfl) ?_
  iterate 12 still_step
  refine wpStill_nil ?_
  go_wp2
  clear cv cu cu2 fv fu q1 q2 q3
  replace hv := (C5.oth (hv.set2 b2) (q := ⟨ub, uo + 2, none⟩) (fun j hj e => Dj.out j 2 hj (by omega) e.symm) (.int .u64 a2)).drew
  replace hu := ((C5.oth hu (q := ⟨vb, vo + 2, none⟩) (fun j hj e => Dj.out 2 j (by omega) hj e) (.int .u64 b2)).set2 a2).drew
  replace hU := ((hU.set (b := vb) (o := vo + 2) (fun _ => .inl ⟨rfl, by omega, by omega⟩) (.int .u64 b2)).set (b := ub) (o := uo + 2) (fun _ => .inr ⟨rfl, by omega, by omega⟩) (.int .u64 a2)).drew
  generalize ((w3.setCell ⟨vb, vo + 2, none⟩ (.int .u64 b2)).setCell ⟨ub, uo + 2, none⟩ (.int .u64 a2)).drew = w4 at *
  have cv := hv.c3
  have cu := hu.c3
  have cu2 : (w4.setCell ⟨vb, vo + 3, none⟩ (.int .u64 b3)).cell? ⟨ub, uo + 3, none⟩ = some (.int .u64 b3) := (World.cell?_setCell_other _ _ _ _ (Dj.out 3 3 (by omega) (by omega))).trans hu.c3
  have fv := hv.f3
  have fu := hu.f3
  have q1 := and_ones (bits .xor .u64 a3 b3) (bits_u64 .xor a3 b3).1 (bits_u64 .xor a3 b3).2
  have q2 := xor_left a3 b3 lb3 (by omega)
  have q3 := xor_right a3 b3 la3 (by omega)
  refine still_all (by kernel_rfl) (by kernel_rfl) ?_
  iterate 12 still_step
  refine wpStill_nil ?_
  go_wp2
  clear cv cu cu2 fv fu q1 q2 q3
  replace hv := (C5.oth (hv.set3 b3) (q := ⟨ub, uo + 3, none⟩) (fun j hj e => Dj.out j 3 hj (by omega) e.symm) (.int .u64 a3)).drew
  replace hu := ((C5.oth hu (q := ⟨vb, vo + 3, none⟩) (fun j hj e => Dj.out 3 j (by omega) hj e) (.int .u64 b3)).set3 a3).drew
  replace hU := ((hU.set (b := vb) (o := vo + 3) (fun _ => .inl ⟨rfl, by omega, by omega⟩) (.int .u64 b3)).set (b := ub) (o := uo + 3) (fun _ => .inr ⟨rfl, by omega, by omega⟩) (.int .u64 a3)).drew
  generalize ((w4.setCell ⟨vb, vo + 3, none⟩ (.int .u64 b3)).setCell ⟨ub, uo + 3, none⟩ (.int .u64 a3)).drew = w5 at *
  have cv := hv.c4
  have cu := hu.c4
  have cu2 : (w5.setCell ⟨vb, vo + 4, none⟩ (.int .u64 b4)).cell? ⟨ub, uo + 4, none⟩ = some (.int .u64 b4) := (World.cell?_setCell_other _ _ _ _ (Dj.out 4 4 (by omega) (by omega))).trans hu.c4
  have fv := hv.f4
  have fu := hu.f4
  have q1 := and_ones (bits .xor .u64 a4 b4) (bits_u64 .xor a4 b4).1 (bits_u64 .xor a4 b4).2
  have q2 := xor_left a4 b4 lb4 (by omega)
  have q3 := xor_right a4 b4 la4 (by omega)
  refine still_all (by kernel_rfl) (by kernel_rfl) ?_
  iterate 12 still_step
  refine wpStill_nil ?_
  go_wp2
  clear cv cu cu2 fv fu q1 q2 q3
  replace hv := (C5.oth (hv.set4 b4) (q := ⟨ub, uo + 4, none⟩) (fun j hj e => Dj.out j 4 hj (by omega) e.symm) (.int .u64 a4)).drew
  replace hu := ((C5.oth hu (q := ⟨vb, vo + 4, none⟩) (fun j hj e => Dj.out 4 j (by omega) hj e) (.int .u64 b4)).set4 a4).drew
  replace hU := ((hU.set (b := vb) (o := vo + 4) (fun _ => .inl ⟨rfl, by omega, by omega⟩) (.int .u64 b4)).set (b := ub) (o := uo + 4) (fun _ => .inr ⟨rfl, by omega, by omega⟩) (.int .u64 a4)).drew
  go_end0
  exact ⟨rfl, hU, ⟨_, _, _, _, _, hv, ⟨lb0, mb0⟩, ⟨lb1, mb1⟩, ⟨lb2, mb2⟩, ⟨lb3, mb3⟩, ⟨lb4, mb4⟩, Hzb.out⟩, ⟨_, _, _, _, _, hu, ⟨la0, ma0⟩, ⟨la1, ma1⟩, ⟨la2, ma2⟩, ⟨la3, ma3⟩, ⟨la4, ma4⟩, Hza.out⟩⟩

end Go.Proofs.YtkibnongmkhbaaaGreatDoor
end
