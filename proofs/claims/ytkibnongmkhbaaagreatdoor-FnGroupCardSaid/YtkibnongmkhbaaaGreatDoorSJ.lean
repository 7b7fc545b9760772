/- Part of the proof that laws.FnGroup returns true for all 32 bytes p, q and x: impl.PointSetBytes, spec.PointSetBytes.
   Conditions: those that each theorem states. -/
import Derived.Test.YtkibnongmkhbaaaGreatDoorAG
import Derived.Test.YtkibnongmkhbaaaGreatDoorMA
import Derived.Test.YtkibnongmkhbaaaGreatDoorSI
import Derived.Test.YtkibnongmkhbaaaGreatDoorRG
import Derived.Test.YtkibnongmkhbaaaGreatDoorQC

section
open Go Go.RowKit
namespace Go.Proofs.YtkibnongmkhbaaaGreatDoor
open Ed

theorem results_cell3 {P : Program} {fn : Func} {tmps : Array Value} {w : World} {t u u' : Tmp} {ty : TypeId} {ad : Addr} {v x y : Value} (hres : fn.results = #[.cell t ty, .tmp u, .tmp u']) (ht : tmps.getD t undef = .pointer (some ad))
    (hl : (loadVar ty ad).run P w = .ok v w) (hu : tmps.getD u undef = x) (hu' : tmps.getD u' undef = y) : (results fn tmps).run P w = .ok (.tuple #[v, x, y]) w := by
  subst hu hu'
  unfold results
  rw [hres]
  rw [Array.getD_eq_getD_getElem?] at ht
  simp [ht, asAddr, hl]

set_option maxRecDepth 100000 in
set_option maxHeartbeats 8000000 in
theorem implSet_ok (B b o cap : Nat) (b0 bs : Nat → Int) (hb0 : ∀ i, Byte (b0 i)) (hb : ∀ i, Byte (bs i)) (ok0 : okOf (yOf b0)) (hok : okOf (yOf bs)) (w : World) (hG : Glob B w) (hB : B ≤ w.heap.size) (hBy : By w b o 32 bs) (hc : 32 ≤ cap) :
    Calls Tryz.prog 9 #[.agg (Arr b0), .slice (some ⟨b, o, none⟩) 32 cap] w fun e w' => e = .returned (.tuple #[.agg (Arr (encF (ptOf bs).1 (ptOf bs).2)), .bool true, .bool true]) ∧ Upd w w' FF := by
  have A := ((Upd.refl w FF).alloc (.cells (Arr b0) 22)).alloc zero32
  have P := (By.arr b0 w 22).keep ((Upd.refl _ FF).alloc zero32) (fun _ _ h => h)
  have R := zero32_wy (w.alloc (.cells (Arr b0) 22))
  simp only [World.size_alloc] at R
  have G := hG.keep A (fun _ _ _ h => h)
  have lb := hBy.ltB
  go_enter Tryz.func9, Tryz.ntmps9
  go_wp2_with (first
    | (refine wpList_load22 rfl _ rfl _ _ (by rfl) _ P ?_))
  refine (pointOf_ok B b0 hb0 _ G (by simp; omega) ok0).mono ?_
  rintro e w2 ⟨rfl, hU, hP⟩
  have s2 := hU.size
  simp only [World.size_alloc] at s2 hP
  replace R := R.keep hU (fun _ _ h => h)
  replace G := G.keep hU (fun _ _ _ h => h)
  replace A := A.trans hU (fun _ _ _ h => h)
  have lP := hP.lt
  clear hU P
  go_wp2_with fail
  refine (ptSet_ok B (w.heap.size + 1 + 1 + 1) 0 b o cap _ _ _ _ bs hb _ G (by omega) hP (hBy.keep A (fun _ _ h => h)) (by omega) hc hok).mono ?_
  rintro e w3 ⟨rfl, hU, hS⟩
  replace hS := ptA_of hS
  have lR := R.lt (by decide)
  replace R := R.keep hU (fun i hi h => absurd h.1 (by omega))
  replace A := A.trans hU (fun b o hb h => absurd h.1 (by omega))
  clear hU hP G
  go_wp2_with fail
  have on := on_ptOf hok
  replace hS := hS.keep ((Upd.refl w3 FF).drew) (fun _ _ h => h)
  replace A := A.drew
  refine wp_region_ord [(0, false), (1, false), (2, false), (3, false), (4, true), (5, false), (6, false)] (cldS22 _ (w.heap.size + 1) (encF (ptOf bs).1 (ptOf bs).2) 4) (by kernel_rfl) (by kernel_rfl) (by rfl) (by kernel_rfl) (show CS _ _ _ _ _ _ _ from ⟨Upd.refl _ _, R, fun e => (by cases e)⟩) ?_
  refine wq_pure rfl rfl (by simp) rfl (.pointer (some ⟨w.heap.size + 1 + 1 + 1, 0, none⟩)) (by intro w; (try go_simp); (try rfl)) ?_
  simp only [Act.put, List.setIfInBounds_toArray, List.set_cons_zero, List.set_cons_succ]
  refine wq_callG rfl rfl (by simp) rfl 15 #[.pointer (some ⟨w.heap.size + 1 + 1 + 1, 0, none⟩)] (.agg (Arr (encF (ptOf bs).1 (ptOf bs).2))) (by intro w; (try go_simp); (try rfl)) (fun w' hw => ptBytes_a (w.heap.size + 1 + 1 + 1) 0 (ptOf bs) on w' (hS.keep (show Upd w3.drew w' (Rg (w.heap.size + 1) 0 32) from hw) (fun i hi h => absurd h.1 (by omega)))) ?_
  simp only [Act.put, List.setIfInBounds_toArray, List.set_cons_zero, List.set_cons_succ]
  refine wq_pure rfl rfl (by simp) rfl (.nilIface) (by intro w; (try go_simp); (try rfl)) ?_
  simp only [Act.put, List.setIfInBounds_toArray, List.set_cons_zero, List.set_cons_succ]
  refine wq_pure rfl rfl (by simp) rfl (.bool true) (by intro w; (try go_simp); (try rfl)) ?_
  simp only [Act.put, List.setIfInBounds_toArray, List.set_cons_zero, List.set_cons_succ]
  refine wq_store22 rfl rfl rfl _ _ rfl (by rfl) (by rfl) (by rfl) ?_
  simp only [Act.put]
  refine wq_pure rfl rfl (by simp) rfl (.bool true) (by intro w; (try go_simp); (try rfl)) ?_
  simp only [Act.put, List.setIfInBounds_toArray, List.set_cons_zero, List.set_cons_succ]
  refine wq_pure rfl rfl (by simp) rfl (.bool true) (by intro w; (try go_simp); (try rfl)) ?_
  simp only [Act.put, List.setIfInBounds_toArray, List.set_cons_zero, List.set_cons_succ]
  intro w4 hC
  obtain ⟨hU5, hZ⟩ := hC
  have hB5 := hZ.2 (by rfl)
  clear hS on hZ
  go_wp2_with fail
  exact bodyPost_ret (results_cell3 (x := .bool true) (y := .bool true) rfl (by rfl) (load22 hB5) (by rfl) (by rfl)) rfl ⟨rfl, A.trans hU5 (fun b o hb h => absurd h.1 (by omega))⟩

set_option maxRecDepth 100000 in
set_option maxHeartbeats 8000000 in
theorem implSet_no (B b o cap : Nat) (b0 bs : Nat → Int) (hb0 : ∀ i, Byte (b0 i)) (hb : ∀ i, Byte (bs i)) (ok0 : okOf (yOf b0)) (hno : ¬ okOf (yOf bs)) (w : World) (hG : Glob B w) (hB : B ≤ w.heap.size) (hBy : By w b o 32 bs) (hc : 32 ≤ cap) :
    Calls Tryz.prog 9 #[.agg (Arr b0), .slice (some ⟨b, o, none⟩) 32 cap] w fun e w' => e = .returned (.tuple #[.agg (Arr (encF (ptOf b0).1 (ptOf b0).2)), .bool false, .bool true]) ∧ Upd w w' FF := by
  have A := ((Upd.refl w FF).alloc (.cells (Arr b0) 22)).alloc zero32
  have P := (By.arr b0 w 22).keep ((Upd.refl _ FF).alloc zero32) (fun _ _ h => h)
  have R := zero32_wy (w.alloc (.cells (Arr b0) 22))
  simp only [World.size_alloc] at R
  have G := hG.keep A (fun _ _ _ h => h)
  have lb := hBy.ltB
  go_enter Tryz.func9, Tryz.ntmps9
  go_wp2_with (first
    | (refine wpList_load22 rfl _ rfl _ _ (by rfl) _ P ?_))
  refine (pointOf_ok B b0 hb0 _ G (by simp; omega) ok0).mono ?_
  rintro e w2 ⟨rfl, hU, hP⟩
  have s2 := hU.size
  simp only [World.size_alloc] at s2 hP
  replace R := R.keep hU (fun _ _ h => h)
  replace G := G.keep hU (fun _ _ _ h => h)
  replace A := A.trans hU (fun _ _ _ h => h)
  have lP := hP.lt
  clear hU P
  go_wp2_with fail
  refine (ptSet_nof B (w.heap.size + 1 + 1 + 1) 0 b o cap _ _ _ _ bs hb _ G (by omega) hP (hBy.keep A (fun _ _ h => h)) (by omega) hc hno).mono ?_
  rintro e w3 ⟨t, v, rfl, hU⟩
  have hS := ptA_of (hP.keep hU (fun _ _ h => h))
  have lR := R.lt (by decide)
  replace R := R.keep hU (fun _ _ h => h)
  replace A := A.trans hU (fun _ _ _ h => h)
  clear hU hP G
  go_wp2_with fail
  have on := on_ptOf ok0
  replace hS := hS.keep ((Upd.refl w3 FF).drew) (fun _ _ h => h)
  replace A := A.drew
  refine wp_region_ord [(0, false), (1, false), (2, false), (3, false), (4, true), (5, false), (6, false)] (cldS22 _ (w.heap.size + 1) (encF (ptOf b0).1 (ptOf b0).2) 4) (by kernel_rfl) (by kernel_rfl) (by rfl) (by kernel_rfl) (show CS _ _ _ _ _ _ _ from ⟨Upd.refl _ _, R, fun e => (by cases e)⟩) ?_
  refine wq_pure rfl rfl (by simp) rfl (.pointer (some ⟨w.heap.size + 1 + 1 + 1, 0, none⟩)) (by intro w; (try go_simp); (try rfl)) ?_
  simp only [Act.put, List.setIfInBounds_toArray, List.set_cons_zero, List.set_cons_succ]
  refine wq_callG rfl rfl (by simp) rfl 15 #[.pointer (some ⟨w.heap.size + 1 + 1 + 1, 0, none⟩)] (.agg (Arr (encF (ptOf b0).1 (ptOf b0).2))) (by intro w; (try go_simp); (try rfl)) (fun w' hw => ptBytes_a (w.heap.size + 1 + 1 + 1) 0 (ptOf b0) on w' (hS.keep (show Upd w3.drew w' (Rg (w.heap.size + 1) 0 32) from hw) (fun i hi h => absurd h.1 (by omega)))) ?_
  simp only [Act.put, List.setIfInBounds_toArray, List.set_cons_zero, List.set_cons_succ]
  refine wq_pure rfl rfl (by simp) rfl (.iface t v) (by intro w; (try go_simp); (try rfl)) ?_
  simp only [Act.put, List.setIfInBounds_toArray, List.set_cons_zero, List.set_cons_succ]
  refine wq_pure rfl rfl (by simp) rfl (.bool false) (by intro w; (try go_simp); (try rfl)) ?_
  simp only [Act.put, List.setIfInBounds_toArray, List.set_cons_zero, List.set_cons_succ]
  refine wq_store22 rfl rfl rfl _ _ rfl (by rfl) (by rfl) (by rfl) ?_
  simp only [Act.put]
  refine wq_pure rfl rfl (by simp) rfl (.bool false) (by intro w; (try go_simp); (try rfl)) ?_
  simp only [Act.put, List.setIfInBounds_toArray, List.set_cons_zero, List.set_cons_succ]
  refine wq_pure rfl rfl (by simp) rfl (.bool true) (by intro w; (try go_simp); (try rfl)) ?_
  simp only [Act.put, List.setIfInBounds_toArray, List.set_cons_zero, List.set_cons_succ]
  intro w4 hC
  obtain ⟨hU5, hZ⟩ := hC
  have hB5 := hZ.2 (by rfl)
  clear hS on hZ
  go_wp2_with fail
  exact bodyPost_ret (results_cell3 (x := .bool false) (y := .bool true) rfl (by rfl) (load22 hB5) (by rfl) (by rfl)) rfl ⟨rfl, A.trans hU5 (fun b o hb h => absurd h.1 (by omega))⟩

end Go.Proofs.YtkibnongmkhbaaaGreatDoor
end

section
open Go Go.RowKit
namespace Go.Proofs.YtkibnongmkhbaaaGreatDoor
open Ed

/-- spec.PointIdentity -/
theorem specId (w : World) : Calls Tryz.prog 13 #[] w fun e w' => e = .returned (.agg (Arr (encF pt0.1 pt0.2))) ∧ Upd w w' FF := by
  rw [← Rep.id.enc rfl rfl rfl]
  exact specId_c _ _ _ rfl rfl rfl w

set_option maxRecDepth 100000 in
set_option maxHeartbeats 8000000 in
theorem specSet_all (b o cap : Nat) (b0 bs R' : Nat → Int) (ox oy oz x y z : Int) (b2 : Bool)
    (k1 : ∀ w, Calls Tryz.prog 17 #[.agg (Arr b0)] w fun e w' => e = .returned (.tuple #[.agg (Pv ox oy oz), .bool true]) ∧ Upd w w' FF)
    (k2 : ∀ w, Calls Tryz.prog 17 #[.agg (Arr bs)] w fun e w' => e = .returned (.tuple #[.agg (Pv x y z), .bool b2]) ∧ Upd w w' FF)
    (k3 : b2 = true → ∀ w, Calls Tryz.prog 18 #[.agg (Pv x y z)] w fun e w' => e = .returned (.agg (Arr R')) ∧ Upd w w' FF)
    (k4 : b2 = false → ∀ w, Calls Tryz.prog 18 #[.agg (Pv ox oy oz)] w fun e w' => e = .returned (.agg (Arr R')) ∧ Upd w w' FF)
    (w : World) (hBy : By w b o 32 bs) (_hc : 32 ≤ cap) :
    Calls Tryz.prog 12 #[.agg (Arr b0), .slice (some ⟨b, o, none⟩) 32 cap] w fun e w' => e = .returned (.tuple #[.agg (Arr R'), .bool b2, .bool true]) ∧ Upd w w' FF := by
  have A := ((Upd.refl w FF).alloc (.cells (Arr b0) 22)).alloc zero32
  have P := (By.arr b0 w 22).keep ((Upd.refl _ FF).alloc zero32) (fun _ _ h => h)
  have R := zero32_wy (w.alloc (.cells (Arr b0) 22))
  simp only [World.size_alloc] at R
  have lb := hBy.ltB
  go_enter Tryz.func12, Tryz.ntmps12
  go_wp2_with (first
    | (refine wpList_load22 rfl _ rfl _ _ (by rfl) _ P ?_))
  refine (k1 _).mono ?_
  rintro e w1 ⟨rfl, hU⟩
  replace R := R.keep hU (fun _ _ h => h)
  replace A := A.trans hU (fun _ _ _ h => h)
  clear hU P k1
  have B1 := (Upd.refl w1 FF).alloc (Z12 47)
  have N1 := Np.zero w1 47
  have lA := A.size
  have lR := R.lt (by decide)
  replace R := R.keep B1 (fun _ _ h => h)
  replace A := A.trans B1 (fun _ _ _ h => h)
  clear B1
  go_wp2_with (first
    | (refine wpList_store47 rfl _ _ rfl _ ox oy oz _ _ _ (by rfl) (by rfl) N1 ?_; intro d1 hV1 M1; replace R := R.keep hV1 (fun i hi h => absurd h.1 (by omega)); replace A := A.trans hV1 (fun b o hb h => absurd h.1 (by omega)); clear hV1 N1 lA lR; have lM := M1.lt; have lA := A.size; have lR := R.lt (by decide); have B1 := (Upd.refl d1 FF).alloc zero32; have W9 := zero32_wy d1; replace M1 := M1.keep B1 (fun _ _ h => h); replace R := R.keep B1 (fun _ _ h => h); replace A := A.trans B1 (fun _ _ _ h => h); clear B1)
    | (refine wpList_store22 rfl _ _ rfl _ _ (fun _ => 0) (by rfl) (by rfl) W9 ?_; intro d2 hV2 B9 X9; replace M1 := M1.keep hV2 (fun i hi h => absurd h.1 (by omega)); replace R := R.keep hV2 (fun i hi h => absurd h.1 (by omega)); replace A := A.trans hV2 (fun b o hb h => absurd h.1 (by omega)); clear hV2 W9 B9; have hS := hBy.keep A (fun _ _ h => h))
    | (refine wpList_copy_by rfl _ _ rfl _ 0 _ _ _ _ 32 (by rfl) (by rfl) bs hS X9 ?_; intro d3 hV3 B9 Y9; replace M1 := M1.keep hV3 (fun i hi h => absurd h.1 (by omega)); replace R := R.keep hV3 (fun i hi h => absurd h.1 (by omega)); replace A := A.trans hV3 (fun b o hb h => absurd h.1 (by omega)); clear hV3 X9 Y9 hS)
    | (refine wpList_load22 rfl _ rfl _ _ (by rfl) _ B9 ?_))
  refine (k2 _).mono ?_
  rintro e w2 ⟨rfl, hU⟩
  replace R := R.keep hU (fun _ _ h => h)
  replace M1 := M1.keep hU (fun _ _ h => h)
  replace A := A.trans hU (fun _ _ _ h => h)
  clear hU B9 k2 lM lA lR
  have B1 := (Upd.refl w2 FF).alloc (Z12 47)
  have N2 := Np.zero w2 47
  have lA := A.size
  have lM := M1.lt
  have lR := R.lt (by decide)
  replace M1 := M1.keep B1 (fun _ _ h => h)
  replace R := R.keep B1 (fun _ _ h => h)
  replace A := A.trans B1 (fun _ _ _ h => h)
  clear B1
  cases b2
  · replace k4 := k4 rfl
    clear k3
    go_wp2_with (first
      | (refine wpList_store47 rfl _ _ rfl _ x y z _ _ _ (by rfl) (by rfl) N2 ?_; intro d4 hV4 M2; replace M1 := M1.keep hV4 (fun i hi h => absurd h.1 (by omega)); replace R := R.keep hV4 (fun i hi h => absurd h.1 (by omega)); replace A := A.trans hV4 (fun b o hb h => absurd h.1 (by omega)); clear hV4 N2 lA lM lR)
      | (refine wpList_load47 rfl _ rfl _ (by rfl) _ _ _ M1 ?_))
    refine (k4 _).mono ?_
    rintro e w4 ⟨rfl, hU⟩
    replace R := R.keep hU (fun _ _ h => h)
    replace A := A.trans hU (fun _ _ _ h => h)
    clear hU k4
    have lA := A.size
    go_wp2_with (first
      | (refine wpList_store22 rfl _ _ rfl _ _ R' (by rfl) (by rfl) R ?_; intro w5 hU5 hB5 hW5))
    exact bodyPost_ret (results_cell3 (x := .bool false) (y := .bool true) rfl (by rfl) (load22 hB5) (by rfl) (by rfl)) rfl ⟨rfl, A.trans hU5 (fun b o hb h => absurd h.1 (by omega))⟩
  · replace k3 := k3 rfl
    clear k4
    go_wp2_with (first
      | (refine wpList_store47 rfl _ _ rfl _ x y z _ _ _ (by rfl) (by rfl) N2 ?_; intro d4 hV4 M2; replace M1 := M1.keep hV4 (fun i hi h => absurd h.1 (by omega)); replace R := R.keep hV4 (fun i hi h => absurd h.1 (by omega)); replace A := A.trans hV4 (fun b o hb h => absurd h.1 (by omega)); clear hV4 N2 lA lM lR)
      | (refine wpList_load47 rfl _ rfl _ (by rfl) _ _ _ M2 ?_))
    refine (k3 _).mono ?_
    rintro e w4 ⟨rfl, hU⟩
    replace R := R.keep hU (fun _ _ h => h)
    replace A := A.trans hU (fun _ _ _ h => h)
    clear hU k3
    have lA := A.size
    go_wp2_with (first
      | (refine wpList_store22 rfl _ _ rfl _ _ R' (by rfl) (by rfl) R ?_; intro w5 hU5 hB5 hW5))
    exact bodyPost_ret (results_cell3 (x := .bool true) (y := .bool true) rfl (by rfl) (load22 hB5) (by rfl) (by rfl)) rfl ⟨rfl, A.trans hU5 (fun b o hb h => absurd h.1 (by omega))⟩

/-- spec.PointSetBytes -/
theorem specSet_ok (b o cap : Nat) (b0 bs : Nat → Int) (hb0 : ∀ i, Byte (b0 i)) (hb : ∀ i, Byte (bs i)) (ok0 : okOf (yOf b0)) (hok : okOf (yOf bs)) (w : World) (hBy : By w b o 32 bs) (hc : 32 ≤ cap) :
    Calls Tryz.prog 12 #[.agg (Arr b0), .slice (some ⟨b, o, none⟩) 32 cap] w fun e w' => e = .returned (.tuple #[.agg (Arr (encF (ptOf bs).1 (ptOf bs).2)), .bool true, .bool true]) ∧ Upd w w' FF := by
  obtain ⟨ox, oy, oz, ho, k1⟩ := decoded_ok b0 hb0 ok0
  obtain ⟨x, y, z, hr, k2⟩ := decoded_ok bs hb hok
  exact specSet_all b o cap b0 bs _ ox oy oz x y z true k1 k2 (fun _ w => encoded_a hr w) (fun h => (by cases h)) w hBy hc
theorem specSet_no (b o cap : Nat) (b0 bs : Nat → Int) (hb0 : ∀ i, Byte (b0 i)) (hb : ∀ i, Byte (bs i)) (ok0 : okOf (yOf b0)) (hno : ¬ okOf (yOf bs)) (w : World) (hBy : By w b o 32 bs) (hc : 32 ≤ cap) :
    Calls Tryz.prog 12 #[.agg (Arr b0), .slice (some ⟨b, o, none⟩) 32 cap] w fun e w' => e = .returned (.tuple #[.agg (Arr (encF (ptOf b0).1 (ptOf b0).2)), .bool false, .bool true]) ∧ Upd w w' FF := by
  obtain ⟨ox, oy, oz, ho, k1⟩ := decoded_ok b0 hb0 ok0
  exact specSet_all b o cap b0 bs _ ox oy oz 0 0 0 false k1 (decoded_no bs hb hno) (fun h => (by cases h)) (fun _ w => encoded_a ho w) w hBy hc

end Go.Proofs.YtkibnongmkhbaaaGreatDoor
end
