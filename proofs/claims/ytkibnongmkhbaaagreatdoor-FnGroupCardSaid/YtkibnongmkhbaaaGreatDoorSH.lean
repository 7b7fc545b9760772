/- Part of the proof that laws.FnGroup returns true for all 32 bytes p, q and x: impl.PointAdd.
   Conditions: those that each theorem states. -/
import Derived.Test.YtkibnongmkhbaaaGreatDoorSG
import Derived.Test.YtkibnongmkhbaaaGreatDoorRG

section
open Go Go.RowKit
namespace Go.Proofs.YtkibnongmkhbaaaGreatDoor
open Ed

set_option maxRecDepth 100000 in
set_option maxHeartbeats 4000000 in
theorem implId_c (B : Nat) (w : World) (hG : Glob B w) (hB : B ≤ w.heap.size) : Calls Tryz.prog 10 #[] w fun e w' => e = .returned (.agg (Arr (encF pt0.1 pt0.2))) ∧ Upd w w' FF := by
  have A := (Upd.refl w FF).alloc zero32
  have R := zero32_wy w
  go_enter Tryz.func10, Tryz.ntmps10
  go_wp2_with fail
  refine (newId_a B _ (hG.keep A (fun _ _ _ h => h)) (by simp; omega)).mono ?_
  rintro e w1 ⟨rfl, hU, hP⟩
  have s1 := hU.size
  simp only [World.size_alloc] at s1 hP
  replace R := R.keep hU (fun _ _ h => h)
  replace A := A.trans hU (fun _ _ _ h => h)
  clear hU
  go_wp2_with fail
  refine (ptBytes_a _ 0 pt0 on_pt0 _ hP).mono ?_
  rintro e w2 ⟨rfl, hU⟩
  replace R := R.keep hU (fun _ _ h => h)
  replace A := A.trans hU (fun _ _ _ h => h)
  clear hU hP
  go_wp2_with (first
    | (refine wpList_store22 rfl _ _ rfl _ _ _ (by rfl) (by rfl) R ?_; intro w3 hU3 hB3 hW3))
  exact bodyPost_ret (results_cell rfl (by rfl) (load22 hB3)) rfl ⟨rfl, A.trans hU3 (fun b o hb h => absurd h.1 (by omega))⟩

set_option maxRecDepth 100000 in
set_option maxHeartbeats 4000000 in
theorem specId_c (I ax ay : Int) (eI : I = 1 ^ eInv % Pn) (eax : ax = 0 * I % Pn) (eay : ay = 1 * I % Pn) (w : World) : Calls Tryz.prog 13 #[] w fun e w' => e = .returned (.agg (Arr (encN ax ay))) ∧ Upd w w' FF := by
  have A := (Upd.refl w FF).alloc zero32
  have R := zero32_wy w
  have kE := encoded_c 0 1 1 I ax ay (by decide) (by decide) (by decide) eI eax eay
  clear eI eax eay
  go_enter Tryz.func13, Tryz.ntmps13
  go_wp2_with fail
  refine (identity_c _).mono ?_
  rintro e w1 ⟨rfl, hU⟩
  replace R := R.keep hU (fun _ _ h => h)
  replace A := A.trans hU (fun _ _ _ h => h)
  clear hU
  go_wp2_with fail
  refine (kE _).mono ?_
  rintro e w2 ⟨rfl, hU⟩
  replace R := R.keep hU (fun _ _ h => h)
  replace A := A.trans hU (fun _ _ _ h => h)
  clear hU kE
  go_wp2_with (first
    | (refine wpList_store22 rfl _ _ rfl _ _ _ (by rfl) (by rfl) R ?_; intro w3 hU3 hB3 hW3))
  exact bodyPost_ret (results_cell rfl (by rfl) (load22 hB3)) rfl ⟨rfl, A.trans hU3 (fun b o hb h => absurd h.1 (by omega))⟩

end Go.Proofs.YtkibnongmkhbaaaGreatDoor
end

section
open Go Go.RowKit
namespace Go.Proofs.YtkibnongmkhbaaaGreatDoor
open Ed

/-- the affine point that bytes tell -/
def ptOf (bs : Nat → Int) : F × F := (xxOf (bs 31 / 128) (yOf bs), yOf bs)

theorem Ex.one (x y : F) : Ex x y 1 (x * y) (x, y) := ⟨one_ne_zero, by grind, by grind, by grind⟩
theorem ptA_of {w : World} {b o : Nat} {bs : Nat → Int} (h : Pt w b o (xxOf (bs 31 / 128) (yOf bs)) (yOf bs) 1 (xxOf (bs 31 / 128) (yOf bs) * yOf bs)) : PtA w b o (ptOf bs) := ⟨_, _, _, _, h, Ex.one _ _⟩

set_option maxRecDepth 100000 in
set_option maxHeartbeats 8000000 in
theorem implAdd_ok (B : Nat) (bp bq : Nat → Int) (hbp : ∀ i, Byte (bp i)) (hbq : ∀ i, Byte (bq i)) (hop : okOf (yOf bp)) (hoq : okOf (yOf bq)) (onp : On (ptOf bp)) (onq : On (ptOf bq)) (w : World) (hG : Glob B w) (hB : B ≤ w.heap.size) :
    Calls Tryz.prog 4 #[.agg (Arr bp), .agg (Arr bq)] w fun e w' => e = .returned (.tuple #[.agg (Arr (encF (add (ptOf bp) (ptOf bq)).1 (add (ptOf bp) (ptOf bq)).2)), .bool true]) ∧ Upd w w' FF := by
  have A := (((Upd.refl w FF).alloc (.cells (Arr bp) 22)).alloc (.cells (Arr bq) 22)).alloc zero32
  have P := (By.arr bp w 22).keep (((Upd.refl _ FF).alloc (.cells (Arr bq) 22)).alloc zero32) (fun _ _ h => h)
  have Q := (By.arr bq (w.alloc (.cells (Arr bp) 22)) 22).keep ((Upd.refl _ FF).alloc zero32) (fun _ _ h => h)
  have R := zero32_wy ((w.alloc (.cells (Arr bp) 22)).alloc (.cells (Arr bq) 22))
  simp only [World.size_alloc] at P Q R
  have G := hG.keep A (fun _ _ _ h => h)
  go_enter Tryz.func4, Tryz.ntmps4
  go_wp2_with (first
    | (refine wpList_load22 rfl _ rfl _ _ (by rfl) _ P ?_))
  refine (pointOf_ok B bp hbp _ G (by simp; omega) hop).mono ?_
  rintro e w1 ⟨rfl, hU, hP⟩
  have s1 := hU.size
  simp only [World.size_alloc] at s1 hP
  replace Q := Q.keep hU (fun _ _ h => h)
  replace R := R.keep hU (fun _ _ h => h)
  replace G := G.keep hU (fun _ _ _ h => h)
  replace A := A.trans hU (fun _ _ _ h => h)
  have lP := hP.lt
  clear hU P
  go_wp2_with (first
    | (refine wpList_load22 rfl _ rfl _ _ (by rfl) _ Q ?_))
  refine (pointOf_ok B bq hbq _ G (by omega) hoq).mono ?_
  rintro e w2 ⟨rfl, hU, hQ⟩
  have s2 := hU.size
  replace R := R.keep hU (fun _ _ h => h)
  replace hP := hP.keep hU (fun _ _ h => h)
  replace A := A.trans hU (fun _ _ _ h => h)
  have lQ := hQ.lt
  clear hU Q G
  replace hP := ptA_of hP
  replace hQ := ptA_of hQ
  have B1 := (Upd.refl w2 FF).alloc (Z20 42)
  have V := An.zeros w2 42
  replace hP := hP.keep B1 (fun _ _ h => h)
  replace hQ := hQ.keep B1 (fun _ _ h => h)
  have lA := A.size
  have lR := R.lt (by decide)
  replace R := R.keep B1 (fun _ _ h => h)
  replace A := A.trans B1 (fun _ _ _ h => h)
  go_wp2_with fail
  refine (ptAdd_a w2.heap.size 0 _ 0 _ 0 (ptOf bp) (ptOf bq) onp onq _ V hP hQ).mono ?_
  rintro e w3 ⟨rfl, hU, hS⟩
  replace R := R.keep hU (fun i hi h => absurd h.1 (by omega))
  replace A := A.trans hU (fun b o hb h => absurd h.1 (by omega))
  clear hU hP hQ V B1
  go_wp2_with fail
  refine (ptBytes_a _ 0 (add (ptOf bp) (ptOf bq)) (on_add onp onq) _ hS).mono ?_
  rintro e w4 ⟨rfl, hU⟩
  replace R := R.keep hU (fun _ _ h => h)
  replace A := A.trans hU (fun _ _ _ h => h)
  clear hU hS
  go_wp2_with (first
    | (refine wpList_store22 rfl _ _ rfl _ _ _ (by rfl) (by rfl) R ?_; intro w5 hU5 hB5 hW5))
  exact bodyPost_ret (results_cell2 (x := .bool true) rfl (by rfl) (load22 hB5) (by rfl)) rfl ⟨rfl, A.trans hU5 (fun b o hb h => absurd h.1 (by omega))⟩

end Go.Proofs.YtkibnongmkhbaaaGreatDoor
end
