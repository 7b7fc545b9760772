/- Part of the proof that laws.FnGroup returns true for all 32 bytes p, q and x: impl.PointScalarMult.
   Conditions: those that each theorem states. -/
import Derived.Test.YtkibnongmkhbaaaGreatDoorSH

section
open Go Go.RowKit
namespace Go.Proofs.YtkibnongmkhbaaaGreatDoor
open Ed

set_option maxRecDepth 100000 in
set_option maxHeartbeats 8000000 in
theorem implMul_ok (B : Nat) (bp bq : Nat → Int) (hbp : ∀ i, Byte (bp i)) (hbq : ∀ i, Byte (bq i)) (hop : le bp 0 32 < ell) (hoq : okOf (yOf bq)) (onq : On (ptOf bq)) (w : World) (hG : Glob B w) (hB : B ≤ w.heap.size) :
    Calls Tryz.prog 7 #[.agg (Arr bp), .agg (Arr bq)] w fun e w' => e = .returned (.tuple #[.agg (Arr (encF (zmul (le bp 0 32) (ptOf bq)).1 (zmul (le bp 0 32) (ptOf bq)).2)), .bool true]) ∧ Upd w w' FF := by
  have A := (((Upd.refl w FF).alloc (.cells (Arr bp) 22)).alloc (.cells (Arr bq) 22)).alloc zero32
  have P := (By.arr bp w 22).keep (((Upd.refl _ FF).alloc (.cells (Arr bq) 22)).alloc zero32) (fun _ _ h => h)
  have Q := (By.arr bq (w.alloc (.cells (Arr bp) 22)) 22).keep ((Upd.refl _ FF).alloc zero32) (fun _ _ h => h)
  have R := zero32_wy ((w.alloc (.cells (Arr bp) 22)).alloc (.cells (Arr bq) 22))
  simp only [World.size_alloc] at P Q R
  have G := hG.keep A (fun _ _ _ h => h)
  go_enter Tryz.func7, Tryz.ntmps7
  go_wp2_with (first
    | (refine wpList_load22 rfl _ rfl _ _ (by rfl) _ P ?_))
  refine (scalarOf_ok B bp hbp _ G hop).mono ?_
  rintro e w1 ⟨rfl, hU, hP⟩
  have s1 := hU.size
  simp only [World.size_alloc] at s1 hP
  replace Q := Q.keep hU (fun _ _ h => h)
  replace R := R.keep hU (fun _ _ h => h)
  replace G := G.keep hU (fun _ _ _ h => h)
  replace A := A.trans hU (fun _ _ _ h => h)
  have lP := hP.lt
  clear hU P
  go_wp2_with (first
    | (refine wpList_load22 rfl _ rfl _ _ (by rfl) _ Q ?_))
  refine (pointOf_ok B bq hbq _ G (by omega) hoq).mono ?_
  rintro e w2 ⟨rfl, hU, hQ⟩
  have s2 := hU.size
  replace R := R.keep hU (fun _ _ h => h)
  replace hP := hP.keep hU (fun _ _ h => h)
  have G2 := G.keep hU (fun _ _ _ h => h)
  replace A := A.trans hU (fun _ _ _ h => h)
  have lQ := hQ.lt
  clear hU Q G
  replace hQ := ptA_of hQ
  have B1 := (Upd.refl w2 FF).alloc (Z20 42)
  have V := An.zeros w2 42
  replace hP := hP.keep B1 (fun _ _ h => h)
  replace hQ := hQ.keep B1 (fun _ _ h => h)
  have lA := A.size
  have lR := R.lt (by decide)
  replace R := R.keep B1 (fun _ _ h => h)
  replace A := A.trans B1 (fun _ _ _ h => h)
  go_wp2_with fail
  refine (smult_a B w2.heap.size _ _ 0 (ptOf bq) onq (le bp 0 32) _ (G2.keep B1 (fun _ _ _ h => h)) (by omega) hP V hQ (by omega) (by omega)).mono ?_
  rintro e w3 ⟨rfl, hU, hS⟩
  replace R := R.keep hU (fun i hi h => absurd h.1 (by omega))
  replace A := A.trans hU (fun b o hb h => absurd h.1 (by omega))
  clear hU hP hQ V B1
  go_wp2_with fail
  refine (ptBytes_a _ 0 (zmul (le bp 0 32) (ptOf bq)) (on_zmul onq _) _ hS).mono ?_
  rintro e w4 ⟨rfl, hU⟩
  replace R := R.keep hU (fun _ _ h => h)
  replace A := A.trans hU (fun _ _ _ h => h)
  clear hU hS
  go_wp2_with (first
    | (refine wpList_store22 rfl _ _ rfl _ _ _ (by rfl) (by rfl) R ?_; intro w5 hU5 hB5 hW5))
  exact bodyPost_ret (results_cell2 (x := .bool true) rfl (by rfl) (load22 hB5) (by rfl)) rfl ⟨rfl, A.trans hU5 (fun b o hb h => absurd h.1 (by omega))⟩


set_option maxRecDepth 100000 in
set_option maxHeartbeats 8000000 in
theorem implAdd_no (B : Nat) (bp bq : Nat → Int) (hbp : ∀ i, Byte (bp i)) (hbq : ∀ i, Byte (bq i)) (hno : ¬ (okOf (yOf bp) ∧ okOf (yOf bq))) (w : World) (hG : Glob B w) (hB : B ≤ w.heap.size) :
    Calls Tryz.prog 4 #[.agg (Arr bp), .agg (Arr bq)] w fun e w' => e = .returned (.tuple #[.agg (Arr (fun _ => 0)), .bool false]) ∧ Upd w w' FF := by
  have A := (((Upd.refl w FF).alloc (.cells (Arr bp) 22)).alloc (.cells (Arr bq) 22)).alloc zero32
  have P := (By.arr bp w 22).keep (((Upd.refl _ FF).alloc (.cells (Arr bq) 22)).alloc zero32) (fun _ _ h => h)
  have Q := (By.arr bq (w.alloc (.cells (Arr bp) 22)) 22).keep ((Upd.refl _ FF).alloc zero32) (fun _ _ h => h)
  have R := zero32_wy ((w.alloc (.cells (Arr bp) 22)).alloc (.cells (Arr bq) 22))
  simp only [World.size_alloc] at P Q R
  have G := hG.keep A (fun _ _ _ h => h)
  have hs : ∃ b1 b2 : Bool, ∃ q1 q2 : Nat → Option Addr, (b1 && b2) = false ∧ (∀ w, Glob B w → B ≤ w.heap.size → Calls Tryz.prog 14 #[.agg (Arr bp)] w fun e w' => e = .returned (.tuple #[.pointer (q1 w.heap.size), .bool b1]) ∧ Upd w w' FF) ∧
      (∀ w, Glob B w → B ≤ w.heap.size → Calls Tryz.prog 14 #[.agg (Arr bq)] w fun e w' => e = .returned (.tuple #[.pointer (q2 w.heap.size), .bool b2]) ∧ Upd w w' FF) := by
    by_cases h1 : okOf (yOf bp)
    · have h2 : ¬ okOf (yOf bq) := fun h => hno ⟨h1, h⟩
      exact ⟨true, false, fun n => some ⟨n + 1, 0, none⟩, fun _ => none, rfl, fun w g h => (pointOf_ok B bp hbp w g h h1).mono fun _ _ ⟨a, b, _⟩ => ⟨a, b⟩, fun w g h => pointOf_no B bq hbq w g h h2⟩
    · by_cases h2 : okOf (yOf bq)
      · exact ⟨false, true, fun _ => none, fun n => some ⟨n + 1, 0, none⟩, rfl, fun w g h => pointOf_no B bp hbp w g h h1, fun w g h => (pointOf_ok B bq hbq w g h h2).mono fun _ _ ⟨a, b, _⟩ => ⟨a, b⟩⟩
      · exact ⟨false, false, fun _ => none, fun _ => none, rfl, fun w g h => pointOf_no B bp hbp w g h h1, fun w g h => pointOf_no B bq hbq w g h h2⟩
  obtain ⟨b1, b2, q1, q2, hbb, k1, k2⟩ := hs
  clear hno
  go_enter Tryz.func4, Tryz.ntmps4
  go_wp2_with (first
    | (refine wpList_load22 rfl _ rfl _ _ (by rfl) _ P ?_))
  refine (k1 _ G (by simp; omega)).mono ?_
  rintro e w1 ⟨rfl, hU⟩
  have s1 := hU.size
  simp only [World.size_alloc] at s1
  replace Q := Q.keep hU (fun _ _ h => h)
  replace R := R.keep hU (fun _ _ h => h)
  replace G := G.keep hU (fun _ _ _ h => h)
  replace A := A.trans hU (fun _ _ _ h => h)
  clear hU P
  go_wp2_with (first
    | (refine wpList_load22 rfl _ rfl _ _ (by rfl) _ Q ?_))
  refine (k2 _ G (by omega)).mono ?_
  rintro e w2 ⟨rfl, hU⟩
  replace R := R.keep hU (fun _ _ h => h)
  replace A := A.trans hU (fun _ _ _ h => h)
  clear hU Q G k1 k2
  cases b1 <;> cases b2
  · go_wp2_with (first
      | (refine wpList_store22 rfl _ _ rfl _ _ (fun _ => 0) (by rfl) (by rfl) R ?_; intro w5 hU5 hB5 hW5))
    exact bodyPost_ret (results_cell2 (x := .bool false) rfl (by rfl) (load22 hB5) (by rfl)) rfl ⟨rfl, A.trans hU5 (fun b o hb h => absurd h.1 (by omega))⟩
  · go_wp2_with (first
      | (refine wpList_store22 rfl _ _ rfl _ _ (fun _ => 0) (by rfl) (by rfl) R ?_; intro w5 hU5 hB5 hW5))
    exact bodyPost_ret (results_cell2 (x := .bool false) rfl (by rfl) (load22 hB5) (by rfl)) rfl ⟨rfl, A.trans hU5 (fun b o hb h => absurd h.1 (by omega))⟩
  · go_wp2_with (first
      | (refine wpList_store22 rfl _ _ rfl _ _ (fun _ => 0) (by rfl) (by rfl) R ?_; intro w5 hU5 hB5 hW5))
    exact bodyPost_ret (results_cell2 (x := .bool false) rfl (by rfl) (load22 hB5) (by rfl)) rfl ⟨rfl, A.trans hU5 (fun b o hb h => absurd h.1 (by omega))⟩
  · cases hbb

end Go.Proofs.YtkibnongmkhbaaaGreatDoor
end

section
open Go Go.RowKit
namespace Go.Proofs.YtkibnongmkhbaaaGreatDoor
open Ed

set_option maxRecDepth 100000 in
set_option maxHeartbeats 8000000 in
theorem implMul_no (B : Nat) (bp bq : Nat → Int) (hbp : ∀ i, Byte (bp i)) (hbq : ∀ i, Byte (bq i)) (hno : ¬ (le bp 0 32 < ell ∧ okOf (yOf bq))) (w : World) (hG : Glob B w) (hB : B ≤ w.heap.size) :
    Calls Tryz.prog 7 #[.agg (Arr bp), .agg (Arr bq)] w fun e w' => e = .returned (.tuple #[.agg (Arr (fun _ => 0)), .bool false]) ∧ Upd w w' FF := by
  have A := (((Upd.refl w FF).alloc (.cells (Arr bp) 22)).alloc (.cells (Arr bq) 22)).alloc zero32
  have P := (By.arr bp w 22).keep (((Upd.refl _ FF).alloc (.cells (Arr bq) 22)).alloc zero32) (fun _ _ h => h)
  have Q := (By.arr bq (w.alloc (.cells (Arr bp) 22)) 22).keep ((Upd.refl _ FF).alloc zero32) (fun _ _ h => h)
  have R := zero32_wy ((w.alloc (.cells (Arr bp) 22)).alloc (.cells (Arr bq) 22))
  simp only [World.size_alloc] at P Q R
  have G := hG.keep A (fun _ _ _ h => h)
  have hs : ∃ b1 b2 : Bool, ∃ q1 q2 : Nat → Option Addr, (b1 && b2) = false ∧ (∀ w, Glob B w → B ≤ w.heap.size → Calls Tryz.prog 20 #[.agg (Arr bp)] w fun e w' => e = .returned (.tuple #[.pointer (q1 w.heap.size), .bool b1]) ∧ Upd w w' FF) ∧
      (∀ w, Glob B w → B ≤ w.heap.size → Calls Tryz.prog 14 #[.agg (Arr bq)] w fun e w' => e = .returned (.tuple #[.pointer (q2 w.heap.size), .bool b2]) ∧ Upd w w' FF) := by
    by_cases h1 : le bp 0 32 < ell
    · have h2 : ¬ okOf (yOf bq) := fun h => hno ⟨h1, h⟩
      exact ⟨true, false, fun n => some ⟨n + 1, 0, none⟩, fun _ => none, rfl, fun w g _ => (scalarOf_ok B bp hbp w g h1).mono fun _ _ ⟨a, b, _⟩ => ⟨a, b⟩, fun w g h => pointOf_no B bq hbq w g h h2⟩
    · by_cases h2 : okOf (yOf bq)
      · exact ⟨false, true, fun _ => none, fun n => some ⟨n + 1, 0, none⟩, rfl, fun w g _ => scalarOf_no B bp hbp w g h1, fun w g h => (pointOf_ok B bq hbq w g h h2).mono fun _ _ ⟨a, b, _⟩ => ⟨a, b⟩⟩
      · exact ⟨false, false, fun _ => none, fun _ => none, rfl, fun w g _ => scalarOf_no B bp hbp w g h1, fun w g h => pointOf_no B bq hbq w g h h2⟩
  obtain ⟨b1, b2, q1, q2, hbb, k1, k2⟩ := hs
  clear hno
  go_enter Tryz.func7, Tryz.ntmps7
  go_wp2_with (first
    | (refine wpList_load22 rfl _ rfl _ _ (by rfl) _ P ?_))
  refine (k1 _ G (by simp; omega)).mono ?_
  rintro e w1 ⟨rfl, hU⟩
  have s1 := hU.size
  simp only [World.size_alloc] at s1
  replace Q := Q.keep hU (fun _ _ h => h)
  replace R := R.keep hU (fun _ _ h => h)
  replace G := G.keep hU (fun _ _ _ h => h)
  replace A := A.trans hU (fun _ _ _ h => h)
  clear hU P
  go_wp2_with (first
    | (refine wpList_load22 rfl _ rfl _ _ (by rfl) _ Q ?_))
  refine (k2 _ G (by omega)).mono ?_
  rintro e w2 ⟨rfl, hU⟩
  replace R := R.keep hU (fun _ _ h => h)
  replace A := A.trans hU (fun _ _ _ h => h)
  clear hU Q G k1 k2
  cases b1 <;> cases b2
  · go_wp2_with (first
      | (refine wpList_store22 rfl _ _ rfl _ _ (fun _ => 0) (by rfl) (by rfl) R ?_; intro w5 hU5 hB5 hW5))
    exact bodyPost_ret (results_cell2 (x := .bool false) rfl (by rfl) (load22 hB5) (by rfl)) rfl ⟨rfl, A.trans hU5 (fun b o hb h => absurd h.1 (by omega))⟩
  · go_wp2_with (first
      | (refine wpList_store22 rfl _ _ rfl _ _ (fun _ => 0) (by rfl) (by rfl) R ?_; intro w5 hU5 hB5 hW5))
    exact bodyPost_ret (results_cell2 (x := .bool false) rfl (by rfl) (load22 hB5) (by rfl)) rfl ⟨rfl, A.trans hU5 (fun b o hb h => absurd h.1 (by omega))⟩
  · go_wp2_with (first
      | (refine wpList_store22 rfl _ _ rfl _ _ (fun _ => 0) (by rfl) (by rfl) R ?_; intro w5 hU5 hB5 hW5))
    exact bodyPost_ret (results_cell2 (x := .bool false) rfl (by rfl) (load22 hB5) (by rfl)) rfl ⟨rfl, A.trans hU5 (fun b o hb h => absurd h.1 (by omega))⟩
  · cases hbb


end Go.Proofs.YtkibnongmkhbaaaGreatDoor
end
