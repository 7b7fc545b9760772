/- Part of the proof that laws.FnGroup returns true for all 32 bytes p, q and x: laws.FnGroup, the scalar refused.
   Conditions: those that each theorem states. -/
import Derived.Test.YtkibnongmkhbaaaGreatDoorLA

section
open Go Go.RowKit
namespace Go.Proofs.YtkibnongmkhbaaaGreatDoor
open Ed

set_option maxRecDepth 100000 in
set_option maxHeartbeats 16000000 in
theorem fnGroup_tft (B : Nat) (bp bq bx S T U V : Nat → Int)
    (k4 : ∀ w, Glob B w → B ≤ w.heap.size → Calls Tryz.prog 4 #[.agg (Arr bp), .agg (Arr bq)] w fun e w' => e = .returned (.tuple #[.agg (Arr S), .bool true]) ∧ Upd w w' FF)
    (k5 : ∀ w, Calls Tryz.prog 5 #[.agg (Arr bp), .agg (Arr bq)] w fun e w' => e = .returned (.tuple #[.agg (Arr S), .bool true]) ∧ Upd w w' FF)
    (k7 : ∀ w, Glob B w → B ≤ w.heap.size → Calls Tryz.prog 7 #[.agg (Arr bx), .agg (Arr bp)] w fun e w' => e = .returned (.tuple #[.agg (Arr T), .bool false]) ∧ Upd w w' FF)
    (k8 : ∀ w, Calls Tryz.prog 8 #[.agg (Arr bx), .agg (Arr bp)] w fun e w' => e = .returned (.tuple #[.agg (Arr T), .bool false]) ∧ Upd w w' FF)
    (k9 : ∀ b cap w, Glob B w → B ≤ w.heap.size → By w b 0 32 bp → 32 ≤ cap → Calls Tryz.prog 9 #[.agg (Arr (encF pt0.1 pt0.2)), .slice (some ⟨b, 0, none⟩) 32 cap] w fun e w' => e = .returned (.tuple #[.agg (Arr U), .bool true, .bool true]) ∧ Upd w w' FF)
    (k12 : ∀ b cap w, By w b 0 32 bp → 32 ≤ cap → Calls Tryz.prog 12 #[.agg (Arr (encF pt0.1 pt0.2)), .slice (some ⟨b, 0, none⟩) 32 cap] w fun e w' => e = .returned (.tuple #[.agg (Arr V), .bool true, .bool true]) ∧ Upd w w' FF)
    (g1 : ∀ w, Glob B w → B ≤ w.heap.size → Calls Tryz.prog 6 #[.agg (Arr S)] w fun e w' => e = .returned (.bool true) ∧ Upd w w' FF)
    (g3 : ∀ w, Glob B w → B ≤ w.heap.size → Calls Tryz.prog 6 #[.agg (Arr U)] w fun e w' => e = .returned (.bool true) ∧ Upd w w' FF)
    (k4b : ∀ w, Glob B w → B ≤ w.heap.size → Calls Tryz.prog 4 #[.agg (Arr U), .agg (Arr bq)] w fun e w' => e = .returned (.tuple #[.agg (Arr S), .bool true]) ∧ Upd w w' FF)
    (w : World) (hG : Glob B w) (hB : B ≤ w.heap.size) : Calls Tryz.prog 3 #[.agg (Arr bp), .agg (Arr bq), .agg (Arr bx)] w fun e w' => e = .returned (.bool true) ∧ Upd w w' FF := by
  have A1 := (((Upd.refl w FF).alloc (.cells (Arr bp) 22)).alloc (.cells (Arr bq) 22)).alloc (.cells (Arr bx) 22)
  have P := (By.arr bp w 22).keep (((Upd.refl _ FF).alloc (.cells (Arr bq) 22)).alloc (.cells (Arr bx) 22)) (fun _ _ h => h)
  have Q := (By.arr bq (w.alloc (.cells (Arr bp) 22)) 22).keep ((Upd.refl _ FF).alloc (.cells (Arr bx) 22)) (fun _ _ h => h)
  have X := By.arr bx ((w.alloc (.cells (Arr bp) 22)).alloc (.cells (Arr bq) 22)) 22
  simp only [World.size_alloc] at Q X
  have G := hG.keep A1 (fun _ _ _ h => h)
  have hB1 := Nat.le_trans hB A1.size
  have A := Upd.refl (((w.alloc (.cells (Arr bp) 22)).alloc (.cells (Arr bq) 22)).alloc (.cells (Arr bx) 22)) FF
  have hqS := same22 S
  have hqT := same22 T
  go_enter Tryz.func3, Tryz.ntmps3
  go_wp2_with (first | (refine wpList_load22 rfl _ rfl _ _ (by rfl) _ (P.keep A (fun _ _ h => h)) ?_) | (refine wpList_load22 rfl _ rfl _ _ (by rfl) _ (Q.keep A (fun _ _ h => h)) ?_))
  refine (k4 _ (G.keep A (fun _ _ _ h => h)) (Nat.le_trans hB1 A.size)).mono ?_
  rintro e c1 ⟨rfl, hU⟩
  replace A := A.trans hU (fun _ _ _ h => h)
  clear hU
  have lA := A.size
  have B1 := (Upd.refl c1 FF).alloc zero32
  have W := zero32_wy c1
  replace A := A.trans B1 (fun _ _ _ h => h)
  clear B1
  go_wp2_with (first
    | (refine wpList_store22 rfl _ _ rfl _ _ S (by rfl) (by rfl) W ?_; intro d2 hV S7 W2; replace A := A.trans hV (fun b o hb h => absurd h.1 (by omega)); clear hV W W2 lA )
    | (refine wpList_load22 rfl _ rfl _ _ (by rfl) _ (P.keep A (fun _ _ h => h)) ?_)
    | (refine wpList_load22 rfl _ rfl _ _ (by rfl) _ (Q.keep A (fun _ _ h => h)) ?_))
  refine (k5 _).mono ?_
  rintro e c3 ⟨rfl, hU⟩
  replace S7 := S7.keep hU (fun _ _ h => h)
  replace A := A.trans hU (fun _ _ _ h => h)
  clear hU
  have lA := A.size
  have lS7 := S7.ltB
  have B1 := (Upd.refl c3 FF).alloc zero32
  have W := zero32_wy c3
  replace S7 := S7.keep B1 (fun _ _ h => h)
  replace A := A.trans B1 (fun _ _ _ h => h)
  clear B1
  go_wp2_with (first
    | (refine wpList_store22 rfl _ _ rfl _ _ S (by rfl) (by rfl) W ?_; intro d4 hV S9 W2; replace S7 := S7.keep hV (fun i hi h => absurd h.1 (by omega)); replace A := A.trans hV (fun b o hb h => absurd h.1 (by omega)); clear hV W W2 lA lS7)
    | (refine wpList_load22g _ rfl (by rfl) _ _ (by rfl) _ S7 ?_)
    | (refine wpList_load22g _ rfl (by rfl) _ _ (by rfl) _ S9 ?_)
    | (refine wpList_load22 rfl _ rfl _ _ (by rfl) _ (X.keep A (fun _ _ h => h)) ?_)
    | (refine wpList_load22 rfl _ rfl _ _ (by rfl) _ (P.keep A (fun _ _ h => h)) ?_))
  refine (g1 _ (G.keep A (fun _ _ _ h => h)) (Nat.le_trans hB1 A.size)).mono ?_
  rintro e c5 ⟨rfl, hU⟩
  replace S7 := S7.keep hU (fun _ _ h => h)
  replace S9 := S9.keep hU (fun _ _ h => h)
  replace A := A.trans hU (fun _ _ _ h => h)
  clear hU
  go_wp2_with (first | (refine wpList_load22 rfl _ rfl _ _ (by rfl) _ (X.keep A (fun _ _ h => h)) ?_) | (refine wpList_load22 rfl _ rfl _ _ (by rfl) _ (P.keep A (fun _ _ h => h)) ?_))
  refine (k7 _ (G.keep A (fun _ _ _ h => h)) (Nat.le_trans hB1 A.size)).mono ?_
  rintro e c6 ⟨rfl, hU⟩
  replace S7 := S7.keep hU (fun _ _ h => h)
  replace S9 := S9.keep hU (fun _ _ h => h)
  replace A := A.trans hU (fun _ _ _ h => h)
  clear hU
  have lA := A.size
  have lS7 := S7.ltB
  have lS9 := S9.ltB
  have B1 := (Upd.refl c6 FF).alloc zero32
  have W := zero32_wy c6
  replace S7 := S7.keep B1 (fun _ _ h => h)
  replace S9 := S9.keep B1 (fun _ _ h => h)
  replace A := A.trans B1 (fun _ _ _ h => h)
  clear B1
  go_wp2_with (first
    | (refine wpList_store22 rfl _ _ rfl _ _ T (by rfl) (by rfl) W ?_; intro d7 hV T11 W2; replace S7 := S7.keep hV (fun i hi h => absurd h.1 (by omega)); replace S9 := S9.keep hV (fun i hi h => absurd h.1 (by omega)); replace A := A.trans hV (fun b o hb h => absurd h.1 (by omega)); clear hV W W2 lA lS7 lS9)
    | (refine wpList_load22 rfl _ rfl _ _ (by rfl) _ (X.keep A (fun _ _ h => h)) ?_)
    | (refine wpList_load22 rfl _ rfl _ _ (by rfl) _ (P.keep A (fun _ _ h => h)) ?_))
  refine (k8 _).mono ?_
  rintro e c8 ⟨rfl, hU⟩
  replace S7 := S7.keep hU (fun _ _ h => h)
  replace S9 := S9.keep hU (fun _ _ h => h)
  replace T11 := T11.keep hU (fun _ _ h => h)
  replace A := A.trans hU (fun _ _ _ h => h)
  clear hU
  have lA := A.size
  have lS7 := S7.ltB
  have lS9 := S9.ltB
  have lT11 := T11.ltB
  have B1 := (Upd.refl c8 FF).alloc zero32
  have W := zero32_wy c8
  replace S7 := S7.keep B1 (fun _ _ h => h)
  replace S9 := S9.keep B1 (fun _ _ h => h)
  replace T11 := T11.keep B1 (fun _ _ h => h)
  replace A := A.trans B1 (fun _ _ _ h => h)
  clear B1
  go_wp2_with (first
    | (refine wpList_store22 rfl _ _ rfl _ _ T (by rfl) (by rfl) W ?_; intro d9 hV T13 W2; replace S7 := S7.keep hV (fun i hi h => absurd h.1 (by omega)); replace S9 := S9.keep hV (fun i hi h => absurd h.1 (by omega)); replace T11 := T11.keep hV (fun i hi h => absurd h.1 (by omega)); replace A := A.trans hV (fun b o hb h => absurd h.1 (by omega)); clear hV W W2 lA lS7 lS9 lT11)
    | (refine wpList_load22g _ rfl (by rfl) _ _ (by rfl) _ T11 ?_)
    | (refine wpList_load22g _ rfl (by rfl) _ _ (by rfl) _ T13 ?_))
  clear S9 T11 T13 k5 k7 k8 hqT
  have Gd := Glob.keep (Upd.refl _ FF).drew (G.keep A (fun _ _ _ h => h)) (fun _ _ _ h => h)
  have hBd := Nat.le_trans hB1 A.drew.size
  have Pd := P.keep A.drew (fun _ _ h => h)
  apply wp_region_treeF (.q 0 (.q 1 (.two 2 8 (.two 3 8 (.q 4 (.q 5 (.q 6 (.q 7 (.s 8 (.s 9 (.q 10 (.q 11 .nil)))))))) (.s 3 (.q 4 (.q 5 (.q 6 (.q 7 (.s 9 (.q 10 (.q 11 .nil))))))))) (.s 2 (.s 3 (.q 4 (.q 5 (.q 6 (.q 7 (.s 9 (.q 10 (.q 11 .nil)))))))))))) 82 15 9 bp U
  · kernel_rfl
  · kernel_rfl
  · kernel_rfl
  · rfl
  · rfl
  · refine wt_call rfl rfl rfl rfl 10 #[] (.agg (Arr (encF pt0.1 pt0.2))) (by intro w; (try go_simp); (try rfl)) (fun w hw => implId_c B w (Gd.keep hw (fun _ _ _ h => h)) (Nat.le_trans hBd hw.size)) ?_
    simp only [Act.put, List.setIfInBounds_toArray, List.set_cons_zero, List.set_cons_succ]
    refine wt_load22 rfl rfl rfl rfl _ rfl _ (by rfl) bp Pd ?_
    simp only [Act.put, List.setIfInBounds_toArray, List.set_cons_zero, List.set_cons_succ]
    refine wt_two ?_ ?_
    · refine sp_slice (by decide) (by simp) rfl rfl rfl rfl 11 #[.agg (Arr bp)] (by intro w; (try go_simp); (try rfl)) (fun w hw => slice_c bp w) ?_
      intro b cap hbl hc
      simp only [Act.put, List.setIfInBounds_toArray, List.set_cons_zero, List.set_cons_succ]
      refine wt_two ?_ ?_
      · refine sp_call rfl rfl rfl rfl 9 #[.agg (Arr (encF pt0.1 pt0.2)), .slice (some ⟨b, 0, none⟩) 32 cap] (.tuple #[.agg (Arr U), .bool true, .bool true]) (by intro w; (try go_simp); (try rfl)) b cap (by rfl) hbl (by rfl) (fun w hw hB => (k9 b cap w (Gd.keep hw (fun _ _ _ h => h)) (Nat.le_trans hBd hw.size) hB hc)) ?_
        simp only [Act.put, List.setIfInBounds_toArray, List.set_cons_zero, List.set_cons_succ]
        refine wt_pure rfl rfl rfl rfl (.tuple #[.agg (Arr U), .bool true, .bool true]) (by intro w; (try go_simp); (try rfl)) ?_
        simp only [Act.put, List.setIfInBounds_toArray, List.set_cons_zero, List.set_cons_succ]
        refine wt_pure rfl rfl rfl rfl (.agg (Arr U)) (by intro w; (try go_simp); (try rfl)) ?_
        simp only [Act.put, List.setIfInBounds_toArray, List.set_cons_zero, List.set_cons_succ]
        refine wt_pure rfl rfl rfl rfl (.bool true) (by intro w; (try go_simp); (try rfl)) ?_
        simp only [Act.put, List.setIfInBounds_toArray, List.set_cons_zero, List.set_cons_succ]
        refine wt_pure rfl rfl rfl rfl (.bool true) (by intro w; (try go_simp); (try rfl)) ?_
        simp only [Act.put, List.setIfInBounds_toArray, List.set_cons_zero, List.set_cons_succ]
        refine wt_s ?_
        refine sp_alloc22 (by decide) (by simp) rfl rfl rfl rfl (by rfl) (fun w => exec_alloc22 _ _ _ _ _ _ w) ?_
        intro b2 hb2
        simp only [Act.put, List.setIfInBounds_toArray, List.set_cons_zero, List.set_cons_succ]
        refine wt_s (sp_store22 rfl rfl rfl rfl _ _ rfl b2 hb2 (by rfl) (by rfl) (by rfl) (by rfl) ?_)
        refine wt_pure rfl rfl rfl rfl (.bool true) (by intro w; (try go_simp); (try rfl)) ?_
        simp only [Act.put, List.setIfInBounds_toArray, List.set_cons_zero, List.set_cons_succ]
        refine wt_pure rfl rfl rfl rfl (.bool true) (by intro w; (try go_simp); (try rfl)) ?_
        simp only [Act.put, List.setIfInBounds_toArray, List.set_cons_zero, List.set_cons_succ]
        intro w' hC
        exact ⟨b, cap, b2, hb2, rfl, hC.1, (hC.2.2 b2 (by rfl) hb2).2 (by rfl)⟩
      · refine sp_alloc22 (by decide) (by simp) rfl rfl rfl rfl (by rfl) (fun w => exec_alloc22 _ _ _ _ _ _ w) ?_
        intro b2 hb2
        simp only [Act.put, List.setIfInBounds_toArray, List.set_cons_zero, List.set_cons_succ]
        refine wt_s ?_
        refine sp_call rfl rfl rfl rfl 9 #[.agg (Arr (encF pt0.1 pt0.2)), .slice (some ⟨b, 0, none⟩) 32 cap] (.tuple #[.agg (Arr U), .bool true, .bool true]) (by intro w; (try go_simp); (try rfl)) b cap (by rfl) hbl (by rfl) (fun w hw hB => (k9 b cap w (Gd.keep hw (fun _ _ _ h => h)) (Nat.le_trans hBd hw.size) hB hc)) ?_
        simp only [Act.put, List.setIfInBounds_toArray, List.set_cons_zero, List.set_cons_succ]
        refine wt_pure rfl rfl rfl rfl (.tuple #[.agg (Arr U), .bool true, .bool true]) (by intro w; (try go_simp); (try rfl)) ?_
        simp only [Act.put, List.setIfInBounds_toArray, List.set_cons_zero, List.set_cons_succ]
        refine wt_pure rfl rfl rfl rfl (.agg (Arr U)) (by intro w; (try go_simp); (try rfl)) ?_
        simp only [Act.put, List.setIfInBounds_toArray, List.set_cons_zero, List.set_cons_succ]
        refine wt_pure rfl rfl rfl rfl (.bool true) (by intro w; (try go_simp); (try rfl)) ?_
        simp only [Act.put, List.setIfInBounds_toArray, List.set_cons_zero, List.set_cons_succ]
        refine wt_pure rfl rfl rfl rfl (.bool true) (by intro w; (try go_simp); (try rfl)) ?_
        simp only [Act.put, List.setIfInBounds_toArray, List.set_cons_zero, List.set_cons_succ]
        refine wt_s (sp_store22 rfl rfl rfl rfl _ _ rfl b2 hb2 (by rfl) (by rfl) (by rfl) (by rfl) ?_)
        refine wt_pure rfl rfl rfl rfl (.bool true) (by intro w; (try go_simp); (try rfl)) ?_
        simp only [Act.put, List.setIfInBounds_toArray, List.set_cons_zero, List.set_cons_succ]
        refine wt_pure rfl rfl rfl rfl (.bool true) (by intro w; (try go_simp); (try rfl)) ?_
        simp only [Act.put, List.setIfInBounds_toArray, List.set_cons_zero, List.set_cons_succ]
        intro w' hC
        exact ⟨b, cap, b2, hb2, rfl, hC.1, (hC.2.2 b2 (by rfl) hb2).2 (by rfl)⟩
    · refine sp_alloc22 (by decide) (by simp) rfl rfl rfl rfl (by rfl) (fun w => exec_alloc22 _ _ _ _ _ _ w) ?_
      intro b2 hb2
      simp only [Act.put, List.setIfInBounds_toArray, List.set_cons_zero, List.set_cons_succ]
      refine wt_s ?_
      refine sp_slice (by decide) (by simp) rfl rfl rfl rfl 11 #[.agg (Arr bp)] (by intro w; (try go_simp); (try rfl)) (fun w hw => slice_c bp w) ?_
      intro b cap hbl hc
      simp only [Act.put, List.setIfInBounds_toArray, List.set_cons_zero, List.set_cons_succ]
      refine wt_s ?_
      refine sp_call rfl rfl rfl rfl 9 #[.agg (Arr (encF pt0.1 pt0.2)), .slice (some ⟨b, 0, none⟩) 32 cap] (.tuple #[.agg (Arr U), .bool true, .bool true]) (by intro w; (try go_simp); (try rfl)) b cap (by rfl) hbl (by rfl) (fun w hw hB => (k9 b cap w (Gd.keep hw (fun _ _ _ h => h)) (Nat.le_trans hBd hw.size) hB hc)) ?_
      simp only [Act.put, List.setIfInBounds_toArray, List.set_cons_zero, List.set_cons_succ]
      refine wt_pure rfl rfl rfl rfl (.tuple #[.agg (Arr U), .bool true, .bool true]) (by intro w; (try go_simp); (try rfl)) ?_
      simp only [Act.put, List.setIfInBounds_toArray, List.set_cons_zero, List.set_cons_succ]
      refine wt_pure rfl rfl rfl rfl (.agg (Arr U)) (by intro w; (try go_simp); (try rfl)) ?_
      simp only [Act.put, List.setIfInBounds_toArray, List.set_cons_zero, List.set_cons_succ]
      refine wt_pure rfl rfl rfl rfl (.bool true) (by intro w; (try go_simp); (try rfl)) ?_
      simp only [Act.put, List.setIfInBounds_toArray, List.set_cons_zero, List.set_cons_succ]
      refine wt_pure rfl rfl rfl rfl (.bool true) (by intro w; (try go_simp); (try rfl)) ?_
      simp only [Act.put, List.setIfInBounds_toArray, List.set_cons_zero, List.set_cons_succ]
      refine wt_s (sp_store22 rfl rfl rfl rfl _ _ rfl b2 hb2 (by rfl) (by rfl) (by rfl) (by rfl) ?_)
      refine wt_pure rfl rfl rfl rfl (.bool true) (by intro w; (try go_simp); (try rfl)) ?_
      simp only [Act.put, List.setIfInBounds_toArray, List.set_cons_zero, List.set_cons_succ]
      refine wt_pure rfl rfl rfl rfl (.bool true) (by intro w; (try go_simp); (try rfl)) ?_
      simp only [Act.put, List.setIfInBounds_toArray, List.set_cons_zero, List.set_cons_succ]
      intro w' hC
      exact ⟨b, cap, b2, hb2, rfl, hC.1, (hC.2.2 b2 (by rfl) hb2).2 (by rfl)⟩
  · intro b cap b2 w10 hb2 hU U15
    replace S7 := S7.drewB.keep hU (fun _ _ h => h)
    replace A := A.drew.trans hU (fun _ _ _ h => h)
    clear hU hb2 Gd hBd Pd k9
    go_wp2_with fail
    have Gd := Glob.keep (Upd.refl _ FF).drew (G.keep A (fun _ _ _ h => h)) (fun _ _ _ h => h)
    have hBd := Nat.le_trans hB1 A.drew.size
    have Pd := P.keep A.drew (fun _ _ h => h)
    apply wp_region_treeF (.q 0 (.q 1 (.two 2 8 (.two 3 8 (.q 4 (.q 5 (.q 6 (.q 7 (.s 8 (.s 9 (.q 10 (.q 11 .nil)))))))) (.s 3 (.q 4 (.q 5 (.q 6 (.q 7 (.s 9 (.q 10 (.q 11 .nil))))))))) (.s 2 (.s 3 (.q 4 (.q 5 (.q 6 (.q 7 (.s 9 (.q 10 (.q 11 .nil)))))))))))) 90 18 9 bp V
    · kernel_rfl
    · kernel_rfl
    · kernel_rfl
    · rfl
    · rfl
    · refine wt_call rfl rfl rfl rfl 13 #[] (.agg (Arr (encF pt0.1 pt0.2))) (by intro w; (try go_simp); (try rfl)) (fun w hw => specId w) ?_
      simp only [Act.put, List.setIfInBounds_toArray, List.set_cons_zero, List.set_cons_succ]
      refine wt_load22 rfl rfl rfl rfl _ rfl _ (by rfl) bp Pd ?_
      simp only [Act.put, List.setIfInBounds_toArray, List.set_cons_zero, List.set_cons_succ]
      refine wt_two ?_ ?_
      · refine sp_slice (by decide) (by simp) rfl rfl rfl rfl 11 #[.agg (Arr bp)] (by intro w; (try go_simp); (try rfl)) (fun w hw => slice_c bp w) ?_
        intro b cap hbl hc
        simp only [Act.put, List.setIfInBounds_toArray, List.set_cons_zero, List.set_cons_succ]
        refine wt_two ?_ ?_
        · refine sp_call rfl rfl rfl rfl 12 #[.agg (Arr (encF pt0.1 pt0.2)), .slice (some ⟨b, 0, none⟩) 32 cap] (.tuple #[.agg (Arr V), .bool true, .bool true]) (by intro w; (try go_simp); (try rfl)) b cap (by rfl) hbl (by rfl) (fun w hw hB => (k12 b cap w hB hc)) ?_
          simp only [Act.put, List.setIfInBounds_toArray, List.set_cons_zero, List.set_cons_succ]
          refine wt_pure rfl rfl rfl rfl (.tuple #[.agg (Arr V), .bool true, .bool true]) (by intro w; (try go_simp); (try rfl)) ?_
          simp only [Act.put, List.setIfInBounds_toArray, List.set_cons_zero, List.set_cons_succ]
          refine wt_pure rfl rfl rfl rfl (.agg (Arr V)) (by intro w; (try go_simp); (try rfl)) ?_
          simp only [Act.put, List.setIfInBounds_toArray, List.set_cons_zero, List.set_cons_succ]
          refine wt_pure rfl rfl rfl rfl (.bool true) (by intro w; (try go_simp); (try rfl)) ?_
          simp only [Act.put, List.setIfInBounds_toArray, List.set_cons_zero, List.set_cons_succ]
          refine wt_pure rfl rfl rfl rfl (.bool true) (by intro w; (try go_simp); (try rfl)) ?_
          simp only [Act.put, List.setIfInBounds_toArray, List.set_cons_zero, List.set_cons_succ]
          refine wt_s ?_
          refine sp_alloc22 (by decide) (by simp) rfl rfl rfl rfl (by rfl) (fun w => exec_alloc22 _ _ _ _ _ _ w) ?_
          intro b2 hb2
          simp only [Act.put, List.setIfInBounds_toArray, List.set_cons_zero, List.set_cons_succ]
          refine wt_s (sp_store22 rfl rfl rfl rfl _ _ rfl b2 hb2 (by rfl) (by rfl) (by rfl) (by rfl) ?_)
          refine wt_pure rfl rfl rfl rfl (.bool true) (by intro w; (try go_simp); (try rfl)) ?_
          simp only [Act.put, List.setIfInBounds_toArray, List.set_cons_zero, List.set_cons_succ]
          refine wt_pure rfl rfl rfl rfl (.bool true) (by intro w; (try go_simp); (try rfl)) ?_
          simp only [Act.put, List.setIfInBounds_toArray, List.set_cons_zero, List.set_cons_succ]
          intro w' hC
          exact ⟨b, cap, b2, hb2, rfl, hC.1, (hC.2.2 b2 (by rfl) hb2).2 (by rfl)⟩
        · refine sp_alloc22 (by decide) (by simp) rfl rfl rfl rfl (by rfl) (fun w => exec_alloc22 _ _ _ _ _ _ w) ?_
          intro b2 hb2
          simp only [Act.put, List.setIfInBounds_toArray, List.set_cons_zero, List.set_cons_succ]
          refine wt_s ?_
          refine sp_call rfl rfl rfl rfl 12 #[.agg (Arr (encF pt0.1 pt0.2)), .slice (some ⟨b, 0, none⟩) 32 cap] (.tuple #[.agg (Arr V), .bool true, .bool true]) (by intro w; (try go_simp); (try rfl)) b cap (by rfl) hbl (by rfl) (fun w hw hB => (k12 b cap w hB hc)) ?_
          simp only [Act.put, List.setIfInBounds_toArray, List.set_cons_zero, List.set_cons_succ]
          refine wt_pure rfl rfl rfl rfl (.tuple #[.agg (Arr V), .bool true, .bool true]) (by intro w; (try go_simp); (try rfl)) ?_
          simp only [Act.put, List.setIfInBounds_toArray, List.set_cons_zero, List.set_cons_succ]
          refine wt_pure rfl rfl rfl rfl (.agg (Arr V)) (by intro w; (try go_simp); (try rfl)) ?_
          simp only [Act.put, List.setIfInBounds_toArray, List.set_cons_zero, List.set_cons_succ]
          refine wt_pure rfl rfl rfl rfl (.bool true) (by intro w; (try go_simp); (try rfl)) ?_
          simp only [Act.put, List.setIfInBounds_toArray, List.set_cons_zero, List.set_cons_succ]
          refine wt_pure rfl rfl rfl rfl (.bool true) (by intro w; (try go_simp); (try rfl)) ?_
          simp only [Act.put, List.setIfInBounds_toArray, List.set_cons_zero, List.set_cons_succ]
          refine wt_s (sp_store22 rfl rfl rfl rfl _ _ rfl b2 hb2 (by rfl) (by rfl) (by rfl) (by rfl) ?_)
          refine wt_pure rfl rfl rfl rfl (.bool true) (by intro w; (try go_simp); (try rfl)) ?_
          simp only [Act.put, List.setIfInBounds_toArray, List.set_cons_zero, List.set_cons_succ]
          refine wt_pure rfl rfl rfl rfl (.bool true) (by intro w; (try go_simp); (try rfl)) ?_
          simp only [Act.put, List.setIfInBounds_toArray, List.set_cons_zero, List.set_cons_succ]
          intro w' hC
          exact ⟨b, cap, b2, hb2, rfl, hC.1, (hC.2.2 b2 (by rfl) hb2).2 (by rfl)⟩
      · refine sp_alloc22 (by decide) (by simp) rfl rfl rfl rfl (by rfl) (fun w => exec_alloc22 _ _ _ _ _ _ w) ?_
        intro b2 hb2
        simp only [Act.put, List.setIfInBounds_toArray, List.set_cons_zero, List.set_cons_succ]
        refine wt_s ?_
        refine sp_slice (by decide) (by simp) rfl rfl rfl rfl 11 #[.agg (Arr bp)] (by intro w; (try go_simp); (try rfl)) (fun w hw => slice_c bp w) ?_
        intro b cap hbl hc
        simp only [Act.put, List.setIfInBounds_toArray, List.set_cons_zero, List.set_cons_succ]
        refine wt_s ?_
        refine sp_call rfl rfl rfl rfl 12 #[.agg (Arr (encF pt0.1 pt0.2)), .slice (some ⟨b, 0, none⟩) 32 cap] (.tuple #[.agg (Arr V), .bool true, .bool true]) (by intro w; (try go_simp); (try rfl)) b cap (by rfl) hbl (by rfl) (fun w hw hB => (k12 b cap w hB hc)) ?_
        simp only [Act.put, List.setIfInBounds_toArray, List.set_cons_zero, List.set_cons_succ]
        refine wt_pure rfl rfl rfl rfl (.tuple #[.agg (Arr V), .bool true, .bool true]) (by intro w; (try go_simp); (try rfl)) ?_
        simp only [Act.put, List.setIfInBounds_toArray, List.set_cons_zero, List.set_cons_succ]
        refine wt_pure rfl rfl rfl rfl (.agg (Arr V)) (by intro w; (try go_simp); (try rfl)) ?_
        simp only [Act.put, List.setIfInBounds_toArray, List.set_cons_zero, List.set_cons_succ]
        refine wt_pure rfl rfl rfl rfl (.bool true) (by intro w; (try go_simp); (try rfl)) ?_
        simp only [Act.put, List.setIfInBounds_toArray, List.set_cons_zero, List.set_cons_succ]
        refine wt_pure rfl rfl rfl rfl (.bool true) (by intro w; (try go_simp); (try rfl)) ?_
        simp only [Act.put, List.setIfInBounds_toArray, List.set_cons_zero, List.set_cons_succ]
        refine wt_s (sp_store22 rfl rfl rfl rfl _ _ rfl b2 hb2 (by rfl) (by rfl) (by rfl) (by rfl) ?_)
        refine wt_pure rfl rfl rfl rfl (.bool true) (by intro w; (try go_simp); (try rfl)) ?_
        simp only [Act.put, List.setIfInBounds_toArray, List.set_cons_zero, List.set_cons_succ]
        refine wt_pure rfl rfl rfl rfl (.bool true) (by intro w; (try go_simp); (try rfl)) ?_
        simp only [Act.put, List.setIfInBounds_toArray, List.set_cons_zero, List.set_cons_succ]
        intro w' hC
        exact ⟨b, cap, b2, hb2, rfl, hC.1, (hC.2.2 b2 (by rfl) hb2).2 (by rfl)⟩
    · intro b cap b2 w11 hb2 hU V18
      replace S7 := S7.drewB.keep hU (fun _ _ h => h)
      replace U15 := U15.drewB.keep hU (fun _ _ h => h)
      replace A := A.drew.trans hU (fun _ _ _ h => h)
      clear hU hb2 Gd hBd Pd k12 V18
      go_wp2_with (first | (refine wpList_load22g _ rfl (by rfl) _ _ (by rfl) _ U15 ?_))
      refine (g3 _ (G.keep A (fun _ _ _ h => h)) (Nat.le_trans hB1 A.size)).mono ?_
      rintro e c12 ⟨rfl, hU⟩
      replace S7 := S7.keep hU (fun _ _ h => h)
      replace U15 := U15.keep hU (fun _ _ h => h)
      replace A := A.trans hU (fun _ _ _ h => h)
      clear hU
      go_wp2_with (first | (refine wpList_load22 rfl _ rfl _ _ (by rfl) _ U15 ?_) | (refine wpList_load22 rfl _ rfl _ _ (by rfl) _ (Q.keep A (fun _ _ h => h)) ?_))
      refine (k4b _ (G.keep A (fun _ _ _ h => h)) (Nat.le_trans hB1 A.size)).mono ?_
      rintro e c13 ⟨rfl, hU⟩
      replace S7 := S7.keep hU (fun _ _ h => h)
      replace U15 := U15.keep hU (fun _ _ h => h)
      replace A := A.trans hU (fun _ _ _ h => h)
      clear hU
      have lA := A.size
      have lS7 := S7.ltB
      have lU15 := U15.ltB
      have B1 := (Upd.refl c13 FF).alloc zero32
      have W := zero32_wy c13
      replace S7 := S7.keep B1 (fun _ _ h => h)
      replace U15 := U15.keep B1 (fun _ _ h => h)
      replace A := A.trans B1 (fun _ _ _ h => h)
      clear B1
      go_wp2_with (first
        | (refine wpList_store22 rfl _ _ rfl _ _ S (by rfl) (by rfl) W ?_; intro d14 hV S21 W2; replace S7 := S7.keep hV (fun i hi h => absurd h.1 (by omega)); replace U15 := U15.keep hV (fun i hi h => absurd h.1 (by omega)); replace A := A.trans hV (fun b o hb h => absurd h.1 (by omega)); clear hV W W2 lA lS7 lU15)
        | (refine wpList_load22g _ rfl (by rfl) _ _ (by rfl) _ S21 ?_)
        | (refine wpList_load22g _ rfl (by rfl) _ _ (by rfl) _ S7 ?_))
      go_ret
      exact ⟨rfl, A1.trans A (fun _ _ _ h => h)⟩

end Go.Proofs.YtkibnongmkhbaaaGreatDoor
end
