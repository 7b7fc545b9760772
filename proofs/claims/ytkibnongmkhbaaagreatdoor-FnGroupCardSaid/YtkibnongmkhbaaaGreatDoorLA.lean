/- Part of the proof that laws.FnGroup returns true for all 32 bytes p, q and x: laws.slice, laws.again.
   Conditions: those that each theorem states. -/
import Derived.WalkKit
import Derived.IntWalk
import Derived.Test.YtkibnongmkhbaaaGreatDoorSJ
import Derived.Test.YtkibnongmkhbaaaGreatDoorQC

section
open Go Go.RowKit
namespace Go.Proofs.YtkibnongmkhbaaaGreatDoor
open Ed

theorem info5 : (Tryz.prog.info? 5).map (fun i => (i.zero, i.size, i.bytes)) = some (some (.int .u8 0), 1, 1) := by kernel_rfl
theorem Upd.of_below {w w' : World} (h : Below w.heap.size w w') : Upd w w' FF :=
  ⟨h.os, h.tape, h.output, h.size, fun _ _ hb _ => h.cell hb, fun _ _ hb => h.frozen hb, fun b hb _ => h.block b hb⟩
def SlRel (bs : Nat → Int) (w w1 : World) (v i : Value) (wr : World) : Prop :=
  ∃ k : Nat, k ≤ 32 ∧ i = .int .i64 k ∧ wr.ownsRow (w.heap.size + 1) 5 1 v k ((List.range k).map fun j => Value.int .u8 (bs j)) ∧ Below (w.heap.size + 1) w1 wr

set_option maxRecDepth 100000 in
set_option maxHeartbeats 8000000 in
theorem slice_c (bs : Nat → Int) (w : World) :
    Calls Tryz.prog 11 #[.agg (Arr bs)] w fun e w' => ∃ b cap, e = .returned (.slice (some ⟨b, 0, none⟩) 32 cap) ∧ w.heap.size ≤ b ∧ 32 ≤ cap ∧ Upd w w' FF ∧ By w' b 0 32 bs := by
  obtain ⟨i0, hi, hz0, hz1, hz2⟩ := info_parts info5
  have P := By.arr bs w 22
  go_enter Tryz.func11, Tryz.ntmps11
  go_wp2
  go_loopw [3, 4] (fun v i wr => SlRel bs w (w.alloc (.cells (Arr bs) 22)) v i wr) (fun _ i _ => 32 - (intOf i).toNat)
  case atStart =>
    refine ⟨0, by omega, rfl, ?_, (Below.refl _ _).alloc (by simp) _⟩
    have h := World.ownsRow_made (base := w.heap.size + 1) (e := 5) (size := 1) (w.alloc (.cells (Arr bs) 22)) #[] 0 (by simp) (by decide) rfl
    rw [World.size_alloc] at h
    exact h
  case round =>
    obtain ⟨k, hk, rfl, hown, hB⟩ := hrel
    have s1 := hB.size
    simp only [World.size_alloc] at s1
    by_cases hlt : k = 32
    · subst hlt
      obtain ⟨hlen, ⟨_, h0⟩ | ⟨g, cap, cur, rfl, hg, hrest⟩⟩ := id hown
      · exact absurd h0 (by decide)
      · have hcap := hrest.2.1
        clear hrest
        have hBy : By wr g 0 32 bs := fun i hi => by
          rw [Nat.zero_add, hown.cellAt i (by omega), List.getElem?_map, List.getElem?_range hi]
          rfl
        have hU : Upd w wr FF := Upd.of_below (((Below.refl w.heap.size w).alloc (Nat.le_refl _) (.cells (Arr bs) 22)).trans (hB.mono (by omega)))
        clear hown hB P hlen
        go_wp2
        go_ret
        exact ⟨g, cap, rfl, by omega, hcap, hU, hBy⟩
    · have hk1 : (k : Int) < 32 := by omega
      have hc := (hB.cell (p := ⟨w.heap.size, 0 + k, none⟩) (by show w.heap.size < _; omega)).trans (P k (by omega))
      rw [Nat.zero_add] at hc
      go_wp2_with (first
        | (at_builtin; refine wpList_append_own _ rfl _ _ 29 rfl (w.heap.size + 1) 5 i0 (.int .u8 0) 1 1 und29 hi hz0 hz1 hz2 rfl (by decide) _ _ _ rfl (hown.alloc _) ⟨wr.heap.size, 0, none⟩ 1 1 [.int .u8 (bs k)] rfl rfl ?c1 ?c2 ?c3 ?c4 ?c5 ?_))
      case c1 =>
        intro j u hj
        match j, hj with
        | 0, hj => simp at hj; subst hj; simp [Addr.add]
      case c2 => intro u hu; simp at hu; subst hu; rfl
      case c3 => unfold maxLen; omega
      case c4 => omega
      case c5 => simp; omega
      · intro v' w1 hown' hgrow _
        have hB' := (hB.alloc (by omega) (.cells #[.int .u8 (bs k)] 5)).grown hgrow (by simp; omega) (fun kk hkk => ((hown.alloc (.cells #[.int .u8 (bs k)] 5)).lt kk hkk).1)
        have hown2 : w1.ownsRow (w.heap.size + 1) 5 1 v' (k + 1) ((List.range (k + 1)).map fun j => Value.int .u8 (bs j)) := by
          rw [List.range_succ, List.map_append]; exact hown'
        clear hown' hgrow hown hB hc
        go_wp2
        go_roundw
        case rel => exact ⟨k + 1, by omega, by go_num, hown2, hB'⟩
        case measure => simp [intOf]; omega

end Go.Proofs.YtkibnongmkhbaaaGreatDoor
end

section
open Go Go.RowKit
namespace Go.Proofs.YtkibnongmkhbaaaGreatDoor
open Ed

theorem same22 (R : Nat → Int) (w : World) : (Op.equalIn 10000 22 (.agg (Arr R)) (.agg (Arr R))).run Tryz.prog w = .ok true w := by
  obtain ⟨r, h1, h2⟩ := eq22 R R w
  rw [h1, h2.2 (fun _ _ => rfl)]
theorem on_pt0' : okOf (yOf (encF pt0.1 pt0.2)) := ok_encF on_pt0

/-- SetBytes of the bytes that a point's own telling gives -/
theorem implSet_R (B b o cap : Nat) (R : Nat → Int) (hb : ∀ i, Byte (R i)) (hok : okOf (yOf R)) (hR : encF (ptOf R).1 (ptOf R).2 = R) (w : World) (hG : Glob B w) (hB : B ≤ w.heap.size) (hBy : By w b o 32 R) (hc : 32 ≤ cap) :
    Calls Tryz.prog 9 #[.agg (Arr (encF pt0.1 pt0.2)), .slice (some ⟨b, o, none⟩) 32 cap] w fun e w' => e = .returned (.tuple #[.agg (Arr R), .bool true, .bool true]) ∧ Upd w w' FF := by
  have h := implSet_ok B b o cap (encF pt0.1 pt0.2) R (encF_byte _ _) hb on_pt0' hok w hG hB hBy hc
  rw [hR] at h
  exact h

set_option maxRecDepth 100000 in
set_option maxHeartbeats 8000000 in
theorem again_c (B : Nat) (R : Nat → Int) (hb : ∀ i, Byte (R i)) (hok : okOf (yOf R)) (hR : encF (ptOf R).1 (ptOf R).2 = R) (w : World) (hG : Glob B w) (hB : B ≤ w.heap.size) :
    Calls Tryz.prog 6 #[.agg (Arr R)] w fun e w' => e = .returned (.bool true) ∧ Upd w w' FF := by
  have A := (Upd.refl w FF).alloc (.cells (Arr R) 22)
  have H := By.arr R w 22
  have G := hG.keep A (fun _ _ _ h => h)
  have hB1 : B ≤ (w.alloc (.cells (Arr R) 22)).drew.heap.size := by simp; omega
  have hq := same22 R
  have G1 := Glob.keep (Upd.refl _ FF).drew G (fun _ _ _ h => h)
  go_enter Tryz.func6, Tryz.ntmps6
  go_wp2_with fail
  apply wp_region_treeF (.q 0 (.q 1 (.two 2 8 (.two 3 8 (.q 4 (.q 5 (.q 6 (.q 7 (.s 8 (.s 9 (.q 10 (.q 11 .nil)))))))) (.s 3 (.q 4 (.q 5 (.q 6 (.q 7 (.s 9 (.q 10 (.q 11 .nil))))))))) (.s 2 (.s 3 (.q 4 (.q 5 (.q 6 (.q 7 (.s 9 (.q 10 (.q 11 .nil)))))))))))) 9 3 9 R R
  · kernel_rfl
  · kernel_rfl
  · kernel_rfl
  · rfl
  · rfl
  · refine wt_call rfl rfl rfl rfl 10 #[] (.agg (Arr (encF pt0.1 pt0.2))) (by intro w; (try go_simp); (try rfl)) (fun w hw => implId_c B w (G1.keep hw (fun _ _ _ h => h)) (Nat.le_trans hB1 hw.size)) ?_
    simp only [Act.put, List.setIfInBounds_toArray, List.set_cons_zero, List.set_cons_succ]
    refine wt_load22 rfl rfl rfl rfl _ rfl _ (by rfl) R H.drewB ?_
    simp only [Act.put, List.setIfInBounds_toArray, List.set_cons_zero, List.set_cons_succ]
    refine wt_two ?_ ?_
    · refine sp_slice (by decide) (by simp) rfl rfl rfl rfl 11 #[.agg (Arr R)] (by intro w; (try go_simp); (try rfl)) (fun w hw => slice_c R w) ?_
      intro b cap hbl hc
      simp only [Act.put, List.setIfInBounds_toArray, List.set_cons_zero, List.set_cons_succ]
      refine wt_two ?_ ?_
      · refine sp_call rfl rfl rfl rfl 9 #[.agg (Arr (encF pt0.1 pt0.2)), .slice (some ⟨b, 0, none⟩) 32 cap] (.tuple #[.agg (Arr R), .bool true, .bool true]) (by intro w; (try go_simp); (try rfl)) b cap (by rfl) hbl (by rfl) (fun w hw hB => (implSet_R B b 0 cap R hb hok hR w (G1.keep hw (fun _ _ _ h => h)) (Nat.le_trans hB1 hw.size) hB hc)) ?_
        simp only [Act.put, List.setIfInBounds_toArray, List.set_cons_zero, List.set_cons_succ]
        refine wt_pure rfl rfl rfl rfl (.tuple #[.agg (Arr R), .bool true, .bool true]) (by intro w; (try go_simp); (try rfl)) ?_
        simp only [Act.put, List.setIfInBounds_toArray, List.set_cons_zero, List.set_cons_succ]
        refine wt_pure rfl rfl rfl rfl (.agg (Arr R)) (by intro w; (try go_simp); (try rfl)) ?_
        simp only [Act.put, List.setIfInBounds_toArray, List.set_cons_zero, List.set_cons_succ]
        refine wt_pure rfl rfl rfl rfl (.bool true) (by intro w; (try go_simp); (try rfl)) ?_
        simp only [Act.put, List.setIfInBounds_toArray, List.set_cons_zero, List.set_cons_succ]
        refine wt_pure rfl rfl rfl rfl (.bool true) (by intro w; (try go_simp); (try rfl)) ?_
        simp only [Act.put, List.setIfInBounds_toArray, List.set_cons_zero, List.set_cons_succ]
        refine wt_s ?_
        refine sp_alloc22 (by decide) (by simp) rfl rfl rfl rfl (by rfl) (fun w => exec_alloc22 _ _ _ _ _ _ w) ?_
        intro b2 hb2
        simp only [Act.put, List.setIfInBounds_toArray, List.set_cons_zero, List.set_cons_succ]
        refine wt_s (sp_store22 rfl rfl rfl rfl _ _ rfl b2 hb2 (by rfl) (by rfl) (by rfl) (by rfl) ?_)
        refine wt_pure rfl rfl rfl rfl (.bool true) (by intro w; (try go_simp); (try rfl)) ?_
        simp only [Act.put, List.setIfInBounds_toArray, List.set_cons_zero, List.set_cons_succ]
        refine wt_pure rfl rfl rfl rfl (.bool true) (by intro w; (try go_simp); (try rfl)) ?_
        simp only [Act.put, List.setIfInBounds_toArray, List.set_cons_zero, List.set_cons_succ]
        intro w' hC
        exact ⟨b, cap, b2, hb2, rfl, hC.1, (hC.2.2 b2 (by rfl) hb2).2 (by rfl)⟩
      · refine sp_alloc22 (by decide) (by simp) rfl rfl rfl rfl (by rfl) (fun w => exec_alloc22 _ _ _ _ _ _ w) ?_
        intro b2 hb2
        simp only [Act.put, List.setIfInBounds_toArray, List.set_cons_zero, List.set_cons_succ]
        refine wt_s ?_
        refine sp_call rfl rfl rfl rfl 9 #[.agg (Arr (encF pt0.1 pt0.2)), .slice (some ⟨b, 0, none⟩) 32 cap] (.tuple #[.agg (Arr R), .bool true, .bool true]) (by intro w; (try go_simp); (try rfl)) b cap (by rfl) hbl (by rfl) (fun w hw hB => (implSet_R B b 0 cap R hb hok hR w (G1.keep hw (fun _ _ _ h => h)) (Nat.le_trans hB1 hw.size) hB hc)) ?_
        simp only [Act.put, List.setIfInBounds_toArray, List.set_cons_zero, List.set_cons_succ]
        refine wt_pure rfl rfl rfl rfl (.tuple #[.agg (Arr R), .bool true, .bool true]) (by intro w; (try go_simp); (try rfl)) ?_
        simp only [Act.put, List.setIfInBounds_toArray, List.set_cons_zero, List.set_cons_succ]
        refine wt_pure rfl rfl rfl rfl (.agg (Arr R)) (by intro w; (try go_simp); (try rfl)) ?_
        simp only [Act.put, List.setIfInBounds_toArray, List.set_cons_zero, List.set_cons_succ]
        refine wt_pure rfl rfl rfl rfl (.bool true) (by intro w; (try go_simp); (try rfl)) ?_
        simp only [Act.put, List.setIfInBounds_toArray, List.set_cons_zero, List.set_cons_succ]
        refine wt_pure rfl rfl rfl rfl (.bool true) (by intro w; (try go_simp); (try rfl)) ?_
        simp only [Act.put, List.setIfInBounds_toArray, List.set_cons_zero, List.set_cons_succ]
        refine wt_s (sp_store22 rfl rfl rfl rfl _ _ rfl b2 hb2 (by rfl) (by rfl) (by rfl) (by rfl) ?_)
        refine wt_pure rfl rfl rfl rfl (.bool true) (by intro w; (try go_simp); (try rfl)) ?_
        simp only [Act.put, List.setIfInBounds_toArray, List.set_cons_zero, List.set_cons_succ]
        refine wt_pure rfl rfl rfl rfl (.bool true) (by intro w; (try go_simp); (try rfl)) ?_
        simp only [Act.put, List.setIfInBounds_toArray, List.set_cons_zero, List.set_cons_succ]
        intro w' hC
        exact ⟨b, cap, b2, hb2, rfl, hC.1, (hC.2.2 b2 (by rfl) hb2).2 (by rfl)⟩
    · refine sp_alloc22 (by decide) (by simp) rfl rfl rfl rfl (by rfl) (fun w => exec_alloc22 _ _ _ _ _ _ w) ?_
      intro b2 hb2
      simp only [Act.put, List.setIfInBounds_toArray, List.set_cons_zero, List.set_cons_succ]
      refine wt_s ?_
      refine sp_slice (by decide) (by simp) rfl rfl rfl rfl 11 #[.agg (Arr R)] (by intro w; (try go_simp); (try rfl)) (fun w hw => slice_c R w) ?_
      intro b cap hbl hc
      simp only [Act.put, List.setIfInBounds_toArray, List.set_cons_zero, List.set_cons_succ]
      refine wt_s ?_
      refine sp_call rfl rfl rfl rfl 9 #[.agg (Arr (encF pt0.1 pt0.2)), .slice (some ⟨b, 0, none⟩) 32 cap] (.tuple #[.agg (Arr R), .bool true, .bool true]) (by intro w; (try go_simp); (try rfl)) b cap (by rfl) hbl (by rfl) (fun w hw hB => (implSet_R B b 0 cap R hb hok hR w (G1.keep hw (fun _ _ _ h => h)) (Nat.le_trans hB1 hw.size) hB hc)) ?_
      simp only [Act.put, List.setIfInBounds_toArray, List.set_cons_zero, List.set_cons_succ]
      refine wt_pure rfl rfl rfl rfl (.tuple #[.agg (Arr R), .bool true, .bool true]) (by intro w; (try go_simp); (try rfl)) ?_
      simp only [Act.put, List.setIfInBounds_toArray, List.set_cons_zero, List.set_cons_succ]
      refine wt_pure rfl rfl rfl rfl (.agg (Arr R)) (by intro w; (try go_simp); (try rfl)) ?_
      simp only [Act.put, List.setIfInBounds_toArray, List.set_cons_zero, List.set_cons_succ]
      refine wt_pure rfl rfl rfl rfl (.bool true) (by intro w; (try go_simp); (try rfl)) ?_
      simp only [Act.put, List.setIfInBounds_toArray, List.set_cons_zero, List.set_cons_succ]
      refine wt_pure rfl rfl rfl rfl (.bool true) (by intro w; (try go_simp); (try rfl)) ?_
      simp only [Act.put, List.setIfInBounds_toArray, List.set_cons_zero, List.set_cons_succ]
      refine wt_s (sp_store22 rfl rfl rfl rfl _ _ rfl b2 hb2 (by rfl) (by rfl) (by rfl) (by rfl) ?_)
      refine wt_pure rfl rfl rfl rfl (.bool true) (by intro w; (try go_simp); (try rfl)) ?_
      simp only [Act.put, List.setIfInBounds_toArray, List.set_cons_zero, List.set_cons_succ]
      refine wt_pure rfl rfl rfl rfl (.bool true) (by intro w; (try go_simp); (try rfl)) ?_
      simp only [Act.put, List.setIfInBounds_toArray, List.set_cons_zero, List.set_cons_succ]
      intro w' hC
      exact ⟨b, cap, b2, hb2, rfl, hC.1, (hC.2.2 b2 (by rfl) hb2).2 (by rfl)⟩
  · intro b cap b2 w' hb2 hU hBy
    replace H := H.drewB.keep hU (fun _ _ h => h)
    replace A := A.drew.trans hU (fun _ _ _ h => h)
    clear hU G G1
    go_wp2_with (first
      | (refine wpList_load22g _ rfl (by rfl) _ _ (by rfl) _ hBy ?_)
      | (refine wpList_load22g _ rfl (by rfl) _ _ (by rfl) _ H ?_))
    go_ret
    exact ⟨rfl, A⟩

end Go.Proofs.YtkibnongmkhbaaaGreatDoor
end
