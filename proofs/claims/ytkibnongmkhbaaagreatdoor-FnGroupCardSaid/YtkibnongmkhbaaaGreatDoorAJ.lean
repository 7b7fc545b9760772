/- Part of the proof that laws.FnGroup returns true for all 32 bytes p, q and x: conditional negation, the check for uninitialised points.
   Conditions: those that each theorem states. -/
import Derived.Deep.RegionHeld3
import Derived.Test.YtkibnongmkhbaaaGreatDoorAH
import Derived.Test.YtkibnongmkhbaaaGreatDoorAI
import Derived.WideLaws
import Derived.WalkSpells

section
open Go Go.RowKit
namespace Go.Proofs.YtkibnongmkhbaaaGreatDoor
open Ed

theorem swap_any (c : Int) (hc : c = 0 ∨ c = 1) (vb vo ub uo : Nat) (X Y : F) (w : World) (hX : El w vb vo X) (hY : El w ub uo Y) (hd : vb ≠ ub ∨ vo + 5 ≤ uo ∨ uo + 5 ≤ vo) :
    Calls Tryz.prog 101 #[.pointer (some ⟨vb, vo, none⟩), .pointer (some ⟨ub, uo, none⟩), .int .i64 c] w fun e w' => e = .returned (.tuple #[]) ∧ Upd w w' (fun b o => Rg vb vo 5 b o ∨ Rg ub uo 5 b o) ∧ El w' vb vo (selF c Y X) ∧ El w' ub uo (selF c X Y) := by
  rcases hc with rfl | rfl
  · exact swap0_c vb vo ub uo X Y w hX hY hd
  · exact swap1_c vb vo ub uo X Y w hX hY hd

set_option maxRecDepth 100000 in
set_option maxHeartbeats 4000000 in
theorem cNeg_c (c : Int) (hc : c = 0 ∨ c = 1) (B vb vo : Nat) (V0 V1 V2 V3 : F) (w : World) (hG : Glob B w) (hB : B ≤ vb) (Hv : Pt w vb vo V0 V1 V2 V3) :
    Calls Tryz.prog 82 #[.pointer (some ⟨vb, vo, none⟩), .int .i64 c] w fun e w' => e = .returned (.pointer (some ⟨vb, vo, none⟩)) ∧ Upd w w' (Rg vb vo 20) ∧ Pt w' vb vo (selF c V1 V0) (selF c V0 V1) V2 (selF c (-V3) V3) := by
  obtain ⟨hv0, hv1, hv2, hv3⟩ := Hv
  have lv := hv0.lt
  go_enter Tryz.func82, Tryz.ntmps82
  go_wp2
  refine still_tail 7 (by kernel_rfl) (by kernel_rfl) ?_
  simp only [List.take_succ_cons, List.take_zero, List.drop_succ_cons, List.drop_zero]
  iterate 7 still_step
  refine wpStill_nil ?_
  go_wp2_with fail
  refine (swap_any c hc vb vo vb (vo + 5) V0 V1 _ hv0.drew hv1.drew (by omega)).mono ?_
  rintro e w1 ⟨rfl, hU, h0, h1⟩
  have s1 := hU.size
  simp only [World.size_drew] at s1
  replace hv2 := hv2.drew.keep hU (fun i hi h => by rcases h with ⟨h1, h2, h3⟩ | ⟨h1, h2, h3⟩ <;> omega)
  replace hv3 := hv3.drew.keep hU (fun i hi h => by rcases h with ⟨h1, h2, h3⟩ | ⟨h1, h2, h3⟩ <;> omega)
  replace hG := hG.drew.keep hU (fun b o hb h => by rcases h with ⟨h1, h2, h3⟩ | ⟨h1, h2, h3⟩ <;> omega)
  have hA : Upd w w1 (Rg vb vo 20) := ((Upd.refl w _).drew).trans hU (fun b o hb h => by rcases h with ⟨h1, h2, h3⟩ | ⟨h1, h2, h3⟩ <;> exact ⟨h1, by omega, by omega⟩)
  clear hU hv0 hv1
  have hs0 := fun (n : World) => n
  go_wp2_with fail
  have A1 := ((Upd.refl w1 (fun _ _ => False)).drew).alloc (.cells #[.int .u64 0, .int .u64 0, .int .u64 0, .int .u64 0, .int .u64 0] 40)
  have hn := El.zero w1.drew
  go_region_held3 (fun _ => True) (trivial) (first
    | ((try go_simp); go_at_call 64; refine (neg_c B w1.heap.size 0 vb (vo + 15) 0 V3 _ (hG.keep A1 (fun _ _ _ h => h)) (by omega) hn ((hv3.keep A1 (fun _ _ h => h)).r) (by unfold Ap; omega)).mono ?_; rintro e w2 ⟨rfl, hU2, h2⟩)
    | ((try go_simp); go_at_call 65; refine (sel_any c hc vb (vo + 15) w1.heap.size 0 vb (vo + 15) V3 (-V3) V3 _ ((hv3.keep A1 (fun _ _ h => h)).keep hU2 (fun i hi h => by obtain ⟨h1, h2, h3⟩ := h; omega)) h2.r (((hv3.keep A1 (fun _ _ h => h)).keep hU2 (fun i hi h => by obtain ⟨h1, h2, h3⟩ := h; omega)).r) (by unfold Ap; omega) (by unfold Ap; omega)).mono ?_; rintro e w3 ⟨rfl, hU3, h3⟩))
  have K2 : Upd w1 w2 (fun b _ => w1.heap.size ≤ b) := (A1.wide (fun _ _ _ h => h.elim)).trans hU2 (fun b o hb h => by obtain ⟨h1, h2, h3⟩ := h; omega)
  have s2 := K2.size
  replace hA := (hA.trans K2 (fun b o hb h => by omega)).trans hU3 (fun b o hb h => by obtain ⟨h1, h2, h3⟩ := h; exact ⟨h1, by omega, by omega⟩)
  replace h0 := (h0.keep K2 (fun i hi h => by omega)).keep hU3 (fun i hi h => by obtain ⟨h1, h2, h3⟩ := h; omega)
  replace h1 := (h1.keep K2 (fun i hi h => by omega)).keep hU3 (fun i hi h => by obtain ⟨h1, h2, h3⟩ := h; omega)
  replace hv2 := (hv2.keep K2 (fun i hi h => by omega)).keep hU3 (fun i hi h => by obtain ⟨h1, h2, h3⟩ := h; omega)
  replace h3 : El w3 vb (vo + 15) (selF c (-V3) V3) := h3
  go_wp2
  go_ret
  exact ⟨rfl, hA, h0, h1, hv2, h3⟩

end Go.Proofs.YtkibnongmkhbaaaGreatDoor
end

section
open Go Go.RowKit
namespace Go.Proofs.YtkibnongmkhbaaaGreatDoor
open Ed

/-- not both elements have zero limbs alone -/
def Live (w : World) (b o : Nat) : Prop :=
  ∃ x0 x1 x2 x3 x4 y0 y1 y2 y3 y4 : Int, R5 w b o x0 x1 x2 x3 x4 ∧ R5 w b (o + 5) y0 y1 y2 y3 y4 ∧ ¬ (x0 = 0 ∧ x1 = 0 ∧ x2 = 0 ∧ x3 = 0 ∧ x4 = 0 ∧ y0 = 0 ∧ y1 = 0 ∧ y2 = 0 ∧ y3 = 0 ∧ y4 = 0)

theorem Pt.live {w : World} {b o : Nat} {X Y Z T : F} (h : Pt w b o X Y Z T) (hn : ¬ (X = 0 ∧ Y = 0)) : Live w b o := by
  obtain ⟨⟨x0, x1, x2, x3, x4, hx, _, _, _, _, _, ex⟩, ⟨y0, y1, y2, y3, y4, hy, _, _, _, _, _, ey⟩, _⟩ := h
  refine ⟨x0, x1, x2, x3, x4, y0, y1, y2, y3, y4, hx.r, hy.r, fun ⟨h0, h1, h2, h3, h4, g0, g1, g2, g3, g4⟩ => hn ⟨?_, ?_⟩⟩
  · rw [← ex, h0, h1, h2, h3, h4, lv0]
  · rw [← ey, g0, g1, g2, g3, g4, lv0]

def ChkRel (n : Nat) (t : Value) : Prop := ∃ k : Nat, k ≤ n ∧ t = .int .i64 k

set_option maxRecDepth 100000 in
set_option maxHeartbeats 4000000 in
theorem chk_c (n sb so cap : Nat) (pb po : Nat → Nat) (w : World) (hn : n ≤ 100)
    (hc : ∀ i, i < n → w.cell? ⟨sb, so + i, none⟩ = some (.pointer (some ⟨pb i, po i, none⟩)) ∧ Live w (pb i) (po i)) :
    Calls Tryz.prog 28 #[.slice (some ⟨sb, so, none⟩) n cap] w fun e w' => e = .returned (.tuple #[]) ∧ w' = w := by
  have HC := Lib.hid hc
  clear hc
  go_enter Tryz.func28, Tryz.ntmps28
  go_wp2
  go_loop [6] (fun t => ChkRel n t) (fun t => n - (intOf t).toNat)
  case atStart => exact ⟨0, by omega, rfl⟩
  case round =>
    obtain ⟨k, hk, rfl⟩ := hrel
    by_cases hlt : k = n
    · subst hlt
      go_wp2
      go_end0
      exact ⟨rfl, rfl⟩
    · have hkn : (k : Int) < n := by omega
      obtain ⟨cc, x0, x1, x2, x3, x4, y0, y1, y2, y3, y4, ⟨a0, a1, a2, a3, a4⟩, ⟨b0, b1, b2, b3, b4⟩, hz⟩ := HC.out k (by omega)
      by_cases hx : x0 = 0 ∧ x1 = 0 ∧ x2 = 0 ∧ x3 = 0 ∧ x4 = 0
      · obtain ⟨rfl, rfl, rfl, rfl, rfl⟩ := hx
        go_wp2
        all_goals first
          | exact ⟨⟨k + 1, by omega, by go_num⟩, by simp [intOf]; omega⟩
          | (exfalso; omega)
      · go_wp2
        all_goals first
          | exact ⟨⟨k + 1, by omega, by go_num⟩, by simp [intOf]; omega⟩
          | (exfalso; omega)

end Go.Proofs.YtkibnongmkhbaaaGreatDoor
end
