/- Part of the proof that laws.FnGroup returns true for all 32 bytes p, q and x: the reference's octets.
   Conditions: those that each theorem states. -/
import Derived.Deep.RegionHeld3
import Derived.IntWalk
import Derived.Test.YtkibnongmkhbaaaGreatDoorRB
import Derived.Test.YtkibnongmkhbaaaGreatDoorSA

section
open Go Go.RowKit
namespace Go.Proofs.YtkibnongmkhbaaaGreatDoor
open Ed

def OctRel (w : World) (ob : Nat) (N : Int) (i : Value) (wr : World) : Prop :=
  ∃ k : Nat, k ≤ 32 ∧ i = .int .i64 k ∧ Upd w wr (fun x _ => x = ob) ∧ Wy wr ob 0 32 ∧ By wr ob 0 k (byteOf N)

theorem oct_byte (N : Int) (k : Nat) : wd N (k / 8) / 2 ^ (8 * (k % 8)) % 256 = byteOf N k := by
  have h := byte_part N (8 * (k / 8)) (k % 8) (by omega)
  rw [show 8 * (k / 8) + k % 8 = k by omega] at h
  rw [← h]
  unfold wd
  have e : (18446744073709551616 : Int) ^ (k / 8) = 256 ^ (8 * (k / 8)) := by rw [Int.pow_mul]; rfl
  have e2 : (2 : Int) ^ (8 * (k % 8)) = 256 ^ (k % 8) := by rw [Int.pow_mul]; rfl
  rw [e, e2]

set_option maxRecDepth 100000 in
set_option maxHeartbeats 8000000 in
theorem octets_c (N : Int) (w : World) : Calls Tryz.prog 42 #[.agg (Na N)] w fun e w' => e = .returned (.agg (Arr (byteOf N))) ∧ Upd w w' (fun _ _ => False) := by
  have A1 := (((Upd.refl w (fun _ _ => False)).alloc (.cells (Na N) 45)).alloc zero32).alloc zero32
  have n1 := (Nu.boxed w N 45).keep (((Upd.refl _ (fun _ _ => False)).alloc zero32).alloc zero32) (fun _ _ h => h)
  have n2 := (zero32_wy (w.alloc (.cells (Na N) 45))).keep ((Upd.refl _ (fun _ _ => False)).alloc zero32) (fun _ _ h => h)
  have n3 := zero32_wy ((w.alloc (.cells (Na N) 45)).alloc zero32)
  simp only [World.size_alloc] at n1 n2 n3
  go_enter Tryz.func42, Tryz.ntmps42
  go_wp2_with (first
    | (refine wpList_store22 rfl _ _ rfl (w.heap.size + 1 + 1) 0 (fun _ => 0) (by rfl) (by rfl) n3 ?_; intro w1 hU1 hB1 p5))
  replace n1 := n1.keep hU1 (fun i hi h => absurd h.1 (by omega))
  replace n2 := n2.keep hU1 (fun i hi h => absurd h.1 (by omega))
  replace A1 := A1.trans hU1 (fun b o hb h => absurd h.1 (by omega))
  have s1 := p5.lt (by decide)
  clear hU1 n3 hB1
  go_loopw [4] (fun i wr => OctRel w1 (w.heap.size + 1 + 1) N i wr) (fun i _ => 32 - (intOf i).toNat)
  case atStart => exact ⟨0, by omega, rfl, Upd.refl _ _, p5, fun i hi => by omega⟩
  case round =>
    clear p5
    obtain ⟨k, hk, rfl, hU, p5, hB⟩ := hrel
    have q1 := (n1.keep hU (fun i hi h => by omega)).nw
    have q2 := n2.keep hU (fun i hi h => by omega)
    have s2 := hU.size
    by_cases hlt : k = 32
    · subst hlt
      go_wp2_with (first
        | (refine wpList_load22 rfl _ rfl (w.heap.size + 1 + 1) 0 (by rfl) _ hB ?_)
        | (refine wpList_store22 rfl _ _ rfl (w.heap.size + 1) 0 _ (by rfl) (by rfl) q2 ?_; intro w3 hU3 hB3 hW3))
      exact bodyPost_ret (results_cell rfl (by rfl) (load22 hB3)) rfl ⟨rfl, (A1.trans hU (fun b o hb h => by omega)).trans hU3 (fun b o hb h => absurd h.1 (by omega))⟩
    · have hk0 : (0 : Int) ≤ (k : Int) := by omega
      have hk1 : (k : Int) < 32 := by omega
      obtain ⟨c, -⟩ := q1 (k / 8) (by omega)
      obtain ⟨r1, r2⟩ := wd_rng N (k / 8)
      obtain ⟨⟨v, g1⟩, g2⟩ := p5 k (by omega)
      rw [Nat.zero_add] at g1 g2
      have t2 : ((k : Int).tdiv 8) = ((k / 8 : Nat) : Int) := rfl
      have t3 : ((k : Int).tmod 8) = ((k % 8 : Nat) : Int) := rfl
      go_wp2_with fail
      rw [oct_byte]
      refine ⟨⟨k + 1, by omega, by go_num, hU.set (fun _ => rfl) _, fun i hi => ?_, fun i hi => ?_⟩, by simp [intOf]; omega⟩
      · rw [Nat.zero_add]
        obtain ⟨⟨u, u1⟩, u2⟩ := p5 i hi
        rw [Nat.zero_add] at u1 u2
        refine ⟨?_, (World.frozen?_setCell _ _ _ _).trans u2⟩
        by_cases e : i = k
        · subst e
          exact ⟨_, World.cell?_setCell_same _ _ _ g1⟩
        · exact ⟨u, (World.cell?_setCell_other _ _ _ _ (by intro h; cases h; exact e rfl)).trans u1⟩
      · rw [Nat.zero_add]
        by_cases e : i = k
        · subst e
          exact World.cell?_setCell_same _ _ _ g1
        · have := hB i (by omega)
          rw [Nat.zero_add] at this
          exact (World.cell?_setCell_other _ _ _ _ (by intro h; cases h; exact e rfl)).trans this

end Go.Proofs.YtkibnongmkhbaaaGreatDoor
end
