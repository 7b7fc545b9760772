/- Part of the proof that laws.FnGroup returns true for all 32 bytes p, q and x: Point.Set, the identity, pointOf.
   Conditions: those that each theorem states. -/
import Derived.Deep.MidRow
import Derived.Test.YtkibnongmkhbaaaGreatDoorAJ
import Derived.Deep.RegionHeld3

section
open Go Go.RowKit
namespace Go.Proofs.YtkibnongmkhbaaaGreatDoor
open Ed

theorem isRow_of {P : Program} {t : TypeId} (h : (P.underlying t).map TypeDesc.isRow = some true) : ∃ d, P.underlying t = some d ∧ d.isRow = true := by
  cases hq : P.underlying t with
  | none => rw [hq] at h; cases h
  | some d => exact ⟨d, rfl, by rw [hq] at h; simpa using h⟩

theorem Upd.cells {w w1 : World} {S : Nat → Nat → Prop} (h : Upd w w1 S) (b : Nat) (vs : List Value) : ∀ (o : Nat), (∀ i, i < vs.length → b < w.heap.size → S b (o + i)) → Upd w (w1.setCells b o vs) S := by
  induction vs generalizing w1 with
  | nil => intro o _; exact h
  | cons v vs ih =>
    intro o hs
    show Upd w ((w1.setCell ⟨b, o, none⟩ v).setCells b (o + 1) vs) S
    exact ih (h.set (fun hb => hs 0 (by simp) hb) v) (o + 1) (fun i hi hb => by rw [Nat.add_assoc, Nat.add_comm 1 i]; exact hs (i + 1) (by simpa using hi) hb)

theorem frozen_setCells (b : Nat) (vs : List Value) : ∀ (o : Nat) (w : World) (a : Addr), (w.setCells b o vs).frozen? a = w.frozen? a := by
  induction vs with
  | nil => intro o w a; rfl
  | cons v vs ih => intro o w a; show ((w.setCell ⟨b, o, none⟩ v).setCells b (o + 1) vs).frozen? a = _; rw [ih, World.frozen?_setCell]

theorem there_setCells {w : World} {b o : Nat} {vs : List Value} (h : w.there b o vs.length) : (w.setCells b o vs).there b o vs.length := fun j hj => by
  refine ⟨?_, by rw [frozen_setCells]; exact (h j hj).2⟩
  rw [World.rangeAt_setCells_same w b o vs h j vs[j] (by simp [hj])]; rfl

def fiveL (l0 l1 l2 l3 l4 : Int) : List Value := [.int .u64 l0, .int .u64 l1, .int .u64 l2, .int .u64 l3, .int .u64 l4]

theorem R5.range {w : World} {b o : Nat} {l0 l1 l2 l3 l4 : Int} (h : R5 w b o l0 l1 l2 l3 l4) : w.rangeAt b o (fiveL l0 l1 l2 l3 l4) := by
  intro j v hv
  obtain ⟨c0, c1, c2, c3, c4⟩ := h
  have hj : j < 5 := by simpa [fiveL] using (List.getElem?_eq_some_iff.1 hv).1
  have hj' : j = 0 ∨ j = 1 ∨ j = 2 ∨ j = 3 ∨ j = 4 := by omega
  rcases hj' with rfl | rfl | rfl | rfl | rfl <;> (simp [fiveL] at hv; subst hv; assumption)

theorem C5.there {w : World} {b o : Nat} {l0 l1 l2 l3 l4 : Int} (h : C5 w b o l0 l1 l2 l3 l4) : w.there b o 5 := by
  intro j hj
  obtain ⟨c0, c1, c2, c3, c4, f0, f1, f2, f3, f4⟩ := h
  have hj' : j = 0 ∨ j = 1 ∨ j = 2 ∨ j = 3 ∨ j = 4 := by omega
  rcases hj' with rfl | rfl | rfl | rfl | rfl
  · exact ⟨by rw [Nat.add_zero, c0]; rfl, f0⟩
  · exact ⟨by rw [c1]; rfl, f1⟩
  · exact ⟨by rw [c2]; rfl, f2⟩
  · exact ⟨by rw [c3]; rfl, f3⟩
  · exact ⟨by rw [c4]; rfl, f4⟩

theorem rangeAt_append {w : World} {b o : Nat} {cs ds : List Value} : w.rangeAt b o (cs ++ ds) ↔ w.rangeAt b o cs ∧ w.rangeAt b (o + cs.length) ds := by
  constructor
  · intro h
    refine ⟨fun j v hv => h j v ?_, fun j v hv => ?_⟩
    · rw [List.getElem?_append_left (List.getElem?_eq_some_iff.1 hv).1]; exact hv
    · rw [Nat.add_assoc]; exact h _ v (by rw [List.getElem?_append_right (by omega)]; rw [← hv]; congr 1; omega)
  · rintro ⟨h, k⟩ j v hv
    by_cases hj : j < cs.length
    · exact h j v (by rw [List.getElem?_append_left hj] at hv; exact hv)
    · have := k (j - cs.length) v (by rw [List.getElem?_append_right (by omega)] at hv; exact hv)
      rw [Nat.add_assoc, show cs.length + (j - cs.length) = j by omega] at this; exact this

theorem there_part {w : World} {b o n : Nat} (h : w.there b o n) (k m : Nat) (hk : k + m ≤ n) : w.there b (o + k) m := fun j hj => by rw [Nat.add_assoc]; exact h (k + j) (by omega)
theorem there_join {w : World} {b o n m : Nat} (h : w.there b o n) (k : w.there b (o + n) m) : w.there b o (n + m) := fun j hj => by
  by_cases hjn : j < n
  · exact h j hjn
  · have := k (j - n) (by omega); rw [Nat.add_assoc, show n + (j - n) = j by omega] at this; exact this

theorem C5.of_range {w : World} {b o : Nat} {l0 l1 l2 l3 l4 : Int} (h : w.rangeAt b o (fiveL l0 l1 l2 l3 l4)) (t : w.there b o 5) : C5 w b o l0 l1 l2 l3 l4 :=
  ⟨h 0 _ rfl, h 1 _ rfl, h 2 _ rfl, h 3 _ rfl, h 4 _ rfl, (t 0 (by omega)).2, (t 1 (by omega)).2, (t 2 (by omega)).2, (t 3 (by omega)).2, (t 4 (by omega)).2⟩

/-- the cells tell the element -/
def ElL (cs : List Value) (x : F) : Prop :=
  ∃ l0 l1 l2 l3 l4 : Int, cs = fiveL l0 l1 l2 l3 l4 ∧ Lim l0 ∧ Lim l1 ∧ Lim l2 ∧ Lim l3 ∧ Lim l4 ∧ z (lv l0 l1 l2 l3 l4) = x
theorem El.lays {w : World} {b o : Nat} {x : F} (h : El w b o x) : ∃ cs, ElL cs x ∧ w.rangeAt b o cs ∧ w.there b o 5 := by
  obtain ⟨l0, l1, l2, l3, l4, h, r⟩ := h
  exact ⟨_, ⟨l0, l1, l2, l3, l4, rfl, r⟩, h.r.range, h.there⟩
theorem ElL.el {w : World} {b o : Nat} {x : F} {cs : List Value} (h : ElL cs x) (hr : w.rangeAt b o cs) (ht : w.there b o 5) : El w b o x := by
  obtain ⟨l0, l1, l2, l3, l4, rfl, r⟩ := h
  exact ⟨l0, l1, l2, l3, l4, C5.of_range hr ht, r⟩
theorem ElL.len {x : F} {cs : List Value} (h : ElL cs x) : cs.length = 5 := by obtain ⟨_, _, _, _, _, rfl, _⟩ := h; rfl
theorem ElL.one {x : F} {cs : List Value} (h : ElL cs x) : ∀ v ∈ cs, v.oneCell' = true := by
  obtain ⟨_, _, _, _, _, rfl, _⟩ := h
  intro v hv
  simp [fiveL] at hv
  rcases hv with rfl | rfl | rfl | rfl | rfl <;> rfl

/-- the cells tell the point -/
def PtL (cs : List Value) (X Y Z T : F) : Prop := ∃ c0 c1 c2 c3, cs = c0 ++ (c1 ++ (c2 ++ c3)) ∧ ElL c0 X ∧ ElL c1 Y ∧ ElL c2 Z ∧ ElL c3 T
theorem PtL.len {X Y Z T : F} {cs : List Value} (h : PtL cs X Y Z T) : cs.length = 20 := by
  obtain ⟨c0, c1, c2, c3, rfl, h0, h1, h2, h3⟩ := h
  simp [h0.len, h1.len, h2.len, h3.len]
theorem PtL.one {X Y Z T : F} {cs : List Value} (h : PtL cs X Y Z T) : ∀ v ∈ cs, v.oneCell' = true := by
  obtain ⟨c0, c1, c2, c3, rfl, h0, h1, h2, h3⟩ := h
  intro v hv
  simp only [List.mem_append] at hv
  rcases hv with h | h | h | h
  · exact h0.one v h
  · exact h1.one v h
  · exact h2.one v h
  · exact h3.one v h
theorem Pt.lays {w : World} {b o : Nat} {X Y Z T : F} (h : Pt w b o X Y Z T) : ∃ cs, PtL cs X Y Z T ∧ w.rangeAt b o cs ∧ w.there b o 20 := by
  obtain ⟨h0, h1, h2, h3⟩ := h
  obtain ⟨c0, l0, r0, t0⟩ := h0.lays
  obtain ⟨c1, l1, r1, t1⟩ := h1.lays
  obtain ⟨c2, l2, r2, t2⟩ := h2.lays
  obtain ⟨c3, l3, r3, t3⟩ := h3.lays
  refine ⟨_, ⟨c0, c1, c2, c3, rfl, l0, l1, l2, l3⟩, ?_, ?_⟩
  · rw [rangeAt_append, rangeAt_append, rangeAt_append, l0.len, l1.len, l2.len, Nat.add_assoc, Nat.add_assoc]
    exact ⟨r0, r1, r2, r3⟩
  · exact there_join (n := 5) t0 (there_join (n := 5) (m := 10) t1 (there_join (n := 5) (m := 5) (by rw [Nat.add_assoc]; exact t2) (by rw [Nat.add_assoc, Nat.add_assoc]; exact t3)))
theorem PtL.pt {w : World} {b o : Nat} {X Y Z T : F} {cs : List Value} (h : PtL cs X Y Z T) (hr : w.rangeAt b o cs) (ht : w.there b o 20) : Pt w b o X Y Z T := by
  obtain ⟨c0, c1, c2, c3, rfl, l0, l1, l2, l3⟩ := h
  rw [rangeAt_append, rangeAt_append, rangeAt_append, l0.len, l1.len, l2.len, Nat.add_assoc, Nat.add_assoc] at hr
  exact ⟨l0.el hr.1 (there_part ht 0 5 (by omega)), l1.el hr.2.1 (there_part ht 5 5 (by omega)), l2.el hr.2.2.1 (there_part ht 10 5 (by omega)), l3.el hr.2.2.2 (there_part ht 15 5 (by omega))⟩

theorem row42 : (Tryz.prog.underlying 42).map TypeDesc.isRow = some true := by kernel_rfl
theorem size42 : (Tryz.prog.info? 42).map (·.size) = some 20 := by kernel_rfl

set_option maxRecDepth 100000 in
set_option maxHeartbeats 4000000 in
theorem ptCopy_c (vb vo pb po : Nat) (V0 V1 V2 V3 X Y Z T : F) (w : World) (Hv : Pt w vb vo V0 V1 V2 V3) (Hp : Pt w pb po X Y Z T) :
    Calls Tryz.prog 49 #[.pointer (some ⟨vb, vo, none⟩), .pointer (some ⟨pb, po, none⟩)] w fun e w' => e = .returned (.pointer (some ⟨vb, vo, none⟩)) ∧ Upd w w' (Rg vb vo 20) ∧ Pt w' vb vo X Y Z T := by
  obtain ⟨cs, hcs, hr, _⟩ := Hp.lays
  obtain ⟨_, _, _, ht⟩ := Hv.lays
  obtain ⟨d, hu, hd⟩ := isRow_of row42
  have hl := hcs.len
  have hi : (Tryz.prog.info? 42).map (·.size) = some cs.length := by rw [hl]; exact size42
  have hi' : (Tryz.prog.info? 42).map (·.size) = some cs.toArray.size := by rw [List.size_toArray, hl]; exact size42
  have ht' : w.there vb vo cs.toArray.size := by rw [List.size_toArray, hl]; exact ht
  have ht2 : w.there vb vo cs.length := by rw [hl]; exact ht
  have fin : Upd w (w.setCells vb vo cs) (Rg vb vo 20) ∧ Pt (w.setCells vb vo cs) vb vo X Y Z T :=
    ⟨(Upd.refl w _).cells vb cs vo (fun i hi _ => ⟨rfl, by omega, by omega⟩), hcs.pt (World.rangeAt_setCells_same w vb vo cs ht2) (by have := there_setCells ht2; rw [hl] at this; exact this)⟩
  have Fin := Lib.hid fin
  clear fin
  go_enter Tryz.func49, Tryz.ntmps49
  go_wp2_with (first
    | (refine wpList_load_mid rfl 42 _ rfl pb po (by rfl) cs d hr hu hd hi ?_)
    | (refine wpList_store_mid rfl 42 _ _ rfl vb vo cs.toArray (by rfl) (by rfl) ht' hi' (all_oneCell_toArray hcs.one) ?_))
  go_ret
  exact ⟨rfl, Fin.out⟩

end Go.Proofs.YtkibnongmkhbaaaGreatDoor
end

section
open Go Go.RowKit
namespace Go.Proofs.YtkibnongmkhbaaaGreatDoor
open Ed

def oneL : List Int := [1, 0, 0, 0, 0, 0, 0, 0, 0, 0, 0, 0, 0, 0, 0, 0, 0, 0, 0, 0, 0, 0, 0, 0, 0, 0, 0, 0, 0, 0, 0, 0]
theorem oneL_byte (i : Nat) : Byte (oneL.getD i 0) := by
  by_cases h : i = 0
  · subst h; exact ⟨by decide, by decide⟩
  · have : oneL.getD i 0 = 0 := by
      rw [show oneL = 1 :: List.replicate 31 0 from rfl]
      obtain ⟨j, rfl⟩ := Nat.exists_eq_succ_of_ne_zero h
      rw [List.getD_eq_getElem?_getD, Nat.succ_eq_add_one, List.getElem?_cons_succ, List.getElem?_replicate]
      split <;> rfl
    rw [this]; exact ⟨by decide, by decide⟩
theorem one_yOf : yOf (fun i => oneL.getD i 0) = 1 := by
  unfold yOf
  rw [show le (fun i => oneL.getD i 0) 0 32 = 1 by decide]
  decide +kernel
theorem sr_zero (v : F) : srR 0 v = 0 := by unfold srR; grind
theorem sc_zero (v : F) : srC 0 v = 0 := by unfold srC; rw [sr_zero]; grind
theorem uOf_one : uOf 1 = 0 := by unfold uOf; grind
theorem one_ok : okOf 1 := by unfold okOf; rw [uOf_one, sc_zero]; exact .inl rfl
theorem absF_zero : absF 0 = 0 := by decide +kernel
theorem one_x (s : Int) : xxOf s 1 = 0 := by
  have h : xOf 1 = 0 := by
    unfold xOf
    rw [uOf_one, sr_zero, sc_zero, show (0 : F) * I = 0 by grind]
    simp only [ite_self]
    exact absF_zero
  unfold xxOf
  rw [h, show -(0 : F) = 0 by grind, ite_self]

end Go.Proofs.YtkibnongmkhbaaaGreatDoor
end

section
open Go Go.RowKit
namespace Go.Proofs.YtkibnongmkhbaaaGreatDoor
open Ed

set_option maxRecDepth 100000 in
set_option maxHeartbeats 4000000 in
theorem ident_c (B : Nat) (w : World) (hG : Glob B w) (hB : B ≤ w.heap.size) :
    Calls Tryz.prog 68 #[] w fun e w' => e = .returned (.pointer (some ⟨w.heap.size, 0, none⟩)) ∧ Upd w w' (fun _ _ => False) ∧ Pt w' w.heap.size 0 0 1 1 0 := by
  have A1 := (Upd.refl (w.alloc (Z20 42)) (fun _ _ => False)).alloc (.cells (oneL.map (Value.int .u8)).toArray 5)
  have A0 := ((Upd.refl w (fun _ _ => False)).alloc (Z20 42)).alloc (.cells (oneL.map (Value.int .u8)).toArray 5)
  have hG1 := hG.keep A0 (fun _ _ _ h => h)
  have hP := (Pt.zeros w 42).keep A1 (fun _ _ h => h)
  have hBy := By.lit oneL (w.alloc (Z20 42)) 5 32 (by decide)
  simp only [World.size_alloc] at hBy
  go_enter Tryz.func68, Tryz.ntmps68
  go_wp2_with fail
  refine (ptSet_ok B w.heap.size 0 (w.heap.size + 1) 0 32 0 0 0 0 (fun i => oneL.getD i 0) oneL_byte _ hG1 hB hP hBy (by omega) (by omega) (by rw [one_yOf]; exact one_ok)).mono ?_
  rintro e w1 ⟨rfl, hU, hE⟩
  rw [one_yOf, one_x, show (0 : F) * 1 = 0 by grind] at hE
  go_wp2
  go_ret
  exact ⟨rfl, A0.trans hU (fun b o hb h => absurd h.1 (by omega)), hE⟩

set_option maxRecDepth 100000 in
set_option maxHeartbeats 4000000 in
theorem newId_c (B : Nat) (w : World) (hG : Glob B w) (hB : B ≤ w.heap.size) :
    Calls Tryz.prog 25 #[] w fun e w' => e = .returned (.pointer (some ⟨w.heap.size, 0, none⟩)) ∧ Upd w w' (fun _ _ => False) ∧ Pt w' w.heap.size 0 0 1 1 0 := by
  have A0 := ((Upd.refl w (fun _ _ => False)).alloc (Z20 42))
  have hG1 := hG.keep A0 (fun _ _ _ h => h)
  have hP := (Pt.zeros w 42)
  go_enter Tryz.func25, Tryz.ntmps25
  go_wp2_with fail
  refine (ident_c B _ hG1 (by simp; omega)).mono ?_
  rintro e w1 ⟨rfl, hU, hE⟩
  have sz := hU.size
  simp only [World.size_alloc] at hE sz
  go_wp2_with fail
  refine (ptCopy_c w.heap.size 0 (w.heap.size + 1) 0 0 0 0 0 0 1 1 0 _ (hP.keep hU (fun _ _ h => h)) hE).mono ?_
  rintro e w2 ⟨rfl, hU2, hE2⟩
  go_wp2
  go_ret
  exact ⟨rfl, (A0.trans hU (fun _ _ _ h => h)).trans hU2 (fun b o hb h => absurd h.1 (by omega)), hE2⟩

end Go.Proofs.YtkibnongmkhbaaaGreatDoor
end

section
open Go Go.RowKit
namespace Go.Proofs.YtkibnongmkhbaaaGreatDoor
open Ed

/-- an array of 32 bytes as a value -/
def Arr (bs : Nat → Int) : Array Value := ((List.range 32).map fun i => Value.int .u8 (bs i)).toArray

theorem By.arr (bs : Nat → Int) (w : World) (t : TypeId) : By (w.alloc (.cells (Arr bs) t)) w.heap.size 0 32 bs := by
  have h := By.lit ((List.range 32).map bs) w t 32 (by simp)
  rw [List.map_map] at h
  intro i hi
  have := h i hi
  simp only [List.getD_eq_getElem?_getD, List.getElem?_map, List.getElem?_range hi] at this
  exact this

set_option maxRecDepth 100000 in
set_option maxHeartbeats 4000000 in
theorem pointOf_ok (B : Nat) (bs : Nat → Int) (hb : ∀ i, Byte (bs i)) (w : World) (hG : Glob B w) (hB : B ≤ w.heap.size) (hok : okOf (yOf bs)) :
    Calls Tryz.prog 14 #[.agg (Arr bs)] w fun e w' => e = .returned (.tuple #[.pointer (some ⟨w.heap.size + 1, 0, none⟩), .bool true]) ∧ Upd w w' (fun _ _ => False) ∧ Pt w' (w.heap.size + 1) 0 (xxOf (bs 31 / 128) (yOf bs)) (yOf bs) 1 (xxOf (bs 31 / 128) (yOf bs) * yOf bs) := by
  have A0 := ((Upd.refl w (fun _ _ => False)).alloc (.cells (Arr bs) 22)).drew
  have hG1 := hG.keep A0 (fun _ _ _ h => h)
  have hBy := (By.arr bs w 22).keep ((Upd.refl _ (fun _ _ => False)).drew) (fun _ _ h => h)
  go_enter Tryz.func14, Tryz.ntmps14
  go_wp2_with fail
  go_region_held3 (fun _ => True) (trivial) (first
    | ((try go_simp); go_at_call 25; refine (newId_c B _ hG1 (by simp; omega)).mono ?_; rintro e w1 ⟨rfl, hU, hE⟩; have sz := hU.size; simp only [World.size_alloc, World.size_drew] at hE sz)
    | ((try go_simp); go_at_call 24; refine (ptSet_ok B (w.heap.size + 1) 0 w.heap.size 0 32 0 1 1 0 bs hb _ (hG1.keep hU (fun _ _ _ h => h)) (by omega) hE (hBy.keep hU (fun _ _ h => h)) (by omega) (by omega) hok).mono ?_; rintro e w2 ⟨rfl, hU2, hE2⟩))
  go_wp2
  refine still_all (by kernel_rfl) (by kernel_rfl) ?_
  repeat still_step
  refine wpStill_nil ?_
  go_wp2
  go_ret2
  have HA := ((A0.trans hU (fun _ _ _ h => h)).trans hU2 (fun b o hb h => absurd h.1 (by omega)))
  exact ⟨rfl, HA.drew, hE2.keep (Upd.refl _ (fun _ _ => False)).drew (fun _ _ h => h)⟩

set_option maxRecDepth 100000 in
set_option maxHeartbeats 4000000 in
theorem pointOf_no (B : Nat) (bs : Nat → Int) (hb : ∀ i, Byte (bs i)) (w : World) (hG : Glob B w) (hB : B ≤ w.heap.size) (hno : ¬ okOf (yOf bs)) :
    Calls Tryz.prog 14 #[.agg (Arr bs)] w fun e w' => e = .returned (.tuple #[.pointer none, .bool false]) ∧ Upd w w' (fun _ _ => False) := by
  have A0 := ((Upd.refl w (fun _ _ => False)).alloc (.cells (Arr bs) 22)).drew
  have hG1 := hG.keep A0 (fun _ _ _ h => h)
  have hBy := (By.arr bs w 22).keep ((Upd.refl _ (fun _ _ => False)).drew) (fun _ _ h => h)
  go_enter Tryz.func14, Tryz.ntmps14
  go_wp2_with fail
  go_region_held3 (fun _ => True) (trivial) (first
    | ((try go_simp); go_at_call 25; refine (newId_c B _ hG1 (by simp; omega)).mono ?_; rintro e w1 ⟨rfl, hU, hE⟩; have sz := hU.size; simp only [World.size_alloc, World.size_drew] at hE sz)
    | ((try go_simp); go_at_call 24; refine (ptSet_no B (w.heap.size + 1) 0 w.heap.size 0 32 0 1 1 0 bs hb _ (hG1.keep hU (fun _ _ _ h => h)) (by omega) hE (hBy.keep hU (fun _ _ h => h)) (by omega) (by omega) hno).mono ?_; rintro e w2 ⟨t, v, rfl, hU2⟩))
  go_wp2
  refine still_all (by kernel_rfl) (by kernel_rfl) ?_
  repeat still_step
  refine wpStill_nil ?_
  go_wp2
  go_ret2
  have HA := ((A0.trans hU (fun _ _ _ h => h)).trans hU2 (fun b o hb h => absurd h.1 (by omega)))
  exact ⟨rfl, HA.drew⟩

end Go.Proofs.YtkibnongmkhbaaaGreatDoor
end
