/- Part of the proof that laws.FnGroup returns true for all 32 bytes p, q and x: multiples of a point, the table look-up.
   Conditions: those that each theorem states. -/
import Derived.Deep.RegionHeld3
import Derived.IntWalk
import Derived.Test.YtkibnongmkhbaaaGreatDoorAN

section
open Go Go.RowKit
namespace Go.Proofs.YtkibnongmkhbaaaGreatDoor
open Ed

/-- n times p -/
def smul : Nat → F × F → F × F
  | 0, _ => pt0
  | n + 1, p => add p (smul n p)
theorem on_smul {p : F × F} (h : On p) : ∀ n, On (smul n p)
  | 0 => on_pt0
  | n + 1 => on_add h (on_smul h n)

def Zs : List Value := List.replicate 20 (.int .u64 0)
theorem Zs_pt : PtL Zs 0 0 0 0 := ⟨fiveL 0 0 0 0 0, fiveL 0 0 0 0 0, fiveL 0 0 0 0 0, fiveL 0 0 0 0 0, rfl, ⟨0, 0, 0, 0, 0, rfl, lim0, lim0, lim0, lim0, lim0, lv0⟩, ⟨0, 0, 0, 0, 0, rfl, lim0, lim0, lim0, lim0, lim0, lv0⟩, ⟨0, 0, 0, 0, 0, rfl, lim0, lim0, lim0, lim0, lim0, lv0⟩, ⟨0, 0, 0, 0, 0, rfl, lim0, lim0, lim0, lim0, lim0, lv0⟩⟩
theorem An.there {w : World} {b o : Nat} (h : An w b o) : w.there b o 20 := by obtain ⟨_, _, _, _, h⟩ := h; obtain ⟨_, _, _, h⟩ := h.lays; exact h

theorem wpList_storeZ {ops : Array Oper} {rest : List Oper} {op : Oper} {a : Act} {w : World} {Q : Exit → Act → World → Prop} (hgd : op.guard = none) (ty : TypeId) (hsz : (Tryz.prog.info? ty).map (·.size) = some 20) (x y : Operand) (ho : op.op = .store ty x y)
    (b o : Nat) (hx : a.eval x = .pointer (some ⟨b, o, none⟩)) (hy : a.eval y = .agg Zs.toArray) (hW : An w b o)
    (h : ∀ w', Upd w w' (Rg b o 20) → An w' b o → wpList Tryz.prog ops Q rest (a.put op.dst undef) w') : wpList Tryz.prog ops Q (op :: rest) a w := by
  have ht : w.there b o Zs.length := hW.there
  refine wpList_store_mid hgd ty x y ho b o Zs.toArray hx hy ht hsz (all_oneCell_toArray Zs_pt.one) ?_
  exact h (w.setCells b o Zs) ((Upd.refl w _).cells b Zs o (fun i hi _ => ⟨rfl, by omega, by have : Zs.length = 20 := rfl; omega⟩)) ⟨_, _, _, _, Zs_pt.pt (World.rangeAt_setCells_same w b o Zs ht) (there_setCells ht)⟩

theorem size73 : (Tryz.prog.info? 73).map (·.size) = some 20 := by kernel_rfl

theorem byteEq_c (x y : Int) (w : World) : Calls Tryz.prog 80 #[.int .u8 x, .int .u8 y] w fun e w' => e = .returned (.int .i64 (if x = y then 1 else 0)) ∧ w' = w := by
  by_cases h : x = y
  · subst h
    rw [if_pos rfl]
    go_enter Tryz.func80, Tryz.ntmps80
    go_wp2
    go_ret
    exact ⟨rfl, rfl⟩
  · rw [if_neg h]
    have h1 : (x == y) = false := by simp [h]
    go_enter Tryz.func80, Tryz.ntmps80
    go_wp2
    go_ret
    exact ⟨rfl, rfl⟩

def TabRel (w : World) (tb xb yb : Nat) (p : F × F) (i : Value) (wr : World) : Prop :=
  ∃ k : Nat, k ≤ 7 ∧ i = .int .i64 k ∧ Upd w wr (Rg tb 0 160) ∧ An wr xb 0 ∧ An wr yb 0 ∧ (∀ j, j < 8 → An wr tb (j * 20)) ∧ (∀ j, j ≤ k → CaA wr tb (j * 20) (smul (j + 1) p))

set_option maxRecDepth 100000 in
set_option maxHeartbeats 8000000 in
theorem table_c (tb pb po : Nat) (p : F × F) (hp : On p) (w : World) (Ht : ∀ j, j < 8 → An w tb (j * 20)) (Hp : PtA w pb po p) (hne : tb ≠ pb) :
    Calls Tryz.prog 46 #[.pointer (some ⟨tb, 0, none⟩), .pointer (some ⟨pb, po, none⟩)] w fun e w' => e = .returned (.tuple #[]) ∧ Upd w w' (Rg tb 0 160) ∧ ∀ j, j < 8 → CaA w' tb (j * 20) (smul (j + 1) p) := by
  have lp := Hp.an.lt
  have lt := (Ht 0 (by decide)).lt
  go_enter Tryz.func46, Tryz.ntmps46
  go_wp2_with fail
  refine (fromP3_a tb 0 pb po p _ (Ht 0 (by decide)) Hp hne).mono ?_
  rintro e w1 ⟨rfl, hU, hC⟩
  have s1 := hU.size
  have z1 := An.zeros w1 42
  go_wp2_with (first
    | (refine wpList_storeZ rfl 42 size42 _ _ rfl w1.heap.size 0 (by rfl) (by rfl) z1 ?_; intro w2 hU2 z2; have s2 := hU2.size; simp only [World.size_alloc] at s2; have z3 := An.zeros w2 73)
    | (refine wpList_storeZ rfl 73 size73 _ _ rfl w2.heap.size 0 (by rfl) (by rfl) z3 ?_; intro w3 hU3 z4; have s3 := hU3.size; simp only [World.size_alloc] at s3))
  have smul1 : smul 1 p = p := add_pt0 p
  have hA : Upd w w3 (Rg tb 0 160) := (((hU.wide (fun b o _ h => by obtain ⟨h1, h2, h3⟩ := h; exact ⟨h1, by omega, by omega⟩)).alloc (Z20 42)).trans hU2 (fun b o hb h => absurd h.1 (by omega))).alloc (Z20 73) |>.trans hU3 (fun b o hb h => absurd h.1 (by omega))
  have K : Upd w1 w3 (fun _ _ => False) := ((((Upd.refl w1 (fun _ _ => False)).alloc (Z20 42)).trans hU2 (fun b o hb h => absurd h.1 (by omega))).alloc (Z20 73)).trans hU3 (fun b o hb h => absurd h.1 (by omega))
  have hx3 : An w3 w1.heap.size 0 := (z2.keep ((Upd.refl w2 (fun _ _ => False)).alloc (Z20 73)) (fun _ _ h => h)).keep hU3 (fun i hi h => absurd h.1 (by omega))
  have HT : ∀ j, j < 8 → An w3 tb (j * 20) := fun j hj => by
    by_cases h0 : j = 0
    · subst h0; exact hC.an.keep K (fun _ _ h => h)
    · exact ((Ht j hj).keep hU (fun i hi h => by obtain ⟨h1, h2, h3⟩ := h; omega)).keep K (fun _ _ h => h)
  have HC : CaA w3 tb (0 * 20) (smul (0 + 1) p) := by
    rw [smul1]; exact hC.keep K (fun _ _ h => h)
  have Hp3 := (Hp.keep hA (fun i hi h => by obtain ⟨h1, h2, h3⟩ := h; omega))
  clear hU2 hU3 z1 z2 z3 K hC Ht hU
  have hst : ∀ j, j ≤ 0 → CaA w3 tb (j * 20) (smul (j + 1) p) := by
    intro j hj
    have h0 : j = 0 := by omega
    subst h0
    exact HC
  go_loopw [6] (fun i wr => TabRel w tb w1.heap.size w2.heap.size p i wr) (fun i _ => 7 - (intOf i).toNat)
  case atStart => exact ⟨0, by omega, rfl, hA, hx3, z4, HT, hst⟩
  case round =>
    obtain ⟨k, hk, rfl, hU, gx, gy, gT, gC⟩ := hrel
    have sU := hU.size
    by_cases hlt : k = 7
    · subst hlt
      go_wp2
      go_end0
      exact ⟨rfl, hU, fun j hj => gC j (by omega)⟩
    · have hk7 : (k : Int) < 7 := by omega
      have hk0 : (0 : Int) ≤ (k : Int) := by omega
      have c1 := gC k (by omega)
      have c2 := gT (k + 1) (by omega)
      go_wp2_with fail
      have i1 : IntKind.i64.wrap ((k : Int) + 1) = (k : Int) + 1 := IntWalk.i64_in _ (by omega)
      have i2 : (0 : Int) ≤ (k : Int) + 1 := by omega
      have i3 : (k : Int) + 1 < 8 := by omega
      have i4 : ((k : Int) + 1).toNat = k + 1 := by omega
      have i5 : (k : Int) < 8 := by omega
      go_region_held3 (fun _ => True) (trivial) (first
        | ((try go_simp); go_at_call 30; refine (p1Add_a w2.heap.size 0 pb po tb (k * 20) p _ hp (on_smul hp (k + 1)) _ (gy.keep (Upd.refl wr (fun _ _ => False)).drew (fun _ _ h => h)) ((Hp.keep hU (fun i hi h => by obtain ⟨h1, h2, h3⟩ := h; omega)).keep (Upd.refl wr (fun _ _ => False)).drew (fun _ _ h => h)) (c1.keep (Upd.refl wr (fun _ _ => False)).drew (fun _ _ h => h)) (by omega) (by omega)).mono ?_; rintro e w4 ⟨rfl, hU4, h4⟩; have s4 := hU4.size; simp only [World.size_drew] at s4; have gx4 := (gx.keep (Upd.refl wr (fun _ _ => False)).drew (fun _ _ h => h)).keep hU4 (fun i hi h => absurd h.1 (by omega)); have c4 := (c2.keep (Upd.refl wr (fun _ _ => False)).drew (fun _ _ h => h)).keep hU4 (fun i hi h => absurd h.1 (by omega)))
        | ((try go_simp); go_at_call 31; refine (fromP1_a w1.heap.size 0 w2.heap.size 0 _ _ gx4 h4 (by omega)).mono ?_; rintro e w5 ⟨rfl, hU5, h5⟩; have s5 := hU5.size; have c5 := c4.keep hU5 (fun i hi h => absurd h.1 (by omega)))
        | ((try go_simp); go_at_call 29; refine (fromP3_a tb ((k + 1) * 20) w1.heap.size 0 _ _ c5 h5 (by omega)).mono ?_; rintro e w6 ⟨rfl, hU6, h6⟩))
      clear i1 i2 i3 i4
      go_wp2
      have U5 : Upd wr w5 (fun b _ => b = w1.heap.size ∨ b = w2.heap.size) := ((((Upd.refl wr _).drew).trans hU4 (fun b o _ h => .inr h.1))).trans hU5 (fun b o _ h => .inl h.1)
      have U6 : Upd w w6 (Rg tb 0 160) := (hU.trans U5 (fun b o hb h => by omega)).trans hU6 (fun b o _ h => by obtain ⟨h1, h2, h3⟩ := h; exact ⟨h1, by omega, by omega⟩)
      have y5 : An w5 w2.heap.size 0 := h4.an.keep hU5 (fun i hi h => by have := h.1; omega)
      refine ⟨⟨k + 1, by omega, by go_num, U6, h5.an.keep hU6 (fun i hi h => by have := h.1; omega), y5.keep hU6 (fun i hi h => by have := h.1; omega), ?_, ?_⟩, by simp [intOf]; omega⟩
      · intro j hj
        by_cases h0 : j = k + 1
        · subst h0; exact h6.an
        · exact ((gT j hj).keep U5 (fun i hi h => by omega)).keep hU6 (fun i hi h => by obtain ⟨h1, h2, h3⟩ := h; omega)
      · intro j hj
        by_cases h0 : j = k + 1
        · subst h0; exact h6
        · exact ((gC j (by omega)).keep U5 (fun i hi h => by omega)).keep hU6 (fun i hi h => by obtain ⟨h1, h2, h3⟩ := h; omega)

end Go.Proofs.YtkibnongmkhbaaaGreatDoor
end

section
open Go Go.RowKit
namespace Go.Proofs.YtkibnongmkhbaaaGreatDoor
open Ed

/-- d times p -/
def zmul (d : Int) (p : F × F) : F × F := if d < 0 then Ed.neg (smul d.natAbs p) else smul d.natAbs p

def SelRel (w : World) (db od : Nat) (n : Nat) (p : F × F) (i : Value) (wr : World) : Prop :=
  ∃ k : Nat, k ≤ 8 ∧ i = .int .i64 ((k : Int) + 1) ∧ Upd w wr (Rg db od 20) ∧ CaA wr db od (if n ≤ k then smul n p else pt0)

theorem abs_bits (d : Int) (hd : -8 ≤ d ∧ d ≤ 8) : bits .xor .i8 (d + d / 128) (d / 128) % 256 = (d.natAbs : Int) ∧ bits .and .i8 (d / 128) 1 = if d < 0 then 1 else 0 := by
  have h : ∀ j : Fin 17, bits .xor .i8 (((j.val : Int) - 8) + ((j.val : Int) - 8) / 128) (((j.val : Int) - 8) / 128) % 256 = (((j.val : Int) - 8).natAbs : Int) ∧ bits .and .i8 (((j.val : Int) - 8) / 128) 1 = if ((j.val : Int) - 8) < 0 then 1 else 0 := by decide +kernel
  have := h ⟨(d + 8).toNat, by omega⟩
  have e : ((((d + 8).toNat : Nat) : Int) - 8) = d := by omega
  simp only [e] at this
  exact this

set_option maxRecDepth 100000 in
set_option maxHeartbeats 8000000 in
theorem selInto_c (B tb db od : Nat) (p : F × F) (d : Int) (hd : -8 ≤ d ∧ d ≤ 8) (w : World) (hG : Glob B w) (hB : B ≤ db) (Ht : ∀ j, j < 8 → CaA w tb (j * 20) (smul (j + 1) p)) (Hd : An w db od) (hne : db ≠ tb) :
    Calls Tryz.prog 48 #[.pointer (some ⟨tb, 0, none⟩), .pointer (some ⟨db, od, none⟩), .int .i8 d] w fun e w' => e = .returned (.tuple #[]) ∧ Upd w w' (Rg db od 20) ∧ CaA w' db od (zmul d p) := by
  go_enter Tryz.func48, Tryz.ntmps48
  go_wp2_with fail
  obtain ⟨hx, hand⟩ := abs_bits d hd
  rw [hx]
  obtain ⟨n, hn⟩ : ∃ n, n = d.natAbs := ⟨_, rfl⟩
  have n8 : n ≤ 8 := by omega
  rw [← hn]
  have HX := Lib.hid hx
  have HN := Lib.hid hn
  clear hx hn
  refine (cZero_a B db od w hG hB Hd).mono ?_
  rintro e w1 ⟨rfl, hU, hC⟩
  have s1 := hU.size
  have lt := (Ht 0 (by decide)).an.lt
  have ld := Hd.lt
  have HT : ∀ j, j < 8 → CaA w1 tb (j * 20) (smul (j + 1) p) := fun j hj => (Ht j hj).keep hU (fun i hi h => by obtain ⟨h1, h2, h3⟩ := h; omega)
  go_wp2_with fail
  go_loopw [8] (fun i wr => SelRel w db od n p i wr) (fun i _ => 9 - (intOf i).toNat)
  case atStart => exact ⟨0, by omega, rfl, hU, by
    by_cases h0 : n = 0
    · subst h0; rw [if_pos (by omega)]; exact hC
    · rw [if_neg (by omega)]; exact hC⟩
  case round =>
    obtain ⟨k, hk, rfl, hU, hC⟩ := hrel
    by_cases hlt : k = 8
    · subst hlt
      rw [if_pos (by omega)] at hC
      by_cases hneg : d < 0
      · rw [if_pos hneg] at hand
        go_wp2_with fail
        refine (cNeg_a 1 (.inr rfl) B db od _ wr (hG.keep hU (fun b o hb h => by have := h.1; omega)) hB hC).mono ?_
        rintro e w2 ⟨rfl, hU2, hC2⟩
        go_wp2
        go_end0
        replace hC2 : CaA w2 db od (Ed.neg (smul n p)) := by simpa using hC2
        refine ⟨rfl, hU.trans hU2 (fun _ _ _ h => h), ?_⟩
        unfold zmul
        rw [if_pos hneg, ← HN.out]
        exact hC2
      · rw [if_neg (by omega)] at hand
        go_wp2_with fail
        refine (cNeg_a 0 (.inl rfl) B db od _ wr (hG.keep hU (fun b o hb h => by have := h.1; omega)) hB hC).mono ?_
        rintro e w2 ⟨rfl, hU2, hC2⟩
        go_wp2
        go_end0
        replace hC2 : CaA w2 db od (smul n p) := by simpa using hC2
        refine ⟨rfl, hU.trans hU2 (fun _ _ _ h => h), ?_⟩
        unfold zmul
        rw [if_neg (by omega), ← HN.out]
        exact hC2
    · have hk8 : (k : Int) < 8 := by omega
      go_wp2_with fail
      refine (byteEq_c n ((k : Int) + 1) wr).mono ?_
      rintro e w2 ⟨rfl, hw2⟩
      subst hw2
      obtain ⟨c, ec⟩ : ∃ c : Int, c = if (n : Int) = (k : Int) + 1 then 1 else 0 := ⟨_, rfl⟩
      rw [← ec]
      have hc : c = 0 ∨ c = 1 := by rw [ec]; split <;> simp
      have hc1 : c = 1 ↔ n = k + 1 := by
        rw [ec]
        constructor
        · intro h; by_cases h1 : (n : Int) = (k : Int) + 1
          · omega
          · rw [if_neg h1] at h; omega
        · intro h; rw [if_pos (by omega)]
      clear ec
      have Hc := Lib.hid hc
      have Hc1 := Lib.hid hc1
      clear hc hc1
      have ht := (HT k (by omega))
      have sU := hU.size
      go_wp2_with fail
      refine (cSel_a c Hc.out db od tb (k * 20) (smul (k + 1) p) _ w2 hC ((Ht k (by omega)).keep hU (fun i hi h => by have := h.1; omega)) hne).mono ?_
      rintro e w3 ⟨rfl, hU3, hC3⟩
      go_wp2
      refine ⟨⟨k + 1, by omega, by go_num, hU.trans hU3 (fun _ _ _ h => h), ?_⟩, by simp [intOf]; omega⟩
      by_cases h1 : c = 1
      · have h2 := Hc1.out.1 h1
        rw [if_pos h1] at hC3
        rw [if_pos (by omega), h2]
        exact hC3
      · have h2 : ¬ n = k + 1 := fun h => h1 (Hc1.out.2 h)
        rw [if_neg h1] at hC3
        by_cases h3 : n ≤ k
        · rw [if_pos h3] at hC3
          rw [if_pos (by omega)]; exact hC3
        · rw [if_neg h3] at hC3
          rw [if_neg (by omega)]; exact hC3

end Go.Proofs.YtkibnongmkhbaaaGreatDoor
end
