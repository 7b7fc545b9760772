/- Part of the proof that laws.FnGroup returns true for all 32 bytes p, q and x: signedRadix16, Point.ScalarMult.
   Conditions: those that each theorem states. -/
import Derived.Deep.RegionHeld3
import Derived.IntWalk
import Derived.Test.YtkibnongmkhbaaaGreatDoorSF
import Derived.Test.YtkibnongmkhbaaaGreatDoorAO

section
open Go Go.RowKit
namespace Go.Proofs.YtkibnongmkhbaaaGreatDoor
open Ed

/-- digits to the base of 16, the lowest first -/
def le16 (d : Nat → Int) (o : Nat) : Nat → Int
  | 0 => 0
  | n + 1 => d o + 16 * le16 d (o + 1) n
def upd (d : Nat → Int) (i : Nat) (v : Int) (j : Nat) : Int := if j = i then v else d j
theorem upd_same (d : Nat → Int) (i : Nat) (v : Int) : upd d i v i = v := if_pos rfl
theorem upd_other (d : Nat → Int) {i j : Nat} (v : Int) (h : j ≠ i) : upd d i v j = d j := if_neg h

theorem le16_upd_out (d : Nat → Int) (i : Nat) (v : Int) (n : Nat) : ∀ o, i < o → le16 (upd d i v) o n = le16 d o n := by
  induction n with
  | zero => intro o _; rfl
  | succ n ih =>
    intro o h
    unfold le16
    rw [ih (o + 1) (by omega), upd_other d v (by omega)]
theorem le16_upd (d : Nat → Int) (v : Int) (n : Nat) : ∀ o k, k < n → le16 (upd d (o + k) v) o n = le16 d o n + 16 ^ k * (v - d (o + k)) := by
  induction n with
  | zero => intro o k h; omega
  | succ n ih =>
    intro o k h
    unfold le16
    cases k with
    | zero =>
      rw [Nat.add_zero, upd_same, le16_upd_out d o v n (o + 1) (by omega), Int.pow_zero]
      omega
    | succ k =>
      have := ih (o + 1) k (by omega)
      rw [show o + 1 + k = o + (k + 1) by omega] at this
      rw [this, upd_other d v (by omega), Int.pow_succ]
      generalize (16 : Int) ^ k = p
      grind
theorem le16_carry (d : Nat → Int) (c : Int) (k : Nat) (h : k + 1 < 64) :
    le16 (upd (upd d k (d k - 16 * c)) (k + 1) (d (k + 1) + c)) 0 64 = le16 d 0 64 := by
  have h1 := le16_upd (upd d k (d k - 16 * c)) (d (k + 1) + c) 64 0 (k + 1) h
  have h2 := le16_upd d (d k - 16 * c) 64 0 k (by omega)
  rw [Nat.zero_add] at h1 h2
  rw [h1, h2, upd_other d _ (by omega : k + 1 ≠ k), Int.pow_succ]
  generalize (16 : Int) ^ k = p
  grind

/-- digit j of n -/
def nib (n : Int) (j : Nat) : Int := n / 16 ^ j % 16
theorem le16_nib (n : Int) (d : Nat → Int) (m : Nat) : ∀ o, (∀ j, o ≤ j → j < o + m → d j = nib n j) → le16 d o m = n / 16 ^ o % 16 ^ m := by
  induction m with
  | zero => intro o _; unfold le16; rw [Int.pow_zero, Int.emod_one]
  | succ m ih =>
    intro o h
    unfold le16
    rw [ih (o + 1) (fun j h1 h2 => h j (by omega) (by omega)), h o (by omega) (by omega)]
    unfold nib
    have hp : (0 : Int) < 16 ^ o := Int.pow_pos (by decide)
    have e : n / 16 ^ (o + 1) = n / 16 ^ o / 16 := by rw [Int.pow_succ, Int.ediv_ediv_of_nonneg (Int.le_of_lt hp)]
    rw [e]
    generalize n / 16 ^ o = x
    have hq : (0 : Int) < 16 ^ m := Int.pow_pos (by decide)
    rw [show (16 : Int) ^ (m + 1) = 16 ^ m * 16 from Int.pow_succ _ _]
    generalize (16 : Int) ^ m = p at *
    have e1 := Int.mul_ediv_add_emod x 16
    have e2 := Int.mul_ediv_add_emod (x / 16) p
    have h1 := Int.emod_nonneg (x / 16) (Int.ne_of_gt hq)
    have h2 := Int.emod_lt_of_pos (x / 16) hq
    have h3 := Int.emod_nonneg x (show (16 : Int) ≠ 0 by decide)
    have h4 := Int.emod_lt_of_pos x (show (0 : Int) < 16 by decide)
    have e3 : x = x % 16 + 16 * (x / 16 % p) + p * 16 * (x / 16 / p) := by grind
    have e4 : x % (p * 16) = (x % 16 + 16 * (x / 16 % p)) % (p * 16) := by
      conv => lhs; rw [e3]
      exact Int.add_mul_emod_self_left _ _ _
    rw [e4]
    exact (Int.emod_eq_of_lt (by omega) (by omega)).symm
theorem nib_byte (n : Int) (i : Nat) : byteOf n i % 16 = nib n (2 * i) ∧ byteOf n i / 16 % 16 = nib n (2 * i + 1) := by
  unfold byteOf nib
  have hp : (0 : Int) < 16 ^ (2 * i) := Int.pow_pos (by decide)
  have e : (256 : Int) ^ i = 16 ^ (2 * i) := by rw [Int.pow_mul]; rfl
  have e2 : n / 16 ^ (2 * i + 1) = n / 16 ^ (2 * i) / 16 := by rw [Int.pow_succ, Int.ediv_ediv_of_nonneg (Int.le_of_lt hp)]
  rw [e, e2]
  generalize n / 16 ^ (2 * i) = x
  omega

/-- the 64 digits in memory -/
def Dg (w : World) (b : Nat) (d : Nat → Int) : Prop := ∀ j, j < 64 → w.cell? ⟨b, j, none⟩ = some (.int .i8 (d j)) ∧ w.frozen? ⟨b, j, none⟩ = false
theorem Dg.lt {w : World} {b : Nat} {d : Nat → Int} (h : Dg w b d) : b < w.heap.size := World.block_lt_of_cell? w _ (h 0 (by decide)).1
theorem Dg.keep {w w' : World} {S : Nat → Nat → Prop} {b : Nat} {d : Nat → Int} (hu : Upd w w' S) (h : Dg w b d) (hn : ∀ i, i < 64 → ¬ S b i) : Dg w' b d := fun j hj =>
  ⟨(hu.cell b j h.lt (hn j hj)).trans (h j hj).1, (hu.froz b j h.lt).trans (h j hj).2⟩
theorem Dg.set {w : World} {b : Nat} {d : Nat → Int} (h : Dg w b d) (i : Nat) (hi : i < 64) (v : Int) : Dg (w.setCell ⟨b, i, none⟩ (.int .i8 v)) b (upd d i v) := fun j hj => by
  refine ⟨?_, (World.frozen?_setCell _ _ _ _).trans (h j hj).2⟩
  by_cases e : j = i
  · subst e
    rw [upd_same]
    exact World.cell?_setCell_same _ _ _ (h j hj).1
  · rw [upd_other d v e]
    exact (World.cell?_setCell_other _ _ _ _ (by intro h; cases h; exact e rfl)).trans (h j hj).1

/-- the array of 64 digits at zero -/
def zero64 : Obj := .cells (Array.replicate 64 (.int .i8 0)) 92
theorem Dg.zero (w : World) : Dg (w.alloc zero64) w.heap.size (fun _ => 0) := fun j hj => by
  refine ⟨?_, ?_⟩
  · show (w.alloc (.cells (Array.replicate 64 (.int .i8 0)) 92)).cell? _ = _
    rw [World.cell?_alloc_new, Array.getElem?_replicate, if_pos hj]
  · show (w.alloc (.cells (Array.replicate 64 (.int .i8 0)) 92)).frozen? _ = _
    exact World.frozen?_alloc_new _ _ _ _

@[go_sem] theorem and15 (x : Int) : bits .and .u8 x 15 = x % 16 := by
  have key : (BitVec.ofInt 8 x &&& BitVec.ofInt 8 15).toNat = (x % ((2 ^ 8 : Nat) : Int)).toNat % 16 := by
    rw [BitVec.toNat_and, show (BitVec.ofInt 8 15).toNat = 2 ^ 4 - 1 from rfl, Nat.and_two_pow_sub_one_eq_mod, BitVec.toNat_ofInt]
  show IntKind.u8.wrap ((BitVec.ofInt 8 x &&& BitVec.ofInt 8 15).toNat : Nat) = _
  rw [key]
  simp [IntKind.wrap, IntKind.bits, IntKind.signed]
  omega

/-- an array of 64 digits as a value -/
def DgL (d : Nat → Int) : List Value := (List.range 64).map fun i => Value.int .i8 (d i)
theorem DgL_len (d : Nat → Int) : (DgL d).length = 64 := by simp [DgL]
theorem DgL_size (d : Nat → Int) : (DgL d).toArray.size = 64 := by simp [DgL]
theorem DgL_one (d : Nat → Int) : ∀ v ∈ DgL d, v.oneCell' = true := fun v hv => by obtain ⟨i, _, rfl⟩ := List.mem_map.1 hv; rfl
theorem row92 : ∃ d, Tryz.prog.underlying 92 = some d ∧ d.isRow = true := isRow_of (by kernel_rfl)
theorem size92 : (Tryz.prog.info? 92).map (·.size) = some 64 := by kernel_rfl
theorem Dg.range {w : World} {b : Nat} {d : Nat → Int} (h : Dg w b d) : w.rangeAt b 0 (DgL d) := fun j v hv => by
  have hj : j < 64 := by have := (List.getElem?_eq_some_iff.1 hv).1; rw [DgL_len] at this; exact this
  unfold DgL at hv
  rw [List.getElem?_map, List.getElem?_range hj] at hv
  simp only [Option.map_some, Option.some.injEq] at hv
  rw [← hv, Nat.zero_add]; exact (h j hj).1
theorem Dg.there {w : World} {b : Nat} {d : Nat → Int} (h : Dg w b d) : w.there b 0 64 := fun j hj => by
  rw [Nat.zero_add]
  exact ⟨by rw [(h j hj).1]; rfl, (h j hj).2⟩
theorem load92 {w : World} {b : Nat} {d : Nat → Int} (h : Dg w b d) : (loadVar 92 ⟨b, 0, none⟩).run Tryz.prog w = .ok (.agg (DgL d).toArray) w := by
  obtain ⟨t, hu, hd⟩ := row92
  exact run_loadVar_mid w b 0 92 (DgL d) t h.range hu hd (by rw [DgL_len]; exact size92)
theorem wpList_load92 {ops : Array Oper} {rest : List Oper} {op : Oper} {a : Act} {w : World} {Q : Exit → Act → World → Prop} (hgd : op.guard = none) (x : Operand) (ho : op.op = .load 92 x)
    (b : Nat) (hx : a.eval x = .pointer (some ⟨b, 0, none⟩)) (d : Nat → Int) (hB : Dg w b d)
    (h : wpList Tryz.prog ops Q rest (a.put op.dst (.agg (DgL d).toArray)) w) : wpList Tryz.prog ops Q (op :: rest) a w := by
  obtain ⟨t, hu, hd⟩ := row92
  exact wpList_load_mid hgd 92 x ho b 0 hx (DgL d) t hB.range hu hd (by rw [DgL_len]; exact size92) h
theorem wpList_store92 {ops : Array Oper} {rest : List Oper} {op : Oper} {a : Act} {w : World} {Q : Exit → Act → World → Prop} (hgd : op.guard = none) (x y : Operand) (ho : op.op = .store 92 x y)
    (b : Nat) (d d0 : Nat → Int) (hx : a.eval x = .pointer (some ⟨b, 0, none⟩)) (hy : a.eval y = .agg (DgL d).toArray) (hW : Dg w b d0)
    (h : ∀ w', Upd w w' (Rg b 0 64) → Dg w' b d → wpList Tryz.prog ops Q rest (a.put op.dst undef) w') : wpList Tryz.prog ops Q (op :: rest) a w := by
  have ht : w.there b 0 (DgL d).length := by rw [DgL_len]; exact hW.there
  have hr := World.rangeAt_setCells_same w b 0 _ ht
  refine wpList_store_mid hgd 92 x y ho b 0 (DgL d).toArray hx hy (by rw [DgL_size]; exact hW.there) (by rw [DgL_size]; exact size92) (all_oneCell_toArray (DgL_one d)) ?_
  refine h (w.setCells b 0 (DgL d)) ((Upd.refl w _).cells b (DgL d) 0 (fun i hi _ => ⟨rfl, by omega, by rw [DgL_len] at hi; omega⟩)) (fun i hi => ⟨?_, ?_⟩)
  · have := hr i _ (show (DgL d)[i]? = some (.int .i8 (d i)) by unfold DgL; rw [List.getElem?_map, List.getElem?_range hi]; rfl)
    rw [Nat.zero_add] at this
    exact this
  · rw [World.frozen?_setCells]
    exact (hW i hi).2

def Rad1 (w : World) (db : Nat) (n : Int) (i : Value) (wr : World) : Prop :=
  ∃ k : Nat, k ≤ 32 ∧ i = .int .i64 k ∧ Upd w wr (fun b _ => b = db) ∧ ∃ d, Dg wr db d ∧ ∀ j, j < 2 * k → d j = nib n j
def Rad2 (w : World) (db : Nat) (n : Int) (i : Value) (wr : World) : Prop :=
  ∃ k : Nat, k ≤ 63 ∧ i = .int .i64 k ∧ Upd w wr (fun b _ => b = db) ∧ ∃ d, Dg wr db d ∧ le16 d 0 64 = n ∧ (∀ j, j < k → -8 ≤ d j ∧ d j ≤ 7) ∧ (∀ j, k < j → j < 64 → 0 ≤ d j ∧ d j ≤ 15) ∧ 0 ≤ d k ∧ d k ≤ 16 ∧ d 63 ≤ (if k = 63 then 2 else 1)


set_option maxRecDepth 100000 in
set_option maxHeartbeats 8000000 in
theorem radix_c (sb : Nat) (n : Int) (w : World) (hS : Sc w sb n) :
    Calls Tryz.prog 47 #[.pointer (some ⟨sb, 0, none⟩)] w fun e w' => ∃ d : Nat → Int, e = .returned (.agg (DgL d).toArray) ∧ Upd w w' (fun _ _ => False) ∧ le16 d 0 64 = n ∧ ∀ j, j < 64 → -8 ≤ d j ∧ d j ≤ 7 := by
  have hls := hS.lt
  obtain ⟨n0, n1⟩ : 0 ≤ n ∧ n < ell := by obtain ⟨_, _, _, _, _, _, _, _, _, h1, h2, _⟩ := hS; exact ⟨h1, h2⟩
  have A0 := (Upd.refl w (fun _ _ => False)).alloc zero64
  have hS1 := hS.keep A0 (fun _ _ h => h)
  have R0 := Dg.zero w
  go_enter Tryz.func47, Tryz.ntmps47
  go_wp2_with fail
  refine (scBytes_c sb n _ hS1).mono ?_
  rintro e w1 ⟨rfl, hU, hB⟩
  have s1 := hU.size
  simp only [World.size_alloc] at s1 hB
  have hb31 : byteOf n 31 ≤ 127 ∧ 0 ≤ byteOf n 31 := by
    unfold byteOf
    unfold ell at n1
    simp only [Int.reducePow]
    omega
  have c31 := hB 31 (by decide)
  rw [Nat.zero_add] at c31
  generalize byteOf n 31 = b31 at hb31 c31
  obtain ⟨q1, q2⟩ := hb31
  go_wp2_with fail
  have s3 : w.heap.size + 1 < w1.heap.size := World.block_lt_of_cell? w1 _ (hB 0 (by decide))
  have R1 := R0.keep hU (fun _ _ h => h)
  have D1 := Dg.zero w1
  have A1 := (Upd.refl w1 (fun _ _ => False)).alloc zero64
  have R2 := R1.keep A1 (fun _ _ h => h)
  have hB2 := hB.keep A1 (fun _ _ h => h)
  have U2 := (A0.trans hU (fun _ _ _ h => h)).trans A1 (fun _ _ _ h => h)
  clear c31 hS1 R0 R1 A0 A1 hB hS
  obtain ⟨w2, e2⟩ : ∃ x, x = w1.alloc zero64 := ⟨_, rfl⟩
  have s2 : w2.heap.size = w1.heap.size + 1 := by rw [e2]; simp
  rw [← e2] at R2 hB2 U2 D1
  go_loopw [5] (fun i wr => Rad1 w2 w1.heap.size n i wr) (fun i _ => 32 - (intOf i).toNat)
  case atStart => exact ⟨0, by omega, rfl, by rw [e2]; exact Upd.refl _ _, _, by rw [e2] at D1; exact D1, fun j hj => by omega⟩
  case round =>
    obtain ⟨k, hk, rfl, hUr, d, hD, hd⟩ := hrel
    by_cases hlt : k = 32
    · subst hlt
      have hn := le16_nib n d 64 0 (fun j _ h => hd j (by omega))
      have hbd : ∀ j, j < 64 → 0 ≤ d j ∧ d j ≤ 15 := fun j hj => by
        rw [hd j (by omega)]; unfold nib; omega
      have hd63 : d 63 ≤ 1 := by
        rw [hd 63 (by omega)]; unfold nib; unfold ell at n1
        simp only [Int.reducePow]; omega
      rw [Int.pow_zero, Int.ediv_one, Int.emod_eq_of_lt n0 (by unfold ell at n1; simp only [Int.reducePow]; omega)] at hn
      have HN := Lib.hid hn
      clear hn hd
      go_wp2_with fail
      go_loopw [6, 7] (fun i _ wr => Rad2 w2 w1.heap.size n i wr) (fun i _ _ => 63 - (intOf i).toNat)
      case atStart =>
        refine ⟨0, by omega, rfl, hUr, d, hD, HN.out, fun j hj => by omega, fun j _ hj => hbd j hj, (hbd 0 (by omega)).1, ?_, ?_⟩
        · have := (hbd 0 (by omega)).2; omega
        · rw [if_neg (by omega)]; exact hd63
      case round =>
        clear hUr hD hbd hd63 HN
        obtain ⟨k, hk, rfl, hUr, d, hD, hn, hlo, hhi, x0, x1, h63⟩ := hrel
        have HN := Lib.hid hn
        clear hn
        by_cases hlt : k = 63
        · subst hlt
          have R3 := (R2.keep hUr (fun i hi h => by omega))
          rw [if_pos rfl] at h63
          have hfin : ∀ j, j < 64 → -8 ≤ d j ∧ d j ≤ 7 := fun j hj => by
            by_cases e : j = 63
            · subst e; omega
            · exact hlo j (by omega)
          have HF := Lib.hid hfin
          clear hlo hhi x0 x1 h63 hfin
          go_wp2_with (first
            | (refine wpList_load92 rfl _ rfl w1.heap.size (by rfl) d hD ?_)
            | (refine wpList_store92 rfl _ _ rfl w.heap.size d _ (by rfl) (by rfl) R3 ?_; intro w3 hU3 hD3))
          refine bodyPost_ret (results_cell rfl (by rfl) (load92 hD3)) rfl ⟨d, rfl, ?_, HN.out, HF.out⟩
          exact (U2.trans hUr (fun b o hb h => by omega)).trans hU3 (fun b o hb h => absurd h.1 (by omega))
        · have hk63 : (k : Int) < 63 := by omega
          have i0 : (0 : Int) ≤ (k : Int) := by omega
          have i1 : IntKind.i64.wrap ((k : Int) + 1) = (k : Int) + 1 := IntWalk.i64_in _ (by omega)
          have i2 : (0 : Int) ≤ (k : Int) + 1 := by omega
          have i3 : (k : Int) + 1 < 64 := by omega
          have i4 : ((k : Int) + 1).toNat = k + 1 := by omega
          obtain ⟨g1, g2⟩ := hD k (by omega)
          obtain ⟨g3, g4⟩ := hD (k + 1) (by omega)
          have y0 := hhi (k + 1) (by omega) (by omega)
          obtain ⟨x, ex⟩ : ∃ x, x = d k := ⟨_, rfl⟩
          obtain ⟨y, ey⟩ : ∃ y, y = d (k + 1) := ⟨_, rfl⟩
          rw [← ex] at g1 x0 x1
          rw [← ey] at g3 y0
          obtain ⟨y0, y1⟩ := y0
          have Ex := Lib.hid ex
          have Ey := Lib.hid ey
          rw [if_neg hlt] at h63
          have H63 := Lib.hid h63
          have Hlo := Lib.hid hlo
          have Hhi := Lib.hid hhi
          clear ex ey h63 hlo hhi
          go_wp2_with fail
          have ex := Ex.out
          have ey := Ey.out
          have hlo := Hlo.out
          have hhi := Hhi.out
          have h63 := H63.out
          obtain ⟨c, ec⟩ : ∃ c, c = (x + 8) / 16 := ⟨_, rfl⟩
          rw [← ec]
          have hc : 0 ≤ c ∧ c ≤ 1 ∧ -8 ≤ x - c * 16 ∧ x - c * 16 ≤ 7 := by omega
          refine ⟨⟨k + 1, by omega, by go_num, (hUr.set (fun _ => rfl) _).set (fun _ => rfl) _, _, (hD.set k (by omega) _).set (k + 1) (by omega) _, ?_, ?_, ?_, ?_, ?_, ?_⟩, by simp [intOf]; omega⟩
          · have := le16_carry d c k (by omega)
            rw [← ex, ← ey, HN.out] at this
            rw [show x - c * 16 = x - 16 * c by omega]
            exact this
          · intro j hj
            rw [upd_other _ _ (by omega)]
            by_cases h2 : j = k
            · subst h2; rw [upd_same]; omega
            · rw [upd_other _ _ h2]; exact hlo j (by omega)
          · intro j hj hj2
            rw [upd_other _ _ (by omega), upd_other _ _ (by omega)]
            exact hhi j (by omega) hj2
          · rw [upd_same]; omega
          · rw [upd_same]; omega
          · by_cases h2 : k + 1 = 63
            · rw [if_pos h2, ← h2, upd_same]
              rw [← h2, ← ey] at h63
              omega
            · rw [if_neg h2, upd_other _ _ (by omega), upd_other _ _ (by omega)]
              exact h63
    · have hk32 : (k : Int) < 32 := by omega
      have i0 : (0 : Int) ≤ (k : Int) := by omega
      have i1 : IntKind.i64.wrap (2 * (k : Int)) = 2 * (k : Int) := IntWalk.i64_in _ (by omega)
      have i2 : (0 : Int) ≤ 2 * (k : Int) := by omega
      have i3 : 2 * (k : Int) < 64 := by omega
      have i4 : (2 * (k : Int)).toNat = 2 * k := by omega
      have c := hB2.keep hUr (fun i hi h => by omega) k (by omega)
      rw [Nat.zero_add] at c
      have g := hD (2 * k) (by omega)
      obtain ⟨g1, g2⟩ := g
      have gg := hD (2 * k + 1) (by omega)
      obtain ⟨g3, g4⟩ := gg
      have j1 : IntKind.i64.wrap (2 * (k : Int) + 1) = 2 * (k : Int) + 1 := IntWalk.i64_in _ (by omega)
      have j2 : (0 : Int) ≤ 2 * (k : Int) + 1 := by omega
      have j3 : 2 * (k : Int) + 1 < 64 := by omega
      have j4 : (2 * (k : Int) + 1).toNat = 2 * k + 1 := by omega
      have by1 := byteOf_byte n k
      have nb := nib_byte n k
      generalize byteOf n k = x at c by1 nb
      obtain ⟨by1, by2⟩ := by1
      have Nb := Lib.hid nb
      have hne : ¬ w.heap.size + 1 = w1.heap.size := by omega
      clear nb
      go_wp2_with fail
      refine ⟨⟨k + 1, by omega, by go_num, (hUr.set (fun _ => rfl) _).set (fun _ => rfl) _, _, (hD.set (2 * k) (by omega) _).set (2 * k + 1) (by omega) _, fun j hj => ?_⟩, by simp [intOf]; omega⟩
      by_cases h1 : j = 2 * k + 1
      · subst h1; rw [upd_same]; exact Nb.out.2
      · rw [upd_other _ _ h1]
        by_cases h2 : j = 2 * k
        · subst h2; rw [upd_same]; exact Nb.out.1
        · rw [upd_other _ _ h2]; exact hd j (by omega)

end Go.Proofs.YtkibnongmkhbaaaGreatDoor
end

section
open Go Go.RowKit
namespace Go.Proofs.YtkibnongmkhbaaaGreatDoor
open Ed

theorem add_cancel {p s : F × F} (hp : On p) (hs : On s) : add p (Ed.neg (add p s)) = Ed.neg s := by
  have h1 := on_add hp hs
  have h2 := on_neg h1
  have h3 := on_neg hs
  have e1 : add s (add p (Ed.neg (add p s))) = pt0 := by
    rw [← add_assoc hs hp h2, add_comm s p, add_neg h1]
  have e2 : add (Ed.neg s) (add s (add p (Ed.neg (add p s)))) = add p (Ed.neg (add p s)) := by
    rw [← add_assoc h3 hs (on_add hp h2), add_comm (Ed.neg s) s, add_neg hs, pt0_add]
  rw [← e2, e1, add_pt0]

theorem on_zmul {p : F × F} (hp : On p) (d : Int) : On (zmul d p) := by
  unfold zmul
  split
  · exact on_neg (on_smul hp _)
  · exact on_smul hp _
theorem zmul_succ {p : F × F} (hp : On p) (a : Int) : zmul (a + 1) p = add p (zmul a p) := by
  unfold zmul
  by_cases h : 0 ≤ a
  · rw [if_neg (by omega), if_neg (by omega), show (a + 1).natAbs = a.natAbs + 1 by omega]
    rfl
  · obtain ⟨k, hk⟩ : ∃ k, a.natAbs = k + 1 := ⟨a.natAbs - 1, by omega⟩
    rw [if_pos (show a < 0 by omega), hk]
    show _ = add p (Ed.neg (add p (smul k p)))
    rw [add_cancel hp (on_smul hp k)]
    by_cases h2 : a + 1 < 0
    · rw [if_pos h2, show (a + 1).natAbs = k by omega]
    · rw [if_neg h2, show (a + 1).natAbs = k by omega, show k = 0 by omega]
      show pt0 = Ed.neg pt0
      have := add_neg on_pt0
      rw [pt0_add] at this
      exact this.symm
theorem zmul_pred {p : F × F} (hp : On p) (a : Int) : zmul (a - 1) p = add (Ed.neg p) (zmul a p) := by
  have h := zmul_succ hp (a - 1)
  rw [show a - 1 + 1 = a by omega] at h
  rw [h, ← add_assoc (on_neg hp) hp (on_zmul hp _), add_comm (Ed.neg p) p, add_neg hp, pt0_add]
theorem zmul_add {p : F × F} (hp : On p) (a b : Int) : zmul (a + b) p = add (zmul a p) (zmul b p) := by
  by_cases h : 0 ≤ a
  · obtain ⟨k, rfl⟩ := Int.eq_ofNat_of_zero_le h
    clear h
    induction k with
    | zero =>
      rw [show ((0 : Nat) : Int) + b = b by omega]
      show zmul b p = add pt0 (zmul b p)
      rw [pt0_add]
    | succ k ih =>
      rw [show ((k + 1 : Nat) : Int) + b = ((k : Int) + b) + 1 by omega, zmul_succ hp, ih, show ((k + 1 : Nat) : Int) = (k : Int) + 1 by omega, zmul_succ hp, add_assoc hp (on_zmul hp _) (on_zmul hp _)]
  · obtain ⟨k, hk⟩ : ∃ k : Nat, a = -(k : Int) := ⟨a.natAbs, by omega⟩
    subst hk
    clear h
    induction k with
    | zero =>
      rw [show -((0 : Nat) : Int) + b = b by omega]
      show zmul b p = add pt0 (zmul b p)
      rw [pt0_add]
    | succ k ih =>
      rw [show -((k + 1 : Nat) : Int) + b = (-(k : Int) + b) - 1 by omega, zmul_pred hp, ih, show -((k + 1 : Nat) : Int) = -(k : Int) - 1 by omega, zmul_pred hp, add_assoc (on_neg hp) (on_zmul hp _) (on_zmul hp _)]
theorem zmul_nat (n : Int) (h : 0 ≤ n) (p : F × F) : zmul n p = smul n.toNat p := by
  unfold zmul
  rw [if_neg (by omega), show n.natAbs = n.toNat by omega]
theorem zmul_dbl {p : F × F} (hp : On p) (a : Int) : add (zmul a p) (zmul a p) = zmul (2 * a) p := by
  rw [← zmul_add hp]; congr 1; omega

theorem An.zeros160 (w : World) (j : Nat) (hj : j < 8) : An (w.alloc (.cells (Array.replicate 160 (.int .u64 0)) 89)) w.heap.size (j * 20) := by
  have hc : ∀ i, i < 160 → (w.alloc (.cells (Array.replicate 160 (.int .u64 0)) 89)).cell? ⟨w.heap.size, i, none⟩ = some (.int .u64 0) := fun i hi => by
    rw [World.cell?_alloc_new, Array.getElem?_replicate, if_pos hi]
  refine ⟨0, 0, 0, 0, Zs_pt.pt (fun i v hv => ?_) (fun i hi => ⟨?_, World.frozen?_alloc_new _ _ _ _⟩)⟩
  · have hi : i < 20 := by have := (List.getElem?_eq_some_iff.1 hv).1; unfold Zs at this; rw [List.length_replicate] at this; exact this
    unfold Zs at hv
    rw [List.getElem?_replicate, if_pos hi] at hv
    cases hv
    exact hc _ (by omega)
  · rw [hc _ (by omega)]; rfl

def MulRel (w : World) (cb qb eb vb : Nat) (d : Nat → Int) (p : F × F) (i : Value) (wr : World) : Prop :=
  ∃ k : Nat, k ≤ 63 ∧ i = .int .i64 ((k : Int) - 1) ∧ Upd w wr (fun b o => b = cb ∨ b = qb ∨ b = eb ∨ Rg vb 0 20 b o) ∧ P1A wr qb 0 (zmul (le16 d k (64 - k)) p) ∧ An wr cb 0 ∧ An3 wr eb 0 ∧ An wr vb 0

theorem An3.zeros (w : World) (t : TypeId) : An3 (w.alloc (.cells (Array.replicate 15 (.int .u64 0)) t)) w.heap.size 0 := by
  have hc : ∀ i, i < 15 → (w.alloc (.cells (Array.replicate 15 (.int .u64 0)) t)).cell? ⟨w.heap.size, i, none⟩ = some (.int .u64 0) := fun i hi => by
    rw [World.cell?_alloc_new, Array.getElem?_replicate, if_pos hi]
  have hf : ∀ i, (w.alloc (.cells (Array.replicate 15 (.int .u64 0)) t)).frozen? ⟨w.heap.size, i, none⟩ = false := fun i => World.frozen?_alloc_new _ _ _ _
  have he : ∀ o, o + 4 < 15 → El (w.alloc (.cells (Array.replicate 15 (.int .u64 0)) t)) w.heap.size o 0 := fun o ho =>
    ⟨0, 0, 0, 0, 0, ⟨hc _ (by omega), hc _ (by omega), hc _ (by omega), hc _ (by omega), hc _ (by omega), hf _, hf _, hf _, hf _, hf _⟩, lim0, lim0, lim0, lim0, lim0, lv0⟩
  exact ⟨0, 0, 0, he 0 (by omega), he 5 (by omega), he 10 (by omega)⟩

set_option maxRecDepth 100000 in
set_option maxHeartbeats 8000000 in
theorem smult_a (B vb sb pb po : Nat) (p : F × F) (hp : On p) (n : Int) (w : World) (hG : Glob B w) (hB : B ≤ vb) (hS : Sc w sb n) (Hv : An w vb 0) (Hp : PtA w pb po p) (_hne : vb ≠ pb) (_hvs : vb ≠ sb) :
    Calls Tryz.prog 21 #[.pointer (some ⟨vb, 0, none⟩), .pointer (some ⟨sb, 0, none⟩), .pointer (some ⟨pb, po, none⟩)] w fun e w' => e = .returned (.pointer (some ⟨vb, 0, none⟩)) ∧ Upd w w' (Rg vb 0 20) ∧ PtA w' vb 0 (zmul n p) := by
  have lp := Hp.an.lt
  have lv := Hv.lt
  have ls := hS.lt
  have A0 := (Upd.refl w (fun _ _ => False)).alloc (.cells #[.pointer (some ⟨pb, po, none⟩)] 32)
  have hL := (Hp.live hp).keep A0 (fun _ _ h => h)
  have hc := fun (i : Nat) (hi : i < 1) => (show (w.alloc (.cells #[.pointer (some ⟨pb, po, none⟩)] 32)).cell? ⟨w.heap.size, 0 + i, none⟩ = some (.pointer (some ⟨(fun _ => pb) i, (fun _ => po) i, none⟩)) ∧ Live _ pb po from by
    have hi0 : i = 0 := by omega
    subst hi0
    exact ⟨pt_list1 w pb po, hL⟩)
  have z1 := An.zeros160 (w.alloc (.cells #[.pointer (some ⟨pb, po, none⟩)] 32))
  simp only [World.size_alloc] at z1
  have A1 := A0.alloc (.cells (Array.replicate 160 (.int .u64 0)) 89)
  go_enter Tryz.func21, Tryz.ntmps21
  go_wp2_with fail
  refine (chk_c 1 w.heap.size 0 1 (fun _ => pb) (fun _ => po) _ (by omega) hc).mono ?_
  rintro e w1 ⟨rfl, hw1⟩
  subst w1
  clear hc hL
  go_wp2_with fail
  refine (table_c (w.heap.size + 1) pb po p hp _ z1 (Hp.keep A1 (fun _ _ h => h)) (by omega)).mono ?_
  rintro e w1 ⟨rfl, hU1, hT⟩
  have s1 := hU1.size
  simp only [World.size_alloc] at s1
  replace A1 := A1.trans hU1 (fun b o hb h => absurd h.1 (by omega))
  clear A0 z1 hU1
  go_wp2_with fail
  refine (radix_c sb n _ (hS.keep A1 (fun _ _ h => h))).mono ?_
  rintro e w2 ⟨d, rfl, hU2, hn, hd⟩
  have s2 := hU2.size
  replace A1 := A1.trans hU2 (fun b o hb h => h)
  replace hT := fun j hj => (hT j hj).keep hU2 (fun _ _ h => h)
  clear hU2 hS
  have HN := Lib.hid hn
  have HD := Lib.hid hd
  clear hn hd
  have D0 := Dg.zero w2
  go_wp2_with (first
    | (refine wpList_store92 rfl _ _ rfl w2.heap.size d _ (by rfl) (by rfl) D0 ?_; intro w3 hU3 hD3; have s3 := hU3.size; simp only [World.size_alloc] at s3; have c63 : (((w3.alloc (.cells #[.int .u64 0, .int .u64 0, .int .u64 0, .int .u64 0, .int .u64 0, .int .u64 0, .int .u64 0, .int .u64 0, .int .u64 0, .int .u64 0, .int .u64 0, .int .u64 0, .int .u64 0, .int .u64 0, .int .u64 0, .int .u64 0, .int .u64 0, .int .u64 0, .int .u64 0, .int .u64 0] 69)).alloc (.cells #[.int .u64 0, .int .u64 0, .int .u64 0, .int .u64 0, .int .u64 0, .int .u64 0, .int .u64 0, .int .u64 0, .int .u64 0, .int .u64 0, .int .u64 0, .int .u64 0, .int .u64 0, .int .u64 0, .int .u64 0, .int .u64 0, .int .u64 0, .int .u64 0, .int .u64 0, .int .u64 0] 73)).alloc (.cells #[.int .u64 0, .int .u64 0, .int .u64 0, .int .u64 0, .int .u64 0, .int .u64 0, .int .u64 0, .int .u64 0, .int .u64 0, .int .u64 0, .int .u64 0, .int .u64 0, .int .u64 0, .int .u64 0, .int .u64 0] 96)).cell? ⟨w2.heap.size, 63, none⟩ = some (.int .i8 (d 63)) := ((hD3.keep (((((Upd.refl w3 (fun _ _ => False)).alloc (Z20 69)).alloc (Z20 73)).alloc (.cells (Array.replicate 15 (.int .u64 0)) 96))) (fun _ _ h => h)) 63 (by decide)).1))
  clear c63
  have A3 : Upd w w3 (fun _ _ => False) := (A1.alloc zero64).trans hU3 (fun b o hb h => absurd h.1 (by omega))
  replace hT := fun j hj => ((hT j hj).keep ((Upd.refl w2 (fun _ _ => False)).alloc zero64) (fun _ _ h => h)).keep hU3 (fun i hi h => absurd h.1 (by omega))
  have B1 := (Upd.refl w3 (fun _ _ => False)).alloc (Z20 69)
  have B2 := B1.alloc (Z20 73)
  have B3 := B2.alloc (.cells (Array.replicate 15 (.int .u64 0)) 96)
  have cz := (An.zeros w3 69).keep (((Upd.refl _ (fun _ _ => False)).alloc (Z20 73)).alloc (.cells (Array.replicate 15 (.int .u64 0)) 96)) (fun _ _ h => h)
  have qz := (An.zeros (w3.alloc (Z20 69)) 73).keep ((Upd.refl _ (fun _ _ => False)).alloc (.cells (Array.replicate 15 (.int .u64 0)) 96)) (fun _ _ h => h)
  have ez := An3.zeros ((w3.alloc (Z20 69)).alloc (Z20 73)) 96
  simp only [World.size_alloc] at qz ez
  have hD4 := hD3.keep B3 (fun _ _ h => h)
  have hT4 := fun j hj => (hT j hj).keep B3 (fun _ _ h => h)
  have A4 := A3.trans B3 (fun _ _ _ h => h)
  obtain ⟨w4, e4⟩ : ∃ x, x = ((w3.alloc (Z20 69)).alloc (Z20 73)).alloc (.cells (Array.replicate 15 (.int .u64 0)) 96) := ⟨_, rfl⟩
  have s4 : w4.heap.size = w3.heap.size + 1 + 1 + 1 := by rw [e4]; simp
  clear D0 hU3 hD3 hT A1 A3 B1 B2
  refine (selInto_c B (w.heap.size + 1) w3.heap.size 0 p (d 63) ⟨(HD.out 63 (by decide)).1, by have := (HD.out 63 (by decide)).2; omega⟩ _ (hG.keep A4 (fun _ _ _ h => h)) (by omega) hT4 cz (by omega)).mono ?_
  rintro e w5 ⟨rfl, hU5, hC5⟩
  change Upd (((w3.alloc (Z20 69)).alloc (Z20 73)).alloc (.cells (Array.replicate 15 (.int .u64 0)) 96)) w5 _ at hU5
  rw [← e4] at hU5 hD4 hT4 A4 qz ez
  clear cz B3
  have s5 := hU5.size
  have q5 := qz.keep hU5 (fun i hi h => absurd h.1 (by omega))
  have z5 := ez.keep hU5 (fun i hi h => absurd h.1 (by omega))
  have v4 := Hv.keep A4 (fun _ _ h => h)
  have v5 := v4.keep hU5 (fun i hi h => absurd h.1 (by omega))
  have g5 := (hG.keep A4 (fun _ _ _ h => h)).keep hU5 (fun b o hb h => absurd h.1 (by omega))
  clear qz ez v4
  go_wp2_with fail
  refine (newId_a B _ g5 (by omega)).mono ?_
  rintro e w6 ⟨rfl, hU6, hI⟩
  have s6 := hU6.size
  go_wp2_with fail
  refine (ptCopy_a vb 0 w5.heap.size 0 pt0 _ (v5.keep hU6 (fun _ _ h => h)) hI).mono ?_
  rintro e w7 ⟨rfl, hU7, hV⟩
  have s7 := hU7.size
  go_wp2_with fail
  refine (p1Add_a (w3.heap.size + 1) 0 vb 0 w3.heap.size 0 pt0 (zmul (d 63) p) on_pt0 (on_zmul hp _) _ ((q5.keep hU6 (fun _ _ h => h)).keep hU7 (fun i hi h => absurd h.1 (by omega))) hV ((hC5.keep hU6 (fun _ _ h => h)).keep hU7 (fun i hi h => absurd h.1 (by omega))) (by omega) (by omega)).mono ?_
  rintro e w8 ⟨rfl, hU8, hQ⟩
  rw [pt0_add] at hQ
  have s8 := hU8.size
  have U8 : Upd w4 w8 (fun b o => b = w3.heap.size ∨ b = (w3.heap.size + 1) ∨ b = (w3.heap.size + 1 + 1) ∨ Rg vb 0 20 b o) :=
    (((hU5.wide (fun b o _ h => .inl h.1)).trans hU6 (fun _ _ _ h => h.elim)).trans hU7 (fun b o _ h => .inr (.inr (.inr h)))).trans hU8 (fun b o _ h => .inr (.inl h.1))
  have c8 := (((hC5.keep hU6 (fun _ _ h => h)).keep hU7 (fun i hi h => absurd h.1 (by omega))).keep hU8 (fun i hi h => absurd h.1 (by omega))).an
  have z8 := ((z5.keep hU6 (fun _ _ h => h)).keep hU7 (fun i hi h => absurd h.1 (by omega))).keep hU8 (fun i hi h => absurd h.1 (by omega))
  have v8 := hV.an.keep hU8 (fun i hi h => absurd h.1 (by omega))
  clear hU5 hU6 hU7 hU8 q5 z5 v5 g5 hI hV hC5
  have S4 := Lib.hid s4
  clear s4
  have hd63 : le16 d 63 (64 - 63) = d 63 := by show d 63 + 16 * 0 = d 63; omega
  rw [← hd63] at hQ
  clear hd63
  have g4 := hG.keep A4 (fun _ _ _ h => h)
  have m2 : w2.heap.size < w3.heap.size := by omega
  go_wp2_with fail
  go_loopw [12] (fun i wr => MulRel w4 w3.heap.size (w3.heap.size + 1) (w3.heap.size + 1 + 1) vb d p i wr) (fun i _ => (intOf i + 1).toNat)
  case atStart => exact ⟨63, by omega, rfl, U8, hQ, c8, z8, v8⟩
  case round =>
    clear U8 hQ c8 z8 v8
    obtain ⟨k, hk, rfl, hU, hQ, hC, hE, hV⟩ := hrel
    have s9 := hU.size
    have s4 := S4.out
    by_cases hlt : k = 0
    · subst hlt
      go_wp2_with fail
      refine (fromP1_a vb 0 (w3.heap.size + 1) 0 _ _ hV hQ (by omega)).mono ?_
      rintro e w9 ⟨rfl, hU9, hR⟩
      go_wp2
      go_ret
      have hR' : PtA w9 vb 0 (zmul (le16 d 0 64) p) := hR
      rw [HN.out] at hR'
      refine ⟨rfl, ((A4.wide (fun _ _ _ h => h.elim)).trans hU (fun b o hb h => ?_)).trans hU9 (fun _ _ _ h => h), hR'⟩
      rcases h with h | h | h | h
      · omega
      · omega
      · omega
      · exact h
    · obtain ⟨j, rfl⟩ : ∃ j, k = j + 1 := ⟨k - 1, by omega⟩
      have hj : ((j + 1 : Nat) : Int) - 1 = (j : Int) := by omega
      rw [hj]
      clear s4
      obtain ⟨x, ex⟩ : ∃ x, x = le16 d (j + 1) (64 - (j + 1)) := ⟨_, rfl⟩
      rw [← ex] at hQ
      have EX := Lib.hid ex
      clear ex
      have s4 := S4.out
      have lq := hQ.an.lt
      have T0 := (hD4.keep hU (fun i hi h => by rcases h with h | h | h | h <;> first | omega | (have := h.1; omega)))
      have H0 := fun j hj => (hT4 j hj).keep hU (fun i hi h => by rcases h with h | h | h | h <;> first | omega | (have := h.1; omega))
      have G0 := g4.keep hU (fun b o hb h => by rcases h with h | h | h | h <;> first | omega | (have := h.1; omega))
      have nv : ¬ vb = w3.heap.size ∧ ¬ vb = w3.heap.size + 1 ∧ ¬ vb = w3.heap.size + 1 + 1 := by omega
      clear s4
      go_wp2_with fail
      refine (p2From_a (w3.heap.size + 1 + 1) 0 (w3.heap.size + 1) 0 (zmul x p) _ hE hQ (by omega)).mono ?_
      rintro e a0 ⟨rfl, hUa, hP⟩
      replace hC := hC.keep hUa (fun i hi h => absurd h.1 (by omega))
      replace hV := hV.keep hUa (fun i hi h => absurd h.1 (by omega))
      replace T0 := T0.keep hUa (fun i hi h => absurd h.1 (by omega))
      replace H0 := fun j hj => (H0 j hj).keep hUa (fun i hi h => absurd h.1 (by omega))
      replace G0 := G0.keep hUa (fun b o hb h => absurd h.1 (by omega))
      replace hU := hU.trans hUa (fun b o _ h => .inr (.inr (.inl h.1)))
      replace hQ := hQ.an.keep hUa (fun i hi h => absurd h.1 (by omega))
      have sa := hUa.size
      clear hUa hE
      go_wp2_with fail
      refine (dbl_a (w3.heap.size + 1) 0 (w3.heap.size + 1 + 1) 0 (zmul x p) (on_zmul hp _) _ hQ hP (by omega)).mono ?_
      clear hQ
      rintro e b0 ⟨rfl, hUa, hQ⟩
      rw [zmul_dbl hp] at hQ
      replace hC := hC.keep hUa (fun i hi h => absurd h.1 (by omega))
      replace hV := hV.keep hUa (fun i hi h => absurd h.1 (by omega))
      replace T0 := T0.keep hUa (fun i hi h => absurd h.1 (by omega))
      replace H0 := fun j hj => (H0 j hj).keep hUa (fun i hi h => absurd h.1 (by omega))
      replace G0 := G0.keep hUa (fun b o hb h => absurd h.1 (by omega))
      replace hU := hU.trans hUa (fun b o _ h => .inr (.inl h.1))
      have hE := hP.an.keep hUa (fun i hi h => absurd h.1 (by omega))
      have sb' := hUa.size
      replace sa := Nat.le_trans sa sb'
      clear hUa hP sb' sa
      go_wp2_with fail
      refine (p2From_a (w3.heap.size + 1 + 1) 0 (w3.heap.size + 1) 0 (zmul (2 * x) p) _ hE hQ (by omega)).mono ?_
      rintro e a1 ⟨rfl, hUa, hP⟩
      replace hC := hC.keep hUa (fun i hi h => absurd h.1 (by omega))
      replace hV := hV.keep hUa (fun i hi h => absurd h.1 (by omega))
      replace T0 := T0.keep hUa (fun i hi h => absurd h.1 (by omega))
      replace H0 := fun j hj => (H0 j hj).keep hUa (fun i hi h => absurd h.1 (by omega))
      replace G0 := G0.keep hUa (fun b o hb h => absurd h.1 (by omega))
      replace hU := hU.trans hUa (fun b o _ h => .inr (.inr (.inl h.1)))
      replace hQ := hQ.an.keep hUa (fun i hi h => absurd h.1 (by omega))
      have sa := hUa.size
      clear hUa hE
      go_wp2_with fail
      refine (dbl_a (w3.heap.size + 1) 0 (w3.heap.size + 1 + 1) 0 (zmul (2 * x) p) (on_zmul hp _) _ hQ hP (by omega)).mono ?_
      clear hQ
      rintro e b1 ⟨rfl, hUa, hQ⟩
      rw [zmul_dbl hp] at hQ
      replace hC := hC.keep hUa (fun i hi h => absurd h.1 (by omega))
      replace hV := hV.keep hUa (fun i hi h => absurd h.1 (by omega))
      replace T0 := T0.keep hUa (fun i hi h => absurd h.1 (by omega))
      replace H0 := fun j hj => (H0 j hj).keep hUa (fun i hi h => absurd h.1 (by omega))
      replace G0 := G0.keep hUa (fun b o hb h => absurd h.1 (by omega))
      replace hU := hU.trans hUa (fun b o _ h => .inr (.inl h.1))
      have hE := hP.an.keep hUa (fun i hi h => absurd h.1 (by omega))
      have sb' := hUa.size
      replace sa := Nat.le_trans sa sb'
      clear hUa hP sb' sa
      go_wp2_with fail
      refine (p2From_a (w3.heap.size + 1 + 1) 0 (w3.heap.size + 1) 0 (zmul (2 * (2 * x)) p) _ hE hQ (by omega)).mono ?_
      rintro e a2 ⟨rfl, hUa, hP⟩
      replace hC := hC.keep hUa (fun i hi h => absurd h.1 (by omega))
      replace hV := hV.keep hUa (fun i hi h => absurd h.1 (by omega))
      replace T0 := T0.keep hUa (fun i hi h => absurd h.1 (by omega))
      replace H0 := fun j hj => (H0 j hj).keep hUa (fun i hi h => absurd h.1 (by omega))
      replace G0 := G0.keep hUa (fun b o hb h => absurd h.1 (by omega))
      replace hU := hU.trans hUa (fun b o _ h => .inr (.inr (.inl h.1)))
      replace hQ := hQ.an.keep hUa (fun i hi h => absurd h.1 (by omega))
      have sa := hUa.size
      clear hUa hE
      go_wp2_with fail
      refine (dbl_a (w3.heap.size + 1) 0 (w3.heap.size + 1 + 1) 0 (zmul (2 * (2 * x)) p) (on_zmul hp _) _ hQ hP (by omega)).mono ?_
      clear hQ
      rintro e b2 ⟨rfl, hUa, hQ⟩
      rw [zmul_dbl hp] at hQ
      replace hC := hC.keep hUa (fun i hi h => absurd h.1 (by omega))
      replace hV := hV.keep hUa (fun i hi h => absurd h.1 (by omega))
      replace T0 := T0.keep hUa (fun i hi h => absurd h.1 (by omega))
      replace H0 := fun j hj => (H0 j hj).keep hUa (fun i hi h => absurd h.1 (by omega))
      replace G0 := G0.keep hUa (fun b o hb h => absurd h.1 (by omega))
      replace hU := hU.trans hUa (fun b o _ h => .inr (.inl h.1))
      have hE := hP.an.keep hUa (fun i hi h => absurd h.1 (by omega))
      have sb' := hUa.size
      replace sa := Nat.le_trans sa sb'
      clear hUa hP sb' sa
      go_wp2_with fail
      refine (p2From_a (w3.heap.size + 1 + 1) 0 (w3.heap.size + 1) 0 (zmul (2 * (2 * (2 * x))) p) _ hE hQ (by omega)).mono ?_
      rintro e a3 ⟨rfl, hUa, hP⟩
      replace hC := hC.keep hUa (fun i hi h => absurd h.1 (by omega))
      replace hV := hV.keep hUa (fun i hi h => absurd h.1 (by omega))
      replace T0 := T0.keep hUa (fun i hi h => absurd h.1 (by omega))
      replace H0 := fun j hj => (H0 j hj).keep hUa (fun i hi h => absurd h.1 (by omega))
      replace G0 := G0.keep hUa (fun b o hb h => absurd h.1 (by omega))
      replace hU := hU.trans hUa (fun b o _ h => .inr (.inr (.inl h.1)))
      replace hQ := hQ.an.keep hUa (fun i hi h => absurd h.1 (by omega))
      have sa := hUa.size
      clear hUa hE
      go_wp2_with fail
      refine (dbl_a (w3.heap.size + 1) 0 (w3.heap.size + 1 + 1) 0 (zmul (2 * (2 * (2 * x))) p) (on_zmul hp _) _ hQ hP (by omega)).mono ?_
      clear hQ
      rintro e b3 ⟨rfl, hUa, hQ⟩
      rw [zmul_dbl hp] at hQ
      replace hC := hC.keep hUa (fun i hi h => absurd h.1 (by omega))
      replace hV := hV.keep hUa (fun i hi h => absurd h.1 (by omega))
      replace T0 := T0.keep hUa (fun i hi h => absurd h.1 (by omega))
      replace H0 := fun j hj => (H0 j hj).keep hUa (fun i hi h => absurd h.1 (by omega))
      replace G0 := G0.keep hUa (fun b o hb h => absurd h.1 (by omega))
      replace hU := hU.trans hUa (fun b o _ h => .inr (.inl h.1))
      have hE := hP.an.keep hUa (fun i hi h => absurd h.1 (by omega))
      have sb' := hUa.size
      replace sa := Nat.le_trans sa sb'
      clear hUa hP sb' sa
      go_wp2_with fail
      refine (fromP1_a vb 0 (w3.heap.size + 1) 0 (zmul (2 * (2 * (2 * (2 * x)))) p) _ hV hQ (by omega)).mono ?_
      clear hV
      rintro e c0 ⟨rfl, hUa, hV⟩
      replace hC := hC.keep hUa (fun i hi h => absurd h.1 (by omega))
      replace hE := hE.keep hUa (fun i hi h => absurd h.1 (by omega))
      replace hQ := hQ.an.keep hUa (fun i hi h => absurd h.1 (by omega))
      replace T0 := T0.keep hUa (fun i hi h => absurd h.1 (by omega))
      replace H0 := fun j hj => (H0 j hj).keep hUa (fun i hi h => absurd h.1 (by omega))
      replace G0 := G0.keep hUa (fun b o hb h => absurd h.1 (by omega))
      replace hU := hU.trans hUa (fun b o _ h => .inr (.inr (.inr h)))
      clear hUa
      have cj := (T0 j (by omega)).1
      have hj0 : (0 : Int) ≤ (j : Int) := by omega
      have hj1 : (j : Int) < 64 := by omega
      go_wp2_with fail
      refine (selInto_c B (w.heap.size + 1) w3.heap.size 0 p (d j) ⟨(HD.out j (by omega)).1, by have := (HD.out j (by omega)).2; omega⟩ _ G0 (by omega) H0 hC (by omega)).mono ?_
      clear hC cj
      rintro e c1 ⟨rfl, hUa, hC⟩
      replace hE := hE.keep hUa (fun i hi h => absurd h.1 (by omega))
      replace hQ := hQ.keep hUa (fun i hi h => absurd h.1 (by omega))
      replace hV := hV.keep hUa (fun i hi h => absurd h.1 (by omega))
      replace hU := hU.trans hUa (fun b o _ h => .inl h.1)
      clear hUa T0 H0 G0
      go_wp2_with fail
      refine (p1Add_a (w3.heap.size + 1) 0 vb 0 w3.heap.size 0 (zmul (2 * (2 * (2 * (2 * x)))) p) (zmul (d j) p) (on_zmul hp _) (on_zmul hp _) _ hQ hV hC (by omega) (by omega)).mono ?_
      clear hQ
      rintro e c2 ⟨rfl, hUa, hQ⟩
      rw [← zmul_add hp] at hQ
      have eD : 2 * (2 * (2 * (2 * x))) + d j = le16 d j (64 - j) := by
        have e1 : 64 - j = (64 - (j + 1)) + 1 := by omega
        rw [e1]; unfold le16; rw [← EX.out]; omega
      rw [eD] at hQ
      have hC2 := hC.an.keep hUa (fun i hi h => absurd h.1 (by omega))
      replace hE := hE.keep hUa (fun i hi h => absurd h.1 (by omega))
      have hV2 := hV.an.keep hUa (fun i hi h => absurd h.1 (by omega))
      replace hU := hU.trans hUa (fun b o _ h => .inr (.inl h.1))
      clear hUa hC hV
      go_wp2
      exact ⟨⟨j, by omega, by go_num, hU, hQ, hC2, hE, hV2⟩, by simp [intOf]⟩

end Go.Proofs.YtkibnongmkhbaaaGreatDoor
end
