/- Part of the proof that laws.FnGroup returns true for all 32 bytes p, q and x: the field's contracts, the package variables, bytes.
   Conditions: those that each theorem states. -/
import Derived.Test.YtkibnongmkhbaaaGreatDoorAA
import Derived.Test.YtkibnongmkhbaaaGreatDoorAB

section
open Go Go.RowKit
namespace Go.Proofs.YtkibnongmkhbaaaGreatDoor
open Ed

theorem feMul_w (vb vo ab ao bb bo : Nat) (V X Y : F) (w : World) (hV : El w vb vo V) (hX : ElR w ab ao X) (hY : ElR w bb bo Y) :
    Calls Tryz.prog 87 #[.pointer (some ⟨vb, vo, none⟩), .pointer (some ⟨ab, ao, none⟩), .pointer (some ⟨bb, bo, none⟩)] w fun e w' => e = .returned (.tuple #[]) ∧ Upd w w' (Rg vb vo 5) ∧ El w' vb vo (X * Y) := by
  obtain ⟨v0, v1, v2, v3, v4, hv, _⟩ := hV
  obtain ⟨a0, a1, a2, a3, a4, ha, la0, la1, la2, la3, la4, hx⟩ := hX
  obtain ⟨b0, b1, b2, b3, b4, hb, lb0, lb1, lb2, lb3, lb4, hy⟩ := hY
  subst hx
  subst hy
  go_enter Tryz.func87, Tryz.ntmps87
  go_wp2_with fail
  refine (feMul_c vb vo ab ao bb bo v0 v1 v2 v3 v4 a0 a1 a2 a3 a4 b0 b1 b2 b3 b4 w hv ha hb la0 la1 la2 la3 la4 lb0 lb1 lb2 lb3 lb4).mono ?_
  rintro e w1 ⟨rfl, hU, hE⟩
  go_wp2
  go_end0
  exact ⟨rfl, hU, hE⟩

/-- Multiply -/
theorem mul_el (vb vo ab ao bb bo : Nat) (V X Y : F) (w : World) (hV : El w vb vo V) (hX : ElR w ab ao X) (hY : ElR w bb bo Y) :
    Calls Tryz.prog 60 #[.pointer (some ⟨vb, vo, none⟩), .pointer (some ⟨ab, ao, none⟩), .pointer (some ⟨bb, bo, none⟩)] w fun e w' => e = .returned (.pointer (some ⟨vb, vo, none⟩)) ∧ Upd w w' (Rg vb vo 5) ∧ El w' vb vo (X * Y) := by
  go_enter Tryz.func60, Tryz.ntmps60
  go_wp2_with fail
  refine (feMul_w vb vo ab ao bb bo V X Y w hV hX hY).mono ?_
  rintro e w1 ⟨rfl, hU, hE⟩
  go_wp2
  go_ret
  exact ⟨rfl, hU, hE⟩

/-- Square -/
theorem sq_el (vb vo ab ao : Nat) (V X : F) (w : World) (hV : El w vb vo V) (hX : ElR w ab ao X) :
    Calls Tryz.prog 57 #[.pointer (some ⟨vb, vo, none⟩), .pointer (some ⟨ab, ao, none⟩)] w fun e w' => e = .returned (.pointer (some ⟨vb, vo, none⟩)) ∧ Upd w w' (Rg vb vo 5) ∧ El w' vb vo (X * X) := by
  obtain ⟨v0, v1, v2, v3, v4, hv, _⟩ := hV
  obtain ⟨a0, a1, a2, a3, a4, ha, la0, la1, la2, la3, la4, hx⟩ := hX
  subst hx
  go_enter Tryz.func57, Tryz.ntmps57
  go_wp2_with fail
  refine (feSq_c vb vo ab ao v0 v1 v2 v3 v4 a0 a1 a2 a3 a4 w hv ha la0 la1 la2 la3 la4).mono ?_
  rintro e w1 ⟨rfl, hU, hE⟩
  go_wp2
  go_ret
  exact ⟨rfl, hU, hE⟩

/-- SquareN -/
theorem sqn_el (n : Int) (hn0 : 0 ≤ n) (hn1 : n ≤ 1000) (vb vo ab ao : Nat) (V X : F) (w : World) (hV : El w vb vo V) (hX : ElR w ab ao X) :
    Calls Tryz.prog 109 #[.pointer (some ⟨vb, vo, none⟩), .pointer (some ⟨ab, ao, none⟩), .int .i64 n] w fun e w' => e = .returned (.pointer (some ⟨vb, vo, none⟩)) ∧ Upd w w' (Rg vb vo 5) ∧ El w' vb vo (sqN X n.toNat) := by
  obtain ⟨v0, v1, v2, v3, v4, hv, _⟩ := hV
  obtain ⟨a0, a1, a2, a3, a4, ha, la0, la1, la2, la3, la4, hx⟩ := hX
  subst hx
  go_enter Tryz.func109, Tryz.ntmps109
  go_wp2_with fail
  refine (feSqN_c n hn0 hn1 vb vo ab ao v0 v1 v2 v3 v4 a0 a1 a2 a3 a4 w hv ha la0 la1 la2 la3 la4).mono ?_
  rintro e w1 ⟨rfl, hU, hE⟩
  go_wp2
  go_ret
  exact ⟨rfl, hU, hE⟩

end Go.Proofs.YtkibnongmkhbaaaGreatDoor
end

section
open Go Go.RowKit
namespace Go.Proofs.YtkibnongmkhbaaaGreatDoor
open Ed

theorem five_upd (w : World) (vb vo : Nat) (x0 x1 x2 x3 x4 : Value) : Upd w (((((w.setCell ⟨vb, vo, none⟩ x0).setCell ⟨vb, vo + 1, none⟩ x1).setCell ⟨vb, vo + 2, none⟩ x2).setCell ⟨vb, vo + 3, none⟩ x3).setCell ⟨vb, vo + 4, none⟩ x4) (Rg vb vo 5) :=
  ((((((Upd.refl w (Rg vb vo 5)).set (fun _ => ⟨rfl, by omega, by omega⟩) _).set (fun _ => ⟨rfl, by omega, by omega⟩) _).set (fun _ => ⟨rfl, by omega, by omega⟩) _).set (fun _ => ⟨rfl, by omega, by omega⟩) _).set (fun _ => ⟨rfl, by omega, by omega⟩) _)

theorem C5.five {w : World} {b o : Nat} {v0 v1 v2 v3 v4 : Int} (h : C5 w b o v0 v1 v2 v3 v4) (x0 x1 x2 x3 x4 : Int) :
    C5 (((((w.setCell ⟨b, o, none⟩ (.int .u64 x0)).setCell ⟨b, o + 1, none⟩ (.int .u64 x1)).setCell ⟨b, o + 2, none⟩ (.int .u64 x2)).setCell ⟨b, o + 3, none⟩ (.int .u64 x3)).setCell ⟨b, o + 4, none⟩ (.int .u64 x4)) b o x0 x1 x2 x3 x4 :=
  ((((h.set0 _).set1 _).set2 _).set3 _).set4 _

/-- l - 1, its bytes -/
def mbytes : List Int := [236, 211, 245, 92, 26, 99, 18, 88, 214, 156, 247, 162, 222, 249, 222, 20, 0, 0, 0, 0, 0, 0, 0, 0, 0, 0, 0, 0, 0, 0, 0, 16]

/-- the package-level variables read as listed; they lie below block B -/
structure GlobAt (B : Nat) (w : World) (zb zo ob oo sb so : Nat) : Prop where
  hB : 3 < B
  hz : zb < B
  ho : ob < B
  hs : sb < B
  pz : w.cell? ⟨1, 0, none⟩ = some (.pointer (some ⟨zb, zo, none⟩))
  po : w.cell? ⟨2, 0, none⟩ = some (.pointer (some ⟨ob, oo, none⟩))
  ps : w.cell? ⟨0, 0, none⟩ = some (.pointer (some ⟨sb, so, none⟩))
  rz : R5 w zb zo 0 0 0 0 0
  ro : R5 w ob oo 1 0 0 0 0
  rs : R5 w sb so 1718705420411056 234908883556509 2233514472574048 2117202627021982 765476049583133
  rm : ∀ i, i < 32 → w.cell? ⟨3, i, none⟩ = some (.int .u8 (mbytes.getD i 0))

def Glob (B : Nat) (w : World) : Prop := ∃ zb zo ob oo sb so, GlobAt B w zb zo ob oo sb so

theorem Glob.keep {B : Nat} {w w' : World} {S : Nat → Nat → Prop} (hu : Upd w w' S) (h : Glob B w) (hn : ∀ b o, b < B → ¬ S b o) : Glob B w' := by
  obtain ⟨zb, zo, ob, oo, sb, so, h⟩ := h
  have l1 := World.block_lt_of_cell? w _ h.pz
  have l2 := World.block_lt_of_cell? w _ h.po
  have l0 := World.block_lt_of_cell? w _ h.ps
  have hb := h.hB
  exact ⟨zb, zo, ob, oo, sb, so, h.hB, h.hz, h.ho, h.hs, (hu.cell 1 0 l1 (hn _ _ (by omega))).trans h.pz, (hu.cell 2 0 l2 (hn _ _ (by omega))).trans h.po,
    (hu.cell 0 0 l0 (hn _ _ (by omega))).trans h.ps, h.rz.keep hu (fun _ _ => hn _ _ h.hz), h.ro.keep hu (fun _ _ => hn _ _ h.ho), h.rs.keep hu (fun _ _ => hn _ _ h.hs),
    fun i hi => (hu.cell 3 i (World.block_lt_of_cell? w _ (h.rm i hi)) (hn _ _ (by omega))).trans (h.rm i hi)⟩

theorem Glob.drew {B : Nat} {w : World} (h : Glob B w) : Glob B w.drew := h.keep ((Upd.refl w (fun _ _ => False)).drew) (fun _ _ _ h => h)

/-- Set -/
theorem set_c (vb vo ab ao : Nat) (V X : F) (w : World) (hV : El w vb vo V) (hX : ElR w ab ao X) :
    Calls Tryz.prog 66 #[.pointer (some ⟨vb, vo, none⟩), .pointer (some ⟨ab, ao, none⟩)] w fun e w' => e = .returned (.pointer (some ⟨vb, vo, none⟩)) ∧ Upd w w' (Rg vb vo 5) ∧ El w' vb vo X := by
  obtain ⟨v0, v1, v2, v3, v4, hv, _⟩ := hV
  obtain ⟨a0, a1, a2, a3, a4, ha, la0, la1, la2, la3, la4, hx⟩ := hX
  have Hx := Lib.hid hx
  clear hx
  obtain ⟨c0, c1, c2, c3, c4⟩ := id ha
  obtain ⟨u0, u1, u2, u3, u4, g0, g1, g2, g3, g4⟩ := id hv
  go_enter Tryz.func66, Tryz.ntmps66
  go_wp2
  go_ret
  exact ⟨rfl, five_upd _ _ _ _ _ _ _ _, a0, a1, a2, a3, a4, hv.five _ _ _ _ _, la0, la1, la2, la3, la4, Hx.out⟩

theorem lim0 : Lim 0 := ⟨by decide, by decide⟩
theorem lim1 : Lim 1 := ⟨by decide, by decide⟩
theorem lv0 : z (lv 0 0 0 0 0) = 0 := by
  rw [show lv 0 0 0 0 0 = 0 by decide]; exact z_zero
theorem lv1 : z (lv 1 0 0 0 0) = 1 := by
  rw [show lv 1 0 0 0 0 = 1 by decide]; exact z_one

/-- Zero -/
theorem zero_c (B vb vo : Nat) (V : F) (w : World) (hG : Glob B w) (hV : El w vb vo V) :
    Calls Tryz.prog 100 #[.pointer (some ⟨vb, vo, none⟩)] w fun e w' => e = .returned (.pointer (some ⟨vb, vo, none⟩)) ∧ Upd w w' (Rg vb vo 5) ∧ El w' vb vo 0 := by
  obtain ⟨v0, v1, v2, v3, v4, hv, _⟩ := hV
  obtain ⟨zb, zo, ob, oo, sb, so, hg⟩ := hG
  have hp := hg.pz
  obtain ⟨c0, c1, c2, c3, c4⟩ := hg.rz
  clear hg
  obtain ⟨u0, u1, u2, u3, u4, g0, g1, g2, g3, g4⟩ := id hv
  go_enter Tryz.func100, Tryz.ntmps100
  go_wp2
  go_ret
  exact ⟨rfl, five_upd _ _ _ _ _ _ _ _, _, _, _, _, _, hv.five _ _ _ _ _, lim0, lim0, lim0, lim0, lim0, lv0⟩

/-- One -/
theorem one_c (B vb vo : Nat) (V : F) (w : World) (hG : Glob B w) (hV : El w vb vo V) :
    Calls Tryz.prog 67 #[.pointer (some ⟨vb, vo, none⟩)] w fun e w' => e = .returned (.pointer (some ⟨vb, vo, none⟩)) ∧ Upd w w' (Rg vb vo 5) ∧ El w' vb vo 1 := by
  obtain ⟨v0, v1, v2, v3, v4, hv, _⟩ := hV
  obtain ⟨zb, zo, ob, oo, sb, so, hg⟩ := hG
  have hp := hg.po
  obtain ⟨c0, c1, c2, c3, c4⟩ := hg.ro
  clear hg
  obtain ⟨u0, u1, u2, u3, u4, g0, g1, g2, g3, g4⟩ := id hv
  go_enter Tryz.func67, Tryz.ntmps67
  go_wp2
  go_ret
  exact ⟨rfl, five_upd _ _ _ _ _ _ _ _, _, _, _, _, _, hv.five _ _ _ _ _, lim1, lim0, lim0, lim0, lim0, lv1⟩

/-- Negate -/
theorem neg_c (B vb vo ab ao : Nat) (V X : F) (w : World) (hG : Glob B w) (hB : B ≤ vb) (hV : El w vb vo V) (hX : ElR w ab ao X) (pa : Ap vb vo ab ao) :
    Calls Tryz.prog 64 #[.pointer (some ⟨vb, vo, none⟩), .pointer (some ⟨ab, ao, none⟩)] w fun e w' => e = .returned (.pointer (some ⟨vb, vo, none⟩)) ∧ Upd w w' (Rg vb vo 5) ∧ El w' vb vo (-X) := by
  obtain ⟨zb, zo, ob, oo, sb, so, hg⟩ := hG
  have hp := hg.pz
  have hz : ElR w zb zo 0 := ⟨_, _, _, _, _, hg.rz, lim0, lim0, lim0, lim0, lim0, lv0⟩
  have hne : vb ≠ zb := by have := hg.hz; omega
  clear hg
  go_enter Tryz.func64, Tryz.ntmps64
  go_wp2_with fail
  refine (sub_c vb vo zb zo ab ao V 0 X w hV hz hX (.inl hne) pa).mono ?_
  rintro e w1 ⟨rfl, hU, hE⟩
  go_wp2
  go_ret
  exact ⟨rfl, hU, by rw [show -X = 0 - X by grind]; exact hE⟩

/-- mask64Bits -/
theorem mask_0 (w : World) : Calls Tryz.prog 91 #[.int .i64 0] w fun e w' => e = .returned (.int .u64 0) ∧ w' = w := by
  go_enter Tryz.func91, Tryz.ntmps91
  go_wp2
  go_ret
  exact ⟨rfl, rfl⟩
theorem mask_1 (w : World) : Calls Tryz.prog 91 #[.int .i64 1] w fun e w' => e = .returned (.int .u64 18446744073709551615) ∧ w' = w := by
  go_enter Tryz.func91, Tryz.ntmps91
  go_wp2
  go_ret
  exact ⟨rfl, rfl⟩

end Go.Proofs.YtkibnongmkhbaaaGreatDoor
end

section
open Go Go.RowKit
namespace Go.Proofs.YtkibnongmkhbaaaGreatDoor
open Ed

theorem le_shift (bs : Nat → Int) (k : Nat) (n : Nat) : ∀ o, le (fun i => bs (k + i)) o n = le bs (k + o) n := by
  induction n with
  | zero => intro o; rfl
  | succ n ih => intro o; unfold le; rw [ih]; rfl

theorem le_append (bs : Nat → Int) (m n : Nat) : ∀ o, le bs o (m + n) = le bs o m + 256 ^ m * le bs (o + m) n := by
  induction m with
  | zero => intro o; rw [Nat.zero_add]; show _ = 0 + 1 * _; rw [Int.zero_add, Int.one_mul]; rfl
  | succ m ih =>
    intro o
    rw [show m + 1 + n = (m + n) + 1 by omega]
    show bs o + 256 * le bs (o + 1) (m + n) = bs o + 256 * le bs (o + 1) m + 256 ^ (m + 1) * le bs (o + (m + 1)) n
    rw [ih (o + 1), show o + 1 + m = o + (m + 1) by omega, Int.pow_succ]
    grind

/-- a part of a number, by its bytes -/
theorem le_part (bs : Nat → Int) (hb : ∀ i, Byte (bs i)) (k n m : Nat) (h : k + n ≤ m) : le bs k n = le bs 0 m / 256 ^ k % 256 ^ n := by
  have e : le bs 0 m = le bs 0 k + 256 ^ k * (le bs k n + 256 ^ n * le bs (k + n) (m - (k + n))) := by
    rw [← le_append, show n + (m - (k + n)) = m - k by omega]
    have := le_append bs k (m - k) 0
    rw [Nat.zero_add, show k + (m - k) = m by omega] at this
    exact this
  have h1 := le_lt bs hb k 0
  have h2 := le_lt bs hb n k
  have hp : (0 : Int) < 256 ^ k := Int.pow_pos (by decide)
  rw [e, Int.add_mul_ediv_left _ _ (Int.ne_of_gt hp), Int.ediv_eq_zero_of_lt h1.1 h1.2, Int.zero_add, Int.add_mul_emod_self_left, Int.emod_eq_of_lt h2.1 h2.2]

theorem By.set {w : World} {b o n : Nat} {bs : Nat → Int} (h : By w b o n bs) {q : Addr} (hq : q.block ≠ b) (v : Value) : By (w.setCell q v) b o n bs :=
  fun i hi => (World.cell?_setCell_other _ _ _ _ (by intro e; rw [e] at hq; exact hq rfl)).trans (h i hi)
theorem By.keep {w w' : World} {S : Nat → Nat → Prop} {b o n : Nat} {bs : Nat → Int} (hu : Upd w w' S) (h : By w b o n bs) (hn : ∀ i, i < n → ¬ S b (o + i)) : By w' b o n bs :=
  fun i hi => (hu.cell _ _ (World.block_lt_of_cell? w _ (h i hi)) (hn i hi)).trans (h i hi)
theorem By.part {w : World} {b o n : Nat} {bs : Nat → Int} (h : By w b o n bs) (k m : Nat) (hk : k + m ≤ n) : By w b (o + k) m (fun i => bs (k + i)) :=
  fun i hi => by rw [Nat.add_assoc]; exact h (k + i) (by omega)

theorem limbs_of (N : Int) (h0 : 0 ≤ N) (h1 : N < 115792089237316195423570985008687907853269984665640564039457584007913129639936) :
    lv (N % 18446744073709551616 % 2251799813685248) (N / 281474976710656 % 18446744073709551616 / 8 % 2251799813685248) (N / 79228162514264337593543950336 % 18446744073709551616 / 64 % 2251799813685248)
      (N / 5708990770823839524233143877797980545530986496 % 18446744073709551616 / 2 % 2251799813685248) (N / 6277101735386680763835789423207666416102355444464034512896 % 18446744073709551616 / 4096 % 2251799813685248)
    = N % 57896044618658097711785492504343953926634992332820282019728792003956564819968 := by
  have e0 : N % 18446744073709551616 % 2251799813685248 = N % 2251799813685248 := by omega
  have e1 : N / 281474976710656 % 18446744073709551616 / 8 % 2251799813685248 = N / 2251799813685248 % 2251799813685248 := by omega
  have e2 : N / 79228162514264337593543950336 % 18446744073709551616 / 64 % 2251799813685248 = N / 2251799813685248 / 2251799813685248 % 2251799813685248 := by omega
  have e3 : N / 5708990770823839524233143877797980545530986496 % 18446744073709551616 / 2 % 2251799813685248 = N / 2251799813685248 / 2251799813685248 / 2251799813685248 % 2251799813685248 := by omega
  have e4 : N / 6277101735386680763835789423207666416102355444464034512896 % 18446744073709551616 / 4096 % 2251799813685248 = N / 2251799813685248 / 2251799813685248 / 2251799813685248 / 2251799813685248 % 2251799813685248 := by omega
  rw [e0, e1, e2, e3, e4]
  unfold lv
  omega
end Go.Proofs.YtkibnongmkhbaaaGreatDoor
end

section
open Go Go.RowKit
namespace Go.Proofs.YtkibnongmkhbaaaGreatDoor
open Ed

theorem le8_u64 (bs : Nat → Int) (hb : ∀ i, Byte (bs i)) (o : Nat) : 0 ≤ le bs o 8 ∧ le bs o 8 < 18446744073709551616 := le_lt bs hb 8 o

theorem le84_at (b o cap k : Nat) (bs : Nat → Int) (hb : ∀ i, Byte (bs i)) (w : World) (h : By w b o 8 (fun i => bs (k + i))) :
    Calls Tryz.prog 84 #[.slice (some ⟨b, o, none⟩) 8 cap] w fun e w' => ∃ L : Int, e = .returned (.int .u64 L) ∧ w' = w ∧ Hid (L = le bs k 8) ∧ 0 ≤ L ∧ L < 18446744073709551616 :=
  (le84_c b o cap (fun i => bs (k + i)) (fun _ => hb _) w h).mono fun e w' ⟨he, hw⟩ => by
    rw [le_shift] at he
    exact ⟨_, he, hw, rfl, (le8_u64 bs hb k).1, (le8_u64 bs hb k).2⟩

set_option maxRecDepth 100000 in
theorem setBytes_c (vb vo b o cap : Nat) (V : F) (bs : Nat → Int) (hb : ∀ i, Byte (bs i)) (w : World) (hV : El w vb vo V) (h : By w b o 32 bs) (hne : vb ≠ b) (hcap : 32 ≤ cap) :
    Calls Tryz.prog 55 #[.pointer (some ⟨vb, vo, none⟩), .slice (some ⟨b, o, none⟩) 32 cap] w fun e w' => e = .returned (.tuple #[.pointer (some ⟨vb, vo, none⟩), .nilIface]) ∧ Upd w w' (Rg vb vo 5) ∧
      El w' vb vo (z (le bs 0 32 % 57896044618658097711785492504343953926634992332820282019728792003956564819968)) := by
  obtain ⟨v0, v1, v2, v3, v4, hv, _⟩ := hV
  have p0 := h.part 0 8 (by omega)
  have p1 := h.part 6 8 (by omega)
  have p2 := h.part 12 8 (by omega)
  have p3 := h.part 19 8 (by omega)
  have p4 := h.part 24 8 (by omega)
  have hlen : (32 : Int) ≤ (cap : Int) := by omega
  obtain ⟨c0, c1, c2, c3, c4, f0, f1, f2, f3, f4⟩ := id hv
  go_enter Tryz.func55, Tryz.ntmps55
  go_wp2_with fail
  refine (le84_at b _ _ 0 bs hb _ p0).mono ?_
  rintro e w1 ⟨L0, rfl, hw1, H0, m0, n0⟩
  subst w1
  go_wp2_with fail
  refine (le84_at b _ _ 6 bs hb _ ((p1.set (q := ⟨vb, vo, none⟩) hne _).set (q := ⟨vb, vo, none⟩) hne _)).mono ?_
  rintro e w1 ⟨L1, rfl, hw1, H1, m1, n1⟩
  subst w1
  go_wp2_with fail
  refine (le84_at b _ _ 12 bs hb _ ((((p2.set (q := ⟨vb, vo, none⟩) hne _).set (q := ⟨vb, vo, none⟩) hne _).set (q := ⟨vb, vo + 1, none⟩) hne _).set (q := ⟨vb, vo + 1, none⟩) hne _)).mono ?_
  rintro e w1 ⟨L2, rfl, hw1, H2, m2, n2⟩
  subst w1
  go_wp2_with fail
  refine (le84_at b _ _ 19 bs hb _ ((((((p3.set (q := ⟨vb, vo, none⟩) hne _).set (q := ⟨vb, vo, none⟩) hne _).set (q := ⟨vb, vo + 1, none⟩) hne _).set (q := ⟨vb, vo + 1, none⟩) hne _).set (q := ⟨vb, vo + 2, none⟩) hne _).set (q := ⟨vb, vo + 2, none⟩) hne _)).mono ?_
  rintro e w1 ⟨L3, rfl, hw1, H3, m3, n3⟩
  subst w1
  go_wp2_with fail
  refine (le84_at b _ _ 24 bs hb _ ((((((((p4.set (q := ⟨vb, vo, none⟩) hne _).set (q := ⟨vb, vo, none⟩) hne _).set (q := ⟨vb, vo + 1, none⟩) hne _).set (q := ⟨vb, vo + 1, none⟩) hne _).set (q := ⟨vb, vo + 2, none⟩) hne _).set (q := ⟨vb, vo + 2, none⟩) hne _).set (q := ⟨vb, vo + 3, none⟩) hne _).set (q := ⟨vb, vo + 3, none⟩) hne _)).mono ?_
  rintro e w1 ⟨L4, rfl, hw1, H4, m4, n4⟩
  subst w1
  go_wp2
  go_ret2
  have E0 := H0.out; have E1 := H1.out; have E2 := H2.out; have E3 := H3.out; have E4 := H4.out
  have hN := le_lt bs hb 32 0
  have q0 := le_part bs hb 0 8 32 (by omega)
  have q1 := le_part bs hb 6 8 32 (by omega)
  have q2 := le_part bs hb 12 8 32 (by omega)
  have q3 := le_part bs hb 19 8 32 (by omega)
  have q4 := le_part bs hb 24 8 32 (by omega)
  have key := limbs_of (le bs 0 32) hN.1 hN.2
  have hx : lv (L0 % 2251799813685248) (L1 / 8 % 2251799813685248) (L2 / 64 % 2251799813685248) (L3 / 2 % 2251799813685248) (L4 / 4096 % 2251799813685248) = le bs 0 32 % 57896044618658097711785492504343953926634992332820282019728792003956564819968 := by
    rw [← key, E0, E1, E2, E3, E4, q0, q1, q2, q3, q4]
    congr 1 <;> first | rfl | (congr 3; simp)
  exact ⟨rfl, (((((((((((Upd.refl w (Rg vb vo 5)).set (fun _ => ⟨rfl, by omega, by omega⟩) _).set (fun _ => ⟨rfl, by omega, by omega⟩) _).set (fun _ => ⟨rfl, by omega, by omega⟩) _).set (fun _ => ⟨rfl, by omega, by omega⟩) _).set (fun _ => ⟨rfl, by omega, by omega⟩) _).set (fun _ => ⟨rfl, by omega, by omega⟩) _).set (fun _ => ⟨rfl, by omega, by omega⟩) _).set (fun _ => ⟨rfl, by omega, by omega⟩) _).set (fun _ => ⟨rfl, by omega, by omega⟩) _).set (fun _ => ⟨rfl, by omega, by omega⟩) _), _, _, _, _, _, ((((((((((hv.set0 (L0)).set0 (L0 % 2251799813685248)).set1 (L1 / 8)).set1 (L1 / 8 % 2251799813685248)).set2 (L2 / 64)).set2 (L2 / 64 % 2251799813685248)).set3 (L3 / 2)).set3 (L3 / 2 % 2251799813685248)).set4 (L4 / 4096)).set4 (L4 / 4096 % 2251799813685248)), by unfold Lim; omega, by unfold Lim; omega, by unfold Lim; omega, by unfold Lim; omega, by unfold Lim; omega, by rw [hx]⟩
end Go.Proofs.YtkibnongmkhbaaaGreatDoor
end

section
open Go Go.RowKit
namespace Go.Proofs.YtkibnongmkhbaaaGreatDoor
open Ed

theorem reduce_arith (k0 k1 k2 k3 k4 c : Int) (h0 : 0 ≤ k0) (h1 : 0 ≤ k1) (h2 : 0 ≤ k2) (h3 : 0 ≤ k3) (h4 : 0 ≤ k4) (g0 : k0 < 2251799813685268) (g1 : k1 < 2251799813685250) (g2 : k2 < 2251799813685250) (g3 : k3 < 2251799813685250) (g4 : k4 < 2251799813685250)
    (hc : (k4 + (k3 + (k2 + (k1 + (k0 + 19) / 2251799813685248) / 2251799813685248) / 2251799813685248) / 2251799813685248) / 2251799813685248 = c) (n0 n1 n2 n3 n4 : Int)
    (e0 : n0 = (k0 + 19 * c) % 2251799813685248) (e1 : n1 = (k1 + (k0 + 19 * c) / 2251799813685248) % 2251799813685248)
    (e2 : n2 = (k2 + (k1 + (k0 + 19 * c) / 2251799813685248) / 2251799813685248) % 2251799813685248)
    (e3 : n3 = (k3 + (k2 + (k1 + (k0 + 19 * c) / 2251799813685248) / 2251799813685248) / 2251799813685248) % 2251799813685248)
    (e4 : n4 = (k4 + (k3 + (k2 + (k1 + (k0 + 19 * c) / 2251799813685248) / 2251799813685248) / 2251799813685248) / 2251799813685248) % 2251799813685248) :
    lv n0 n1 n2 n3 n4 = lv k0 k1 k2 k3 k4 % 57896044618658097711785492504343953926634992332820282019728792003956564819949 := by
  have hcc : c = 0 ∨ c = 1 := by omega
  have chain : ∀ y : Int, 0 ≤ y → y ≤ 19 → ∃ a0 a1 a2 a3 a4 r0 r1 r2 r3 r4 : Int, (k0 + y) / 2251799813685248 = a0 ∧ (k1 + a0) / 2251799813685248 = a1 ∧ (k2 + a1) / 2251799813685248 = a2 ∧ (k3 + a2) / 2251799813685248 = a3 ∧ (k4 + a3) / 2251799813685248 = a4 ∧
      (k0 + y) % 2251799813685248 = r0 ∧ (k1 + a0) % 2251799813685248 = r1 ∧ (k2 + a1) % 2251799813685248 = r2 ∧ (k3 + a2) % 2251799813685248 = r3 ∧ (k4 + a3) % 2251799813685248 = r4 ∧
      k0 + y = 2251799813685248 * a0 + r0 ∧ k1 + a0 = 2251799813685248 * a1 + r1 ∧ k2 + a1 = 2251799813685248 * a2 + r2 ∧ k3 + a2 = 2251799813685248 * a3 + r3 ∧ k4 + a3 = 2251799813685248 * a4 + r4 ∧
      (0 ≤ r0 ∧ r0 < 2251799813685248) ∧ (0 ≤ r1 ∧ r1 < 2251799813685248) ∧ (0 ≤ r2 ∧ r2 < 2251799813685248) ∧ (0 ≤ r3 ∧ r3 < 2251799813685248) ∧ (0 ≤ r4 ∧ r4 < 2251799813685248) ∧ 0 ≤ a4 := by
    intro y _ _
    refine ⟨_, _, _, _, _, _, _, _, _, _, rfl, rfl, rfl, rfl, rfl, rfl, rfl, rfl, rfl, rfl, ?_, ?_, ?_, ?_, ?_, ?_, ?_, ?_, ?_, ?_, ?_⟩ <;> omega
  obtain ⟨a0, a1, a2, a3, a4, r0, r1, r2, r3, r4, x0, x1, x2, x3, x4, y0, y1, y2, y3, y4, s0, s1, s2, s3, s4, t0, t1, t2, t3, t4, t5⟩ := chain 19 (by decide) (by decide)
  rw [x0, x1, x2, x3, x4] at hc
  subst hc
  rcases hcc with hcc | hcc
  · obtain ⟨b0, b1, b2, b3, b4, q0, q1, q2, q3, q4, u0, u1, u2, u3, u4, v0, v1, v2, v3, v4, w0, w1, w2, w3, w4, z0, z1, z2, z3, z4, z5⟩ := chain 0 (by decide) (by decide)
    rw [hcc, show (19 : Int) * 0 = 0 by decide] at e0 e1 e2 e3 e4
    rw [u0] at e1 e2 e3 e4
    rw [u1] at e2 e3 e4
    rw [u2] at e3 e4
    rw [u3] at e4
    rw [v0] at e0
    rw [v1] at e1
    rw [v2] at e2
    rw [v3] at e3
    rw [v4] at e4
    subst e0 e1 e2 e3 e4
    clear u0 u1 u2 u3 u4 v0 v1 v2 v3 v4 x0 x1 x2 x3 x4 y0 y1 y2 y3 y4 chain
    have m0 : b0 ≤ a0 := by omega
    have m1 : b1 ≤ a1 := by omega
    have m2 : b2 ≤ a2 := by omega
    have m3 : b3 ≤ a3 := by omega
    have m4 : b4 ≤ a4 := by omega
    have hb : b4 = 0 := by omega
    have e : lv n0 n1 n2 n3 n4 = lv k0 k1 k2 k3 k4 := by unfold lv; omega
    have lt : lv k0 k1 k2 k3 k4 < 57896044618658097711785492504343953926634992332820282019728792003956564819949 := by unfold lv; omega
    have ge : 0 ≤ lv k0 k1 k2 k3 k4 := by unfold lv; omega
    rw [e, Int.emod_eq_of_lt ge lt]
  · rw [hcc, show (19 : Int) * 1 = 19 by decide] at e0 e1 e2 e3 e4
    rw [x0] at e1 e2 e3 e4
    rw [x1] at e2 e3 e4
    rw [x2] at e3 e4
    rw [x3] at e4
    rw [y0] at e0
    rw [y1] at e1
    rw [y2] at e2
    rw [y3] at e3
    rw [y4] at e4
    subst e0 e1 e2 e3 e4
    clear x0 x1 x2 x3 x4 y0 y1 y2 y3 y4 chain
    have e : lv k0 k1 k2 k3 k4 = lv n0 n1 n2 n3 n4 + 57896044618658097711785492504343953926634992332820282019728792003956564819949 := by unfold lv; omega
    have ge : 0 ≤ lv n0 n1 n2 n3 n4 := by unfold lv; omega
    have lt : lv n0 n1 n2 n3 n4 < 57896044618658097711785492504343953926634992332820282019728792003956564819949 := by unfold lv at *; omega
    rw [e, Int.add_emod_right, Int.emod_eq_of_lt ge lt]

set_option maxRecDepth 100000 in
set_option maxHeartbeats 4000000 in
theorem reduce_c (b o : Nat) (X : F) (w : World) (h : El w b o X) :
    Calls Tryz.prog 116 #[.pointer (some ⟨b, o, none⟩)] w fun e w' => e = .returned (.pointer (some ⟨b, o, none⟩)) ∧ Upd w w' (Rg b o 5) ∧
      ∃ n0 n1 n2 n3 n4 : Int, C5 w' b o n0 n1 n2 n3 n4 ∧ (0 ≤ n0 ∧ n0 < 2251799813685248) ∧ (0 ≤ n1 ∧ n1 < 2251799813685248) ∧ (0 ≤ n2 ∧ n2 < 2251799813685248) ∧ (0 ≤ n3 ∧ n3 < 2251799813685248) ∧
        (0 ≤ n4 ∧ n4 < 2251799813685248) ∧ lv n0 n1 n2 n3 n4 = (X.val : Int) := by
  obtain ⟨l0, l1, l2, l3, l4, hc, ⟨p0, q0⟩, ⟨p1, q1⟩, ⟨p2, q2⟩, ⟨p3, q3⟩, ⟨p4, q4⟩, hz⟩ := h
  go_enter Tryz.func116, Tryz.ntmps116
  go_wp2_with fail
  refine (carry_c b o l0 l1 l2 l3 l4 w hc p0 p1 p2 p3 p4 (by omega) (by omega) (by omega) (by omega) (by omega)).mono ?_
  rintro e w1 ⟨rfl, hU, hC⟩
  rw [← z_carry] at hz
  obtain ⟨k0, ek0⟩ : ∃ k, k = l0 % 2251799813685248 + 19 * (l4 / 2251799813685248) := ⟨_, rfl⟩
  obtain ⟨k1, ek1⟩ : ∃ k, k = l1 % 2251799813685248 + l0 / 2251799813685248 := ⟨_, rfl⟩
  obtain ⟨k2, ek2⟩ : ∃ k, k = l2 % 2251799813685248 + l1 / 2251799813685248 := ⟨_, rfl⟩
  obtain ⟨k3, ek3⟩ : ∃ k, k = l3 % 2251799813685248 + l2 / 2251799813685248 := ⟨_, rfl⟩
  obtain ⟨k4, ek4⟩ : ∃ k, k = l4 % 2251799813685248 + l3 / 2251799813685248 := ⟨_, rfl⟩
  rw [← ek0, ← ek1, ← ek2, ← ek3, ← ek4] at hC hz
  have h0 : 0 ≤ k0 := by omega
  have h1 : 0 ≤ k1 := by omega
  have h2 : 0 ≤ k2 := by omega
  have h3 : 0 ≤ k3 := by omega
  have h4 : 0 ≤ k4 := by omega
  have g0 : k0 < 2251799813685268 := by omega
  have g1 : k1 < 2251799813685250 := by omega
  have g2 : k2 < 2251799813685250 := by omega
  have g3 : k3 < 2251799813685250 := by omega
  have g4 : k4 < 2251799813685250 := by omega
  clear ek0 ek1 ek2 ek3 ek4 p0 p1 p2 p3 p4 q0 q1 q2 q3 q4 hc
  have Hz := Lib.hid hz
  clear hz
  obtain ⟨c0, c1, c2, c3, c4, f0, f1, f2, f3, f4⟩ := id hC
  go_wp2
  obtain ⟨c, hc⟩ : ∃ c, (k4 + (k3 + (k2 + (k1 + (k0 + 19) / 2251799813685248) / 2251799813685248) / 2251799813685248) / 2251799813685248) / 2251799813685248 = c := ⟨_, rfl⟩
  have cc0 : 0 ≤ c := by omega
  have cc1 : c ≤ 1 := by omega
  rw [hc]
  have Hc := Lib.hid hc
  clear hc
  replace hC := hC.set0 (k0 + 19 * c)
  replace hU := hU.set (b := b) (o := o) (fun _ => ⟨rfl, by omega, by omega⟩) (.int .u64 (k0 + 19 * c))
  clear c0 c1 c2 c3 c4 f0 f1 f2 f3 f4
  generalize w1.setCell ⟨b, o, none⟩ (.int .u64 (k0 + 19 * c)) = w2 at *
  obtain ⟨c0, c1, c2, c3, c4, f0, f1, f2, f3, f4⟩ := id hC
  obtain ⟨m0, em0⟩ : ∃ m, m = k0 + 19 * c := ⟨_, rfl⟩
  have Em0 := Lib.hid em0
  have bm0 : 0 ≤ m0 ∧ m0 < 4503599627370496 := by omega
  rw [← em0] at c0 hC
  rw [← em0]
  clear em0
  obtain ⟨bm01, bm02⟩ := bm0
  refine still_tail 12 (by kernel_rfl) (by kernel_rfl) ?_
  simp only [List.take_succ_cons, List.take_zero, List.drop_succ_cons, List.drop_zero]
  iterate 12 still_step
  refine wpStill_nil ?_
  go_wp2
  replace hC := ((hC.set1 (k1 + m0 / 2251799813685248)).set0 (m0 % 2251799813685248)).drew
  replace hU := ((hU.set (b := b) (o := o + 1) (fun _ => ⟨rfl, by omega, by omega⟩) (.int .u64 (k1 + m0 / 2251799813685248))).set (b := b) (o := o) (fun _ => ⟨rfl, by omega, by omega⟩) (.int .u64 (m0 % 2251799813685248))).drew
  clear c0 c1 c2 c3 c4 f0 f1 f2 f3 f4
  generalize ((w2.setCell ⟨b, o + 1, none⟩ (.int .u64 (k1 + m0 / 2251799813685248))).setCell ⟨b, o, none⟩ (.int .u64 (m0 % 2251799813685248))).drew = w3 at *
  obtain ⟨m1, em⟩ : ∃ m, m = k1 + m0 / 2251799813685248 := ⟨_, rfl⟩
  have Em1 := Lib.hid em
  have bm11 : 0 ≤ m1 := by omega
  have bm12 : m1 < 4503599627370496 := by omega
  rw [← em] at hC
  try rw [← em]
  clear em
  obtain ⟨c0, c1, c2, c3, c4, f0, f1, f2, f3, f4⟩ := id hC
  refine still_tail 12 (by kernel_rfl) (by kernel_rfl) ?_
  simp only [List.take_succ_cons, List.take_zero, List.drop_succ_cons, List.drop_zero]
  iterate 12 still_step
  refine wpStill_nil ?_
  go_wp2
  replace hC := ((hC.set2 (k2 + m1 / 2251799813685248)).set1 (m1 % 2251799813685248)).drew
  replace hU := ((hU.set (b := b) (o := o + 2) (fun _ => ⟨rfl, by omega, by omega⟩) (.int .u64 (k2 + m1 / 2251799813685248))).set (b := b) (o := o + 1) (fun _ => ⟨rfl, by omega, by omega⟩) (.int .u64 (m1 % 2251799813685248))).drew
  clear c0 c1 c2 c3 c4 f0 f1 f2 f3 f4
  generalize ((w3.setCell ⟨b, o + 2, none⟩ (.int .u64 (k2 + m1 / 2251799813685248))).setCell ⟨b, o + 1, none⟩ (.int .u64 (m1 % 2251799813685248))).drew = w4 at *
  obtain ⟨m2, em⟩ : ∃ m, m = k2 + m1 / 2251799813685248 := ⟨_, rfl⟩
  have Em2 := Lib.hid em
  have bm21 : 0 ≤ m2 := by omega
  have bm22 : m2 < 4503599627370496 := by omega
  rw [← em] at hC
  try rw [← em]
  clear em
  obtain ⟨c0, c1, c2, c3, c4, f0, f1, f2, f3, f4⟩ := id hC
  refine still_tail 12 (by kernel_rfl) (by kernel_rfl) ?_
  simp only [List.take_succ_cons, List.take_zero, List.drop_succ_cons, List.drop_zero]
  iterate 12 still_step
  refine wpStill_nil ?_
  go_wp2
  replace hC := ((hC.set3 (k3 + m2 / 2251799813685248)).set2 (m2 % 2251799813685248)).drew
  replace hU := ((hU.set (b := b) (o := o + 3) (fun _ => ⟨rfl, by omega, by omega⟩) (.int .u64 (k3 + m2 / 2251799813685248))).set (b := b) (o := o + 2) (fun _ => ⟨rfl, by omega, by omega⟩) (.int .u64 (m2 % 2251799813685248))).drew
  clear c0 c1 c2 c3 c4 f0 f1 f2 f3 f4
  generalize ((w4.setCell ⟨b, o + 3, none⟩ (.int .u64 (k3 + m2 / 2251799813685248))).setCell ⟨b, o + 2, none⟩ (.int .u64 (m2 % 2251799813685248))).drew = w5 at *
  obtain ⟨m3, em⟩ : ∃ m, m = k3 + m2 / 2251799813685248 := ⟨_, rfl⟩
  have Em3 := Lib.hid em
  have bm31 : 0 ≤ m3 := by omega
  have bm32 : m3 < 4503599627370496 := by omega
  rw [← em] at hC
  try rw [← em]
  clear em
  obtain ⟨c0, c1, c2, c3, c4, f0, f1, f2, f3, f4⟩ := id hC
  refine still_tail 12 (by kernel_rfl) (by kernel_rfl) ?_
  simp only [List.take_succ_cons, List.take_zero, List.drop_succ_cons, List.drop_zero]
  iterate 12 still_step
  refine wpStill_nil ?_
  go_wp2
  go_ret
  have E0 := Em0.out
  have E1 := Em1.out
  have E2 := Em2.out
  have E3 := Em3.out
  have key := reduce_arith k0 k1 k2 k3 k4 c h0 h1 h2 h3 h4 g0 g1 g2 g3 g4 Hc.out (m0 % 2251799813685248) (m1 % 2251799813685248) (m2 % 2251799813685248) (m3 % 2251799813685248) ((k4 + m3 / 2251799813685248) % 2251799813685248) (by rw [E0]) (by rw [E1, E0]) (by rw [E2, E1, E0]) (by rw [E3, E2, E1, E0]) (by rw [E3, E2, E1, E0])
  refine ⟨rfl, (((hU.set (fun _ => ⟨rfl, by omega, by omega⟩) _).set (fun _ => ⟨rfl, by omega, by omega⟩) _).set (fun _ => ⟨rfl, by omega, by omega⟩) _).drew, _, _, _, _, _, (((hC.set4 (k4 + m3 / 2251799813685248)).set3 (m3 % 2251799813685248)).set4 ((k4 + m3 / 2251799813685248) % 2251799813685248)).drew,
    by omega, by omega, by omega, by omega, by omega, ?_⟩
  rw [key, ← Hz.out, val_z, P_int]
end Go.Proofs.YtkibnongmkhbaaaGreatDoor
end

section
open Go Go.RowKit
namespace Go.Proofs.YtkibnongmkhbaaaGreatDoor
open Ed

/-- n bytes that may be written -/
def Wy (w : World) (b o n : Nat) : Prop := ∀ i, i < n → (∃ v, w.cell? ⟨b, o + i, none⟩ = some (.int .u8 v)) ∧ w.frozen? ⟨b, o + i, none⟩ = false

theorem Wy.lt {w : World} {b o n : Nat} (h : Wy w b o n) (hn : 0 < n) : b < w.heap.size := by
  obtain ⟨⟨v, hv⟩, _⟩ := h 0 hn
  exact World.block_lt_of_cell? w _ hv
theorem Wy.keep {w w' : World} {S : Nat → Nat → Prop} {b o n : Nat} (hu : Upd w w' S) (h : Wy w b o n) (hn : ∀ i, i < n → ¬ S b (o + i)) : Wy w' b o n := by
  intro i hi
  obtain ⟨⟨v, hv⟩, hf⟩ := h i hi
  have hl := World.block_lt_of_cell? w _ hv
  exact ⟨⟨v, (hu.cell _ _ hl (hn i hi)).trans hv⟩, (hu.froz _ _ hl).trans hf⟩
theorem Wy.part {w : World} {b o n : Nat} (h : Wy w b o n) (k m : Nat) (hk : k + m ≤ n) : Wy w b (o + k) m :=
  fun i hi => by rw [Nat.add_assoc]; exact h (k + i) (by omega)

theorem Wy.put {w w' : World} {b n k : Nat} {bs : Nat → Int} (h : Wy w b 0 n) (hu : Upd w w' (Rg b k 8)) (hB : By w' b k 8 bs) : Wy w' b 0 n := by
  intro i hi
  obtain ⟨⟨v, hv⟩, hf⟩ := h i hi
  rw [Nat.zero_add] at hv hf ⊢
  have hl := World.block_lt_of_cell? w _ hv
  refine ⟨?_, (hu.froz _ _ hl).trans hf⟩
  by_cases hik : k ≤ i ∧ i < k + 8
  · have := hB (i - k) (by omega)
    rw [show k + (i - k) = i by omega] at this
    exact ⟨_, this⟩
  · exact ⟨v, (hu.cell _ _ hl (fun h => hik ⟨h.2.1, h.2.2⟩)).trans hv⟩

def PutRel (w : World) (b o : Nat) (x : Int) (t4 : Value) (wr : World) : Prop :=
  ∃ k : Nat, k ≤ 8 ∧ t4 = .int .i64 k ∧ Upd w wr (Rg b o 8) ∧ (∀ i, i < k → wr.cell? ⟨b, o + i, none⟩ = some (.int .u8 (x / 256 ^ i % 256))) ∧ ∀ i, k ≤ i → wr.cell? ⟨b, o + i, none⟩ = w.cell? ⟨b, o + i, none⟩

set_option maxRecDepth 100000 in
theorem put_c (b o len cap : Nat) (x : Int) (w : World) (_ : 0 ≤ x) (_ : x < 18446744073709551616) (h8 : 8 ≤ len) (hlen : len ≤ 1000) (hw : Wy w b o 8) :
    Calls Tryz.prog 117 #[.slice (some ⟨b, o, none⟩) len cap, .int .u64 x] w fun e w' => e = .returned (.tuple #[]) ∧ Upd w w' (Rg b o 8) ∧ By w' b o 8 (fun i => x / 256 ^ i % 256) := by
  go_enter Tryz.func117, Tryz.ntmps117
  go_wp2
  go_loopw [4] (fun t wr => PutRel w b o x t wr) (fun t _ => 8 - (intOf t).toNat)
  case atStart => exact ⟨0, by omega, rfl, Upd.refl _ _, fun i hi => absurd hi (by omega), fun _ _ => rfl⟩
  case round =>
    obtain ⟨k, hk, rfl, hU, hB, hO⟩ := hrel
    have HB := Lib.hid hB
    have HO := Lib.hid hO
    clear hB hO
    by_cases hlt : k = 8
    · subst hlt
      go_wp2
      go_end0
      exact ⟨rfl, hU, HB.out⟩
    · obtain ⟨⟨v, hv⟩, hf⟩ := hw k (by omega)
      have hl := World.block_lt_of_cell? w _ hv
      have hv' := (HO.out k (Nat.le_refl _)).trans hv
      have hf' := (hU.froz b (o + k) hl).trans hf
      have hk8 : (k : Int) < 8 := by omega
      have hkl : (k : Int) < (len : Int) := by omega
      clear hw hv hf
      go_wp2
      refine ⟨⟨k + 1, by omega, by go_num, hU.set (fun _ => ⟨rfl, by omega, by omega⟩) _, ?_, ?_⟩, by simp [intOf]; omega⟩
      · intro i hi
        by_cases hik : i = k
        · subst hik
          rw [Int.pow_mul] 
          exact World.cell?_setCell_same _ _ _ hv'
        · exact (World.cell?_setCell_other _ _ _ _ (by simp only [ne_eq, Addr.mk.injEq]; omega)).trans (HB.out i (by omega))
      · intro i hi
        exact (World.cell?_setCell_other _ _ _ _ (by simp only [ne_eq, Addr.mk.injEq]; omega)).trans (HO.out i (by omega))

/-- byte i of a number -/
def byteOf (n : Int) (i : Nat) : Int := n / 256 ^ i % 256

theorem byteOf_byte (n : Int) (i : Nat) : Byte (byteOf n i) := by unfold Byte byteOf; omega

theorem C5.new (w : World) (l0 l1 l2 l3 l4 : Int) (t : TypeId) : C5 (w.alloc (.cells #[.int .u64 l0, .int .u64 l1, .int .u64 l2, .int .u64 l3, .int .u64 l4] t)) w.heap.size 0 l0 l1 l2 l3 l4 :=
  ⟨by simp, by simp, by simp, by simp, by simp, by simp, by simp, by simp, by simp, by simp⟩

theorem or_wrap (i : Nat) (hi : i ≤ 64) (x y : Int) (hy0 : 0 ≤ y) (hy : y < 2 ^ i) : bits .or .u64 (IntKind.u64.wrap (x * 2 ^ i)) y = (x * 2 ^ i + y) % 18446744073709551616 := by
  rw [IntKind.wrap_u64]
  have hp : (2 : Int) ^ 64 = 2 ^ i * 2 ^ (64 - i) := by rw [← Int.pow_add]; congr 1; omega
  have h64 : (18446744073709551616 : Int) = 2 ^ 64 := by decide
  have hpi : (0 : Int) < 2 ^ i := Int.pow_pos (by decide)
  have e : x * 2 ^ i % 18446744073709551616 = x % 2 ^ (64 - i) * 2 ^ i := by
    rw [h64, hp, Int.mul_comm x, Int.mul_emod_mul_of_pos _ _ hpi, Int.mul_comm]
  have hq : (2 : Int) ^ i ≤ 18446744073709551616 := by
    rw [h64]
    have h := Int.ofNat_le.2 (Nat.pow_le_pow_right (show 0 < 2 by decide) hi)
    rw [Int.natCast_pow, Int.natCast_pow] at h
    exact h
  have m0 : 0 ≤ x * 2 ^ i % 18446744073709551616 := Int.emod_nonneg _ (by decide)
  have m1 : x * 2 ^ i % 18446744073709551616 < 18446744073709551616 := Int.emod_lt_of_pos _ (by decide)
  rw [or_join i _ y m0 (by rw [e, Int.mul_emod_left]) m1 hy0 hy (by omega)]
  have lt : x * 2 ^ i % 18446744073709551616 + y < 18446744073709551616 := by
    have a1 : x % 2 ^ (64 - i) ≤ 2 ^ (64 - i) - 1 := by
      have := Int.emod_lt_of_pos x (show (0 : Int) < 2 ^ (64 - i) from Int.pow_pos (by decide))
      omega
    have a2 := Int.mul_le_mul_of_nonneg_right a1 (Int.le_of_lt hpi)
    rw [Int.sub_mul, ← Int.pow_add, show 64 - i + i = 64 by omega, Int.one_mul] at a2
    rw [e]
    omega
  rw [Int.add_emod, Int.emod_eq_of_lt (a := y) hy0 (by omega), Int.emod_eq_of_lt (by omega) lt]

theorem byte_part (N : Int) (k i : Nat) (hi : i < 8) : N / 256 ^ k % 18446744073709551616 / 256 ^ i % 256 = byteOf N (k + i) := by
  unfold byteOf
  rw [Int.pow_add, ← Int.ediv_ediv_of_nonneg (Int.le_of_lt (Int.pow_pos (by decide)))]
  generalize N / 256 ^ k = M
  have : i = 0 ∨ i = 1 ∨ i = 2 ∨ i = 3 ∨ i = 4 ∨ i = 5 ∨ i = 6 ∨ i = 7 := by omega
  rcases this with rfl | rfl | rfl | rfl | rfl | rfl | rfl | rfl <;> omega

set_option maxRecDepth 100000 in
theorem bytes115_c (ab ao ob : Nat) (X : F) (w : World) (hX : ElR w ab ao X) (hw : Wy w ob 0 32) :
    Calls Tryz.prog 115 #[.pointer (some ⟨ab, ao, none⟩), .pointer (some ⟨ob, 0, none⟩)] w fun e w' => e = .returned (.slice (some ⟨ob, 0, none⟩) 32 32) ∧ Upd w w' (Rg ob 0 32) ∧ By w' ob 0 32 (byteOf X.val) ∧ Wy w' ob 0 32 := by
  obtain ⟨a0, a1, a2, a3, a4, ha, la0, la1, la2, la3, la4, hx⟩ := hX
  have Hx := Lib.hid hx
  clear hx
  obtain ⟨c0, c1, c2, c3, c4⟩ := id ha
  have hob := hw.lt (by decide)
  go_enter Tryz.func115, Tryz.ntmps115
  go_wp2_with fail
  have hE : El (w.alloc (.cells #[.int .u64 a0, .int .u64 a1, .int .u64 a2, .int .u64 a3, .int .u64 a4] 40)) w.heap.size 0 X := ⟨_, _, _, _, _, C5.new _ _ _ _ _ _ _, la0, la1, la2, la3, la4, Hx.out⟩
  refine (reduce_c _ _ X _ hE).mono ?_
  rintro e w1 ⟨rfl, hU, n0, n1, n2, n3, n4, hC, ⟨p0, q0⟩, ⟨p1, q1⟩, ⟨p2, q2⟩, ⟨p3, q3⟩, ⟨p4, q4⟩, hN⟩
  have HN := Lib.hid hN
  have hA := ((Upd.refl w (Rg ob 0 32)).alloc (.cells #[.int .u64 a0, .int .u64 a1, .int .u64 a2, .int .u64 a3, .int .u64 a4] 40)).trans hU (fun b o hb h => absurd h.1 (by omega))
  have hw1 := hw.keep (((Upd.refl w (fun _ _ => False)).alloc (.cells #[.int .u64 a0, .int .u64 a1, .int .u64 a2, .int .u64 a3, .int .u64 a4] 40)).trans hU (fun b o hb h => absurd h.1 (by omega))) (fun _ _ h => h)
  clear hN hE hU c0 c1 c2 c3 c4 ha hw la0 la1 la2 la3 la4
  have d0 : w1.cell? ⟨w.heap.size, 0, none⟩ = some (.int .u64 n0) := hC.c0
  have d1 : w1.cell? ⟨w.heap.size, 1, none⟩ = some (.int .u64 n1) := hC.c1
  have d2 : w1.cell? ⟨w.heap.size, 2, none⟩ = some (.int .u64 n2) := hC.c2
  have d3 : w1.cell? ⟨w.heap.size, 3, none⟩ = some (.int .u64 n3) := hC.c3
  have d4 : w1.cell? ⟨w.heap.size, 4, none⟩ = some (.int .u64 n4) := hC.c4
  go_wp2_with fail
  have e0 : bits .or .u64 (IntKind.u64.wrap (n1 * 2251799813685248)) n0 = (n1 * 2251799813685248 + n0) % 18446744073709551616 := or_wrap 51 (by decide) n1 n0 p0 (by omega)
  have e1 : bits .or .u64 (IntKind.u64.wrap (n2 * 274877906944)) (n1 / 8192) = (n2 * 274877906944 + n1 / 8192) % 18446744073709551616 := or_wrap 38 (by decide) n2 (n1 / 8192) (by omega) (by omega)
  have e2 : bits .or .u64 (IntKind.u64.wrap (n3 * 33554432)) (n2 / 67108864) = (n3 * 33554432 + n2 / 67108864) % 18446744073709551616 := or_wrap 25 (by decide) n3 (n2 / 67108864) (by omega) (by omega)
  have e3 : bits .or .u64 (n4 * 4096) (n3 / 549755813888) = n4 * 4096 + n3 / 549755813888 := or_join 12 (n4 * 4096) (n3 / 549755813888) (by omega) (by omega) (by omega) (by omega) (by omega) (by omega)
  rw [e0, e1, e2, e3]
  clear d0 d1 d2 d3 d4 e0 e1 e2 e3
  obtain ⟨x0, ex0⟩ : ∃ x, x = (n1 * 2251799813685248 + n0) % 18446744073709551616 := ⟨_, rfl⟩
  rw [← ex0]
  have X0 := Lib.hid ex0
  have l0 : 0 ≤ x0 := by omega
  have m0 : x0 < 18446744073709551616 := by omega
  clear ex0
  obtain ⟨x1, ex1⟩ : ∃ x, x = (n2 * 274877906944 + n1 / 8192) % 18446744073709551616 := ⟨_, rfl⟩
  rw [← ex1]
  have X1 := Lib.hid ex1
  have l1 : 0 ≤ x1 := by omega
  have m1 : x1 < 18446744073709551616 := by omega
  clear ex1
  obtain ⟨x2, ex2⟩ : ∃ x, x = (n3 * 33554432 + n2 / 67108864) % 18446744073709551616 := ⟨_, rfl⟩
  rw [← ex2]
  have X2 := Lib.hid ex2
  have l2 : 0 ≤ x2 := by omega
  have m2 : x2 < 18446744073709551616 := by omega
  clear ex2
  obtain ⟨x3, ex3⟩ : ∃ x, x = n4 * 4096 + n3 / 549755813888 := ⟨_, rfl⟩
  rw [← ex3]
  have X3 := Lib.hid ex3
  have l3 : 0 ≤ x3 := by omega
  have m3 : x3 < 18446744073709551616 := by omega
  clear ex3
  refine (put_c ob 0 32 32 x0 _ l0 m0 (by decide) (by decide) (by exact hw1.part 0 8 (by decide))).mono ?_
  rintro e w2 ⟨rfl, hU, hB0⟩
  replace hw1 := hw1.put (k := 0) hU hB0
  replace hA := hA.trans hU (fun b o _ h => ⟨h.1, by omega, by have := h.2.2; omega⟩)
  clear hU
  go_wp2_with fail
  refine (put_c ob 8 24 24 x1 _ l1 m1 (by decide) (by decide) (by exact hw1.part 8 8 (by decide))).mono ?_
  rintro e w3 ⟨rfl, hU, hB1⟩
  replace hw1 := hw1.put (k := 8) hU hB1
  replace hB0 := hB0.keep hU (fun i hi h => by have := h.2.1; have := h.2.2; omega)
  replace hA := hA.trans hU (fun b o _ h => ⟨h.1, by omega, by have := h.2.2; omega⟩)
  clear hU
  go_wp2_with fail
  refine (put_c ob 16 16 16 x2 _ l2 m2 (by decide) (by decide) (by exact hw1.part 16 8 (by decide))).mono ?_
  rintro e w4 ⟨rfl, hU, hB2⟩
  replace hw1 := hw1.put (k := 16) hU hB2
  replace hB0 := hB0.keep hU (fun i hi h => by have := h.2.1; have := h.2.2; omega)
  replace hB1 := hB1.keep hU (fun i hi h => by have := h.2.1; have := h.2.2; omega)
  replace hA := hA.trans hU (fun b o _ h => ⟨h.1, by omega, by have := h.2.2; omega⟩)
  clear hU
  go_wp2_with fail
  refine (put_c ob 24 8 8 x3 _ l3 m3 (by decide) (by decide) (by exact hw1.part 24 8 (by decide))).mono ?_
  rintro e w5 ⟨rfl, hU, hB3⟩
  replace hw1 := hw1.put (k := 24) hU hB3
  replace hB0 := hB0.keep hU (fun i hi h => by have := h.2.1; have := h.2.2; omega)
  replace hB1 := hB1.keep hU (fun i hi h => by have := h.2.1; have := h.2.2; omega)
  replace hB2 := hB2.keep hU (fun i hi h => by have := h.2.1; have := h.2.2; omega)
  replace hA := hA.trans hU (fun b o _ h => ⟨h.1, by omega, by have := h.2.2; omega⟩)
  clear hU
  go_wp2
  go_ret
  refine ⟨rfl, hA, ?_, hw1⟩
  have hv : (X.val : Int) = lv n0 n1 n2 n3 n4 := HN.out.symm
  rw [hv]
  have y0 : x0 = lv n0 n1 n2 n3 n4 / 256 ^ 0 % 18446744073709551616 := by rw [X0.out]; unfold lv; omega
  rw [y0] at hB0
  have y1 : x1 = lv n0 n1 n2 n3 n4 / 256 ^ 8 % 18446744073709551616 := by rw [X1.out]; unfold lv; omega
  rw [y1] at hB1
  have y2 : x2 = lv n0 n1 n2 n3 n4 / 256 ^ 16 % 18446744073709551616 := by rw [X2.out]; unfold lv; omega
  rw [y2] at hB2
  have y3 : x3 = lv n0 n1 n2 n3 n4 / 256 ^ 24 % 18446744073709551616 := by rw [X3.out]; unfold lv; omega
  rw [y3] at hB3
  intro i hi
  by_cases h1 : i < 8
  · have := hB0 i h1; simp only [byte_part _ 0 i h1, Nat.zero_add] at this ⊢; exact this
  · by_cases h2 : i < 16
    · obtain ⟨j, rfl⟩ : ∃ j, i = 8 + j := ⟨i - 8, by omega⟩
      have := hB1 j (by omega); simp only [byte_part _ 8 j (show j < 8 by omega), Nat.zero_add] at this ⊢; exact this
    · by_cases h3 : i < 24
      · obtain ⟨j, rfl⟩ : ∃ j, i = 16 + j := ⟨i - 16, by omega⟩
        have := hB2 j (by omega); simp only [byte_part _ 16 j (show j < 8 by omega), Nat.zero_add] at this ⊢; exact this
      · obtain ⟨j, rfl⟩ : ∃ j, i = 24 + j := ⟨i - 24, by omega⟩
        have := hB3 j (by omega); simp only [byte_part _ 24 j (show j < 8 by omega), Nat.zero_add] at this ⊢; exact this

/-- the array of 32 bytes at zero -/
def zero32 : Obj := .cells #[.int .u8 0, .int .u8 0, .int .u8 0, .int .u8 0, .int .u8 0, .int .u8 0, .int .u8 0, .int .u8 0, .int .u8 0, .int .u8 0, .int .u8 0, .int .u8 0, .int .u8 0, .int .u8 0, .int .u8 0, .int .u8 0, .int .u8 0, .int .u8 0, .int .u8 0, .int .u8 0, .int .u8 0, .int .u8 0, .int .u8 0, .int .u8 0, .int .u8 0, .int .u8 0, .int .u8 0, .int .u8 0, .int .u8 0, .int .u8 0, .int .u8 0, .int .u8 0] 22

theorem zero32_wy (w : World) : Wy (w.alloc zero32) w.heap.size 0 32 := by
  intro i hi
  rw [Nat.zero_add]
  refine ⟨⟨0, ?_⟩, ?_⟩
  · show (w.alloc (.cells #[.int .u8 0, .int .u8 0, .int .u8 0, .int .u8 0, .int .u8 0, .int .u8 0, .int .u8 0, .int .u8 0, .int .u8 0, .int .u8 0, .int .u8 0, .int .u8 0, .int .u8 0, .int .u8 0, .int .u8 0, .int .u8 0, .int .u8 0, .int .u8 0, .int .u8 0, .int .u8 0, .int .u8 0, .int .u8 0, .int .u8 0, .int .u8 0, .int .u8 0, .int .u8 0, .int .u8 0, .int .u8 0, .int .u8 0, .int .u8 0, .int .u8 0, .int .u8 0] 22)).cell? _ = _
    rw [World.cell?_alloc_new, show (#[.int .u8 0, .int .u8 0, .int .u8 0, .int .u8 0, .int .u8 0, .int .u8 0, .int .u8 0, .int .u8 0, .int .u8 0, .int .u8 0, .int .u8 0, .int .u8 0, .int .u8 0, .int .u8 0, .int .u8 0, .int .u8 0, .int .u8 0, .int .u8 0, .int .u8 0, .int .u8 0, .int .u8 0, .int .u8 0, .int .u8 0, .int .u8 0, .int .u8 0, .int .u8 0, .int .u8 0, .int .u8 0, .int .u8 0, .int .u8 0, .int .u8 0, .int .u8 0] : Array Value) = Array.replicate 32 (.int .u8 0) from rfl, Array.getElem?_replicate, if_pos hi]
  · show (w.alloc (.cells #[.int .u8 0, .int .u8 0, .int .u8 0, .int .u8 0, .int .u8 0, .int .u8 0, .int .u8 0, .int .u8 0, .int .u8 0, .int .u8 0, .int .u8 0, .int .u8 0, .int .u8 0, .int .u8 0, .int .u8 0, .int .u8 0, .int .u8 0, .int .u8 0, .int .u8 0, .int .u8 0, .int .u8 0, .int .u8 0, .int .u8 0, .int .u8 0, .int .u8 0, .int .u8 0, .int .u8 0, .int .u8 0, .int .u8 0, .int .u8 0, .int .u8 0, .int .u8 0] 22)).frozen? _ = _
    exact World.frozen?_alloc_new _ _ _ _

set_option maxRecDepth 100000 in
theorem bytes110_c (ab ao : Nat) (X : F) (w : World) (hX : ElR w ab ao X) :
    Calls Tryz.prog 110 #[.pointer (some ⟨ab, ao, none⟩)] w fun e w' => e = .returned (.slice (some ⟨w.heap.size, 0, none⟩) 32 32) ∧ Upd w w' (fun _ _ => False) ∧ By w' w.heap.size 0 32 (byteOf X.val) ∧ Wy w' w.heap.size 0 32 := by
  go_enter Tryz.func110, Tryz.ntmps110
  have hl := hX.lt
  have hX' : ElR (w.alloc zero32) ab ao X := hX.keep ((Upd.refl w (fun _ _ => False)).alloc zero32) (fun _ _ h => h)
  go_wp2_with fail
  refine (bytes115_c ab ao w.heap.size X (w.alloc zero32) hX' (zero32_wy w)).mono ?_
  rintro e w1 ⟨rfl, hU, hB, hW⟩
  go_wp2
  go_ret
  exact ⟨rfl, ((Upd.refl w (fun _ _ => False)).alloc zero32).trans hU (fun b o hb h => absurd h.1 (by omega)), hB, hW⟩
end Go.Proofs.YtkibnongmkhbaaaGreatDoor
end
