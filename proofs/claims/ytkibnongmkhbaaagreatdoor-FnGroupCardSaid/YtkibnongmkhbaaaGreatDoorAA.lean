/- Part of the proof that laws.FnGroup returns true for all 32 bytes p, q and x: the words of memory and the field's multiplication.
   Conditions: those that each theorem states. -/
import Derived.Test.YtkibnongmkhbaaaGreatDoorProg
import Derived.WalkKit
import Derived.WalkSpells
import Derived.Deep.QuietTactic
import Derived.BigQuiet
import Derived.StillTailTactics
import Derived.Lib.Hide
import Derived.Test.YtkibnongmkhbaaaGreatDoorPA

section
open Go Go.RowKit
namespace Go.Proofs.YtkibnongmkhbaaaGreatDoor
open Ed

theorem wrap64_self (n : Nat) (h : n < 18446744073709551616) : IntKind.u64.wrap (n : Int) = (n : Int) := by
  simp only [IntKind.wrap, IntKind.bits, IntKind.signed]
  simp
  omega

theorem and_mask (i : Nat) (hi : i ≤ 64) (m x : Int) (hm : (BitVec.ofInt 64 m).toNat = 2 ^ i - 1) : bits .and .u64 x m = x % 2 ^ i := by
  have key : (BitVec.ofInt 64 x &&& BitVec.ofInt 64 m).toNat = (x % ((2 ^ 64 : Nat) : Int)).toNat % 2 ^ i := by
    rw [BitVec.toNat_and, BitVec.toNat_ofInt, hm, Nat.and_two_pow_sub_one_eq_mod]
  show IntKind.u64.wrap ((BitVec.ofInt 64 x &&& BitVec.ofInt 64 m).toNat : Nat) = _
  rw [wrap64_self _ (BitVec.isLt _), key, Int.natCast_emod, Int.toNat_of_nonneg (Int.emod_nonneg _ (by decide)), Int.natCast_pow]
  refine Int.emod_emod_of_dvd x ?_
  rw [← Int.natCast_pow, Int.natCast_dvd_natCast]
  exact Nat.pow_dvd_pow 2 hi

@[go_sem] theorem and51 (x : Int) : bits .and .u64 x 2251799813685247 = x % 2251799813685248 := and_mask 51 (by decide) _ x (by decide)
@[go_sem] theorem and32 (x : Int) : bits .and .u64 x 4294967295 = x % 4294967296 := and_mask 32 (by decide) _ x (by decide)
@[go_sem] theorem and1 (x : Int) : bits .and .u64 x 1 = x % 2 := and_mask 1 (by decide) _ x (by decide)

theorem still_tail {P : Program} {id : Nat} {Q : Exit → Act → World → Prop} {a : Act} {w : World} {l : List Oper} (n : Nat) (hm : P.follows .mixedOrders = true) (hB : Region.lexTailB .any l.toArray n = true)
    (h : wpStill P l.toArray w.drew (fun a' => wpList P l.toArray Q (l.drop n) a' w.drew) (l.take n) a) : (Code.region id l.toArray true).wp P Q a w := wp_region_still_tail n hm hB h

theorem still_all {P : Program} {id : Nat} {Q : Exit → Act → World → Prop} {a : Act} {w : World} {l : List Oper} (hm : P.follows .mixedOrders = true) (hB : Region.lexB .any l.toArray = true)
    (h : wpStill P l.toArray w.drew (fun a' => Q .normal a' w.drew) l a) : (Code.region id l.toArray true).wp P Q a w := wp_region_still_lit hm hB h

/-- the cells of block vb from vo on, n of them -/
def Rg (vb vo n : Nat) (b o : Nat) : Prop := b = vb ∧ vo ≤ o ∧ o < vo + n

/-- from w to w': only cells of S have been written, among what was there; new blocks may have come -/
structure Upd (w w' : World) (S : Nat → Nat → Prop) : Prop where
  os : w'.os = w.os
  tape : w'.tape = w.tape
  output : w'.output = w.output
  size : w.heap.size ≤ w'.heap.size
  cell : ∀ b o, b < w.heap.size → ¬ S b o → w'.cell? ⟨b, o, none⟩ = w.cell? ⟨b, o, none⟩
  froz : ∀ b o, b < w.heap.size → w'.frozen? ⟨b, o, none⟩ = w.frozen? ⟨b, o, none⟩
  block : ∀ b, b < w.heap.size → (∀ o, ¬ S b o) → w'.heap[b]? = w.heap[b]?

theorem Upd.refl (w : World) (S : Nat → Nat → Prop) : Upd w w S := ⟨rfl, rfl, rfl, Nat.le_refl _, fun _ _ _ _ => rfl, fun _ _ _ => rfl, fun _ _ _ => rfl⟩

theorem Upd.trans {w w1 w2 : World} {S T : Nat → Nat → Prop} (h : Upd w w1 S) (k : Upd w1 w2 T) (hs : ∀ b o, b < w.heap.size → T b o → S b o) : Upd w w2 S where
  os := k.os.trans h.os
  tape := k.tape.trans h.tape
  output := k.output.trans h.output
  size := Nat.le_trans h.size k.size
  cell := fun b o hb hn => (k.cell b o (Nat.lt_of_lt_of_le hb h.size) (fun ht => hn (hs b o hb ht))).trans (h.cell b o hb hn)
  froz := fun b o hb => (k.froz b o (Nat.lt_of_lt_of_le hb h.size)).trans (h.froz b o hb)
  block := fun b hb hn => (k.block b (Nat.lt_of_lt_of_le hb h.size) (fun o ht => hn o (hs b o hb ht))).trans (h.block b hb hn)

theorem Upd.drew {w w1 : World} {S : Nat → Nat → Prop} (h : Upd w w1 S) : Upd w w1.drew S := ⟨h.os, h.tape, h.output, h.size, h.cell, h.froz, h.block⟩

theorem Upd.alloc {w w1 : World} {S : Nat → Nat → Prop} (h : Upd w w1 S) (x : Obj) : Upd w (w1.alloc x) S :=
  h.trans (T := fun _ _ => False) ⟨rfl, rfl, rfl, by simp, fun b o hb _ => World.cell?_alloc_old _ _ _ (show b ≠ _ by omega), fun b o hb => World.frozen?_alloc_old _ _ _ (show b ≠ _ by omega),
    fun b hb _ => Below.heap_alloc w1 x b hb⟩ (fun _ _ _ h => h.elim)

theorem Upd.set {w w1 : World} {S : Nat → Nat → Prop} (h : Upd w w1 S) {b o : Nat} (hs : b < w.heap.size → S b o) (v : Value) : Upd w (w1.setCell ⟨b, o, none⟩ v) S := by
  refine h.trans (T := fun b' o' => b' = b ∧ o' = o) ⟨rfl, rfl, rfl, by simp, ?_, fun b o hb => World.frozen?_setCell _ _ _ _, ?_⟩ ?_
  · intro b' o' _ hn
    exact World.cell?_setCell_other _ _ _ _ (by intro e; cases e; exact hn ⟨rfl, rfl⟩)
  · intro b' _ hn
    exact heap_setCell_other w1 _ _ _ (by intro e; exact hn o ⟨e, rfl⟩)
  · rintro b' o' hb ⟨rfl, rfl⟩
    exact hs hb

theorem Upd.wide {w w1 : World} {S T : Nat → Nat → Prop} (h : Upd w w1 T) (hs : ∀ b o, b < w.heap.size → T b o → S b o) : Upd w w1 S := (Upd.refl w S).trans h hs

theorem Upd.below {w w1 : World} {B : Nat} {S : Nat → Nat → Prop} (h : Upd w w1 S) (hB : B ≤ w.heap.size) (hs : ∀ b o, b < B → ¬ S b o) : Below B w w1 :=
  ⟨h.os, h.tape, h.output, h.size, fun k hk => h.block k (Nat.lt_of_lt_of_le hk hB) (fun o => hs k o hk)⟩

/-- five cells -/
structure C5 (w : World) (b o : Nat) (l0 l1 l2 l3 l4 : Int) : Prop where
  c0 : w.cell? ⟨b, o, none⟩ = some (.int .u64 l0)
  c1 : w.cell? ⟨b, o + 1, none⟩ = some (.int .u64 l1)
  c2 : w.cell? ⟨b, o + 2, none⟩ = some (.int .u64 l2)
  c3 : w.cell? ⟨b, o + 3, none⟩ = some (.int .u64 l3)
  c4 : w.cell? ⟨b, o + 4, none⟩ = some (.int .u64 l4)
  f0 : w.frozen? ⟨b, o, none⟩ = false
  f1 : w.frozen? ⟨b, o + 1, none⟩ = false
  f2 : w.frozen? ⟨b, o + 2, none⟩ = false
  f3 : w.frozen? ⟨b, o + 3, none⟩ = false
  f4 : w.frozen? ⟨b, o + 4, none⟩ = false

/-- five cells, to be read -/
structure R5 (w : World) (b o : Nat) (l0 l1 l2 l3 l4 : Int) : Prop where
  c0 : w.cell? ⟨b, o, none⟩ = some (.int .u64 l0)
  c1 : w.cell? ⟨b, o + 1, none⟩ = some (.int .u64 l1)
  c2 : w.cell? ⟨b, o + 2, none⟩ = some (.int .u64 l2)
  c3 : w.cell? ⟨b, o + 3, none⟩ = some (.int .u64 l3)
  c4 : w.cell? ⟨b, o + 4, none⟩ = some (.int .u64 l4)

theorem C5.r {w : World} {b o : Nat} {l0 l1 l2 l3 l4 : Int} (h : C5 w b o l0 l1 l2 l3 l4) : R5 w b o l0 l1 l2 l3 l4 := ⟨h.c0, h.c1, h.c2, h.c3, h.c4⟩
theorem R5.lt {w : World} {b o : Nat} {l0 l1 l2 l3 l4 : Int} (h : R5 w b o l0 l1 l2 l3 l4) : b < w.heap.size := World.block_lt_of_cell? w _ h.c0
theorem R5.keep {w w' : World} {S : Nat → Nat → Prop} {b o : Nat} {l0 l1 l2 l3 l4 : Int} (hu : Upd w w' S) (h : R5 w b o l0 l1 l2 l3 l4) (hn : ∀ i, i < 5 → ¬ S b (o + i)) : R5 w' b o l0 l1 l2 l3 l4 where
  c0 := (hu.cell b o h.lt (hn 0 (by omega))).trans h.c0
  c1 := (hu.cell b (o + 1) h.lt (hn 1 (by omega))).trans h.c1
  c2 := (hu.cell b (o + 2) h.lt (hn 2 (by omega))).trans h.c2
  c3 := (hu.cell b (o + 3) h.lt (hn 3 (by omega))).trans h.c3
  c4 := (hu.cell b (o + 4) h.lt (hn 4 (by omega))).trans h.c4

/-- a limb between operations -/
def Lim (l : Int) : Prop := 0 ≤ l ∧ l < 2251799813947392

/-- an element in memory -/
def El (w : World) (b o : Nat) (x : F) : Prop :=
  ∃ l0 l1 l2 l3 l4 : Int, C5 w b o l0 l1 l2 l3 l4 ∧ Lim l0 ∧ Lim l1 ∧ Lim l2 ∧ Lim l3 ∧ Lim l4 ∧ z (lv l0 l1 l2 l3 l4) = x

theorem C5.lt {w : World} {b o : Nat} {l0 l1 l2 l3 l4 : Int} (h : C5 w b o l0 l1 l2 l3 l4) : b < w.heap.size := World.block_lt_of_cell? w _ h.c0
theorem El.lt {w : World} {b o : Nat} {x : F} (h : El w b o x) : b < w.heap.size := by
  obtain ⟨_, _, _, _, _, h, _⟩ := h
  exact h.lt

theorem C5.keep {w w' : World} {S : Nat → Nat → Prop} {b o : Nat} {l0 l1 l2 l3 l4 : Int} (hu : Upd w w' S) (h : C5 w b o l0 l1 l2 l3 l4) (hn : ∀ i, i < 5 → ¬ S b (o + i)) : C5 w' b o l0 l1 l2 l3 l4 where
  c0 := (hu.cell b o h.lt (hn 0 (by omega))).trans h.c0
  c1 := (hu.cell b (o + 1) h.lt (hn 1 (by omega))).trans h.c1
  c2 := (hu.cell b (o + 2) h.lt (hn 2 (by omega))).trans h.c2
  c3 := (hu.cell b (o + 3) h.lt (hn 3 (by omega))).trans h.c3
  c4 := (hu.cell b (o + 4) h.lt (hn 4 (by omega))).trans h.c4
  f0 := (hu.froz b o h.lt).trans h.f0
  f1 := (hu.froz b (o + 1) h.lt).trans h.f1
  f2 := (hu.froz b (o + 2) h.lt).trans h.f2
  f3 := (hu.froz b (o + 3) h.lt).trans h.f3
  f4 := (hu.froz b (o + 4) h.lt).trans h.f4

theorem El.keep {w w' : World} {S : Nat → Nat → Prop} {b o : Nat} {x : F} (hu : Upd w w' S) (h : El w b o x) (hn : ∀ i, i < 5 → ¬ S b (o + i)) : El w' b o x := by
  obtain ⟨l0, l1, l2, l3, l4, h, r⟩ := h
  exact ⟨l0, l1, l2, l3, l4, h.keep hu hn, r⟩

theorem C5.drew {w : World} {b o : Nat} {l0 l1 l2 l3 l4 : Int} (h : C5 w b o l0 l1 l2 l3 l4) : C5 w.drew b o l0 l1 l2 l3 l4 := ⟨h.c0, h.c1, h.c2, h.c3, h.c4, h.f0, h.f1, h.f2, h.f3, h.f4⟩
theorem El.drew {w : World} {b o : Nat} {x : F} (h : El w b o x) : El w.drew b o x := by
  obtain ⟨l0, l1, l2, l3, l4, h, r⟩ := h
  exact ⟨l0, l1, l2, l3, l4, h.drew, r⟩

theorem C5.set0 {w : World} {b o : Nat} {l0 l1 l2 l3 l4 : Int} (h : C5 w b o l0 l1 l2 l3 l4) (v : Int) : C5 (w.setCell ⟨b, o, none⟩ (.int .u64 v)) b o v l1 l2 l3 l4 where
  c0 := World.cell?_setCell_same _ _ _ h.c0
  c1 := (World.cell?_setCell_other _ _ _ _ (by simp)).trans h.c1
  c2 := (World.cell?_setCell_other _ _ _ _ (by simp)).trans h.c2
  c3 := (World.cell?_setCell_other _ _ _ _ (by simp)).trans h.c3
  c4 := (World.cell?_setCell_other _ _ _ _ (by simp)).trans h.c4
  f0 := (World.frozen?_setCell _ _ _ _).trans h.f0
  f1 := (World.frozen?_setCell _ _ _ _).trans h.f1
  f2 := (World.frozen?_setCell _ _ _ _).trans h.f2
  f3 := (World.frozen?_setCell _ _ _ _).trans h.f3
  f4 := (World.frozen?_setCell _ _ _ _).trans h.f4
theorem C5.set1 {w : World} {b o : Nat} {l0 l1 l2 l3 l4 : Int} (h : C5 w b o l0 l1 l2 l3 l4) (v : Int) : C5 (w.setCell ⟨b, o + 1, none⟩ (.int .u64 v)) b o l0 v l2 l3 l4 where
  c0 := (World.cell?_setCell_other _ _ _ _ (by simp)).trans h.c0
  c1 := World.cell?_setCell_same _ _ _ h.c1
  c2 := (World.cell?_setCell_other _ _ _ _ (by simp)).trans h.c2
  c3 := (World.cell?_setCell_other _ _ _ _ (by simp)).trans h.c3
  c4 := (World.cell?_setCell_other _ _ _ _ (by simp)).trans h.c4
  f0 := (World.frozen?_setCell _ _ _ _).trans h.f0
  f1 := (World.frozen?_setCell _ _ _ _).trans h.f1
  f2 := (World.frozen?_setCell _ _ _ _).trans h.f2
  f3 := (World.frozen?_setCell _ _ _ _).trans h.f3
  f4 := (World.frozen?_setCell _ _ _ _).trans h.f4
theorem C5.set2 {w : World} {b o : Nat} {l0 l1 l2 l3 l4 : Int} (h : C5 w b o l0 l1 l2 l3 l4) (v : Int) : C5 (w.setCell ⟨b, o + 2, none⟩ (.int .u64 v)) b o l0 l1 v l3 l4 where
  c0 := (World.cell?_setCell_other _ _ _ _ (by simp)).trans h.c0
  c1 := (World.cell?_setCell_other _ _ _ _ (by simp)).trans h.c1
  c2 := World.cell?_setCell_same _ _ _ h.c2
  c3 := (World.cell?_setCell_other _ _ _ _ (by simp)).trans h.c3
  c4 := (World.cell?_setCell_other _ _ _ _ (by simp)).trans h.c4
  f0 := (World.frozen?_setCell _ _ _ _).trans h.f0
  f1 := (World.frozen?_setCell _ _ _ _).trans h.f1
  f2 := (World.frozen?_setCell _ _ _ _).trans h.f2
  f3 := (World.frozen?_setCell _ _ _ _).trans h.f3
  f4 := (World.frozen?_setCell _ _ _ _).trans h.f4
theorem C5.set3 {w : World} {b o : Nat} {l0 l1 l2 l3 l4 : Int} (h : C5 w b o l0 l1 l2 l3 l4) (v : Int) : C5 (w.setCell ⟨b, o + 3, none⟩ (.int .u64 v)) b o l0 l1 l2 v l4 where
  c0 := (World.cell?_setCell_other _ _ _ _ (by simp)).trans h.c0
  c1 := (World.cell?_setCell_other _ _ _ _ (by simp)).trans h.c1
  c2 := (World.cell?_setCell_other _ _ _ _ (by simp)).trans h.c2
  c3 := World.cell?_setCell_same _ _ _ h.c3
  c4 := (World.cell?_setCell_other _ _ _ _ (by simp)).trans h.c4
  f0 := (World.frozen?_setCell _ _ _ _).trans h.f0
  f1 := (World.frozen?_setCell _ _ _ _).trans h.f1
  f2 := (World.frozen?_setCell _ _ _ _).trans h.f2
  f3 := (World.frozen?_setCell _ _ _ _).trans h.f3
  f4 := (World.frozen?_setCell _ _ _ _).trans h.f4
theorem C5.set4 {w : World} {b o : Nat} {l0 l1 l2 l3 l4 : Int} (h : C5 w b o l0 l1 l2 l3 l4) (v : Int) : C5 (w.setCell ⟨b, o + 4, none⟩ (.int .u64 v)) b o l0 l1 l2 l3 v where
  c0 := (World.cell?_setCell_other _ _ _ _ (by simp)).trans h.c0
  c1 := (World.cell?_setCell_other _ _ _ _ (by simp)).trans h.c1
  c2 := (World.cell?_setCell_other _ _ _ _ (by simp)).trans h.c2
  c3 := (World.cell?_setCell_other _ _ _ _ (by simp)).trans h.c3
  c4 := World.cell?_setCell_same _ _ _ h.c4
  f0 := (World.frozen?_setCell _ _ _ _).trans h.f0
  f1 := (World.frozen?_setCell _ _ _ _).trans h.f1
  f2 := (World.frozen?_setCell _ _ _ _).trans h.f2
  f3 := (World.frozen?_setCell _ _ _ _).trans h.f3
  f4 := (World.frozen?_setCell _ _ _ _).trans h.f4

/-- an element in memory, to be read -/
def ElR (w : World) (b o : Nat) (x : F) : Prop :=
  ∃ l0 l1 l2 l3 l4 : Int, R5 w b o l0 l1 l2 l3 l4 ∧ Lim l0 ∧ Lim l1 ∧ Lim l2 ∧ Lim l3 ∧ Lim l4 ∧ z (lv l0 l1 l2 l3 l4) = x
theorem El.r {w : World} {b o : Nat} {x : F} (h : El w b o x) : ElR w b o x := by
  obtain ⟨l0, l1, l2, l3, l4, h, r⟩ := h
  exact ⟨l0, l1, l2, l3, l4, h.r, r⟩
theorem ElR.lt {w : World} {b o : Nat} {x : F} (h : ElR w b o x) : b < w.heap.size := by
  obtain ⟨_, _, _, _, _, h, _⟩ := h
  exact h.lt
theorem ElR.keep {w w' : World} {S : Nat → Nat → Prop} {b o : Nat} {x : F} (hu : Upd w w' S) (h : ElR w b o x) (hn : ∀ i, i < 5 → ¬ S b (o + i)) : ElR w' b o x := by
  obtain ⟨l0, l1, l2, l3, l4, h, r⟩ := h
  exact ⟨l0, l1, l2, l3, l4, h.keep hu hn, r⟩

/-- two elements: one, or apart -/
def Ap (vb vo ab ao : Nat) : Prop := vb ≠ ab ∨ vo = ao ∨ vo + 5 ≤ ao ∨ ao + 5 ≤ vo

end Go.Proofs.YtkibnongmkhbaaaGreatDoor
end

section
open Go Go.RowKit
namespace Go.Proofs.YtkibnongmkhbaaaGreatDoor
open Ed

theorem prod_lt (x y : Int) (hx : 0 ≤ x) (hx' : x ≤ 4294967295) (hy : 0 ≤ y) (hy' : y ≤ 4294967295) : 0 ≤ x * y ∧ x * y ≤ 18446744065119617025 :=
  ⟨Int.mul_nonneg hx hy, Int.le_trans (Int.mul_le_mul hx' hy' hy (by decide)) (by decide)⟩

theorem mul64_arith (x y : Int) (hx : 0 ≤ x) (hx' : x < 18446744073709551616) (hy : 0 ≤ y) (hy' : y < 18446744073709551616) :
    ((x / 4294967296 * (y / 4294967296) % 18446744073709551616 + (x / 4294967296 * (y % 4294967296) % 18446744073709551616 + x % 4294967296 * (y % 4294967296) % 18446744073709551616 / 4294967296) % 18446744073709551616 / 4294967296) % 18446744073709551616
      + ((x / 4294967296 * (y % 4294967296) % 18446744073709551616 + x % 4294967296 * (y % 4294967296) % 18446744073709551616 / 4294967296) % 18446744073709551616 % 4294967296 + x % 4294967296 * (y / 4294967296) % 18446744073709551616) % 18446744073709551616 / 4294967296) % 18446744073709551616
    = x * y / 18446744073709551616 := by
  have e1 : x = 4294967296 * (x / 4294967296) + x % 4294967296 := by omega
  have e2 : y = 4294967296 * (y / 4294967296) + y % 4294967296 := by omega
  have b1 : 0 ≤ x / 4294967296 ∧ x / 4294967296 ≤ 4294967295 := by omega
  have b2 : 0 ≤ y / 4294967296 ∧ y / 4294967296 ≤ 4294967295 := by omega
  have b3 : 0 ≤ x % 4294967296 ∧ x % 4294967296 ≤ 4294967295 := by omega
  have b4 : 0 ≤ y % 4294967296 ∧ y % 4294967296 ≤ 4294967295 := by omega
  generalize x / 4294967296 = x1 at *
  generalize y / 4294967296 = y1 at *
  generalize x % 4294967296 = x0 at *
  generalize y % 4294967296 = y0 at *
  have p1 := prod_lt x1 y1 b1.1 b1.2 b2.1 b2.2
  have p2 := prod_lt x1 y0 b1.1 b1.2 b4.1 b4.2
  have p3 := prod_lt x0 y0 b3.1 b3.2 b4.1 b4.2
  have p4 := prod_lt x0 y1 b3.1 b3.2 b2.1 b2.2
  have e : x * y = 18446744073709551616 * (x1 * y1) + 4294967296 * (x1 * y0) + 4294967296 * (x0 * y1) + x0 * y0 := by rw [e1, e2]; grind
  rw [e]
  generalize x1 * y1 = p at *
  generalize x1 * y0 = q at *
  generalize x0 * y0 = r at *
  generalize x0 * y1 = s at *
  clear e e1 e2
  omega

theorem mul64_c (x y : Int) (hx : 0 ≤ x) (hx' : x < 18446744073709551616) (hy : 0 ≤ y) (hy' : y < 18446744073709551616) (w : World) :
    Calls Tryz.prog 97 #[.int .u64 x, .int .u64 y] w fun e w' => e = .returned (.tuple #[.int .u64 (x * y / 18446744073709551616), .int .u64 (x * y % 18446744073709551616)]) ∧ w' = w := by
  go_enter Tryz.func97, Tryz.ntmps97
  go_wp2
  go_ret2
  refine ⟨?_, rfl⟩
  have h := mul64_arith x y hx hx' hy hy'
  simpa [IntKind.wrap_u64] using h

/-- the model's entry for math/bits.Sub64 -/
def sub64Entry : Array Value → Sem Value := fun args => do
  let (x, y, b) ← Extern.MathBitsCarry.three "Sub64" args
  pure (Extern.MathBitsCarry.pair ((x + Extern.MathBitsCarry.m64 - y - b) % Extern.MathBitsCarry.m64) (if x < y + b then 1 else 0))

theorem add64_run (x y c : Int) (hx : 0 ≤ x) (hy : 0 ≤ y) (hc0 : 0 ≤ c) (hc : c ≤ 1) (w : World) :
    (callFunc 95 #[.int .u64 x, .int .u64 y, .int .u64 c]).run Tryz.prog w =
      .ok (.value (.tuple #[.int .u64 ((x + y + c) % 18446744073709551616), .int .u64 ((x + y + c) / 18446744073709551616)])) w := by
  rw [run_callFunc_extern Tryz.func95 (by kernel_rfl) (by kernel_rfl) (by kernel_rfl) (e := add64Entry) (by kernel_rfl), run_add64 x y c hx hy hc0 hc]
  simp only [Result.andThen]

theorem sub64_run (x y c : Int) (hx : 0 ≤ x) (hy : 0 ≤ y) (hx' : x < 18446744073709551616) (hy' : y < 18446744073709551616) (hc0 : 0 ≤ c) (hc : c ≤ 1) (w : World) :
    (callFunc 83 #[.int .u64 x, .int .u64 y, .int .u64 c]).run Tryz.prog w =
      .ok (.value (.tuple #[.int .u64 ((x - y - c) % 18446744073709551616), .int .u64 (if x < y + c then 1 else 0)])) w := by
  have key : ∀ (X Y k : Nat), k ≤ 1 → (sub64Entry #[.int .u64 X, .int .u64 Y, .int .u64 k]).run Tryz.prog w =
      .ok (.tuple #[.int .u64 (((X + 18446744073709551616 - Y - k) % 18446744073709551616 : Nat) : Int), .int .u64 ((if X < Y + k then 1 else 0 : Nat) : Int)]) w := by
    intro X Y k hk
    have : k = 0 ∨ k = 1 := by omega
    rcases this with rfl | rfl <;> rfl
  obtain ⟨X, rfl⟩ := Int.eq_ofNat_of_zero_le hx
  obtain ⟨Y, rfl⟩ := Int.eq_ofNat_of_zero_le hy
  obtain ⟨k, rfl⟩ := Int.eq_ofNat_of_zero_le hc0
  rw [run_callFunc_extern Tryz.func83 (by kernel_rfl) (by kernel_rfl) (by kernel_rfl) (e := sub64Entry) (by kernel_rfl), key X Y k (by omega)]
  simp only [Result.andThen]
  congr 5
  · congr 1; omega
  · split <;> split <;> first | rfl | (exfalso; omega)

set_option maxRecDepth 100000 in
theorem mul_c (x y : Int) (hx : 0 ≤ x) (hx' : x < 18446744073709551616) (hy : 0 ≤ y) (hy' : y < 18446744073709551616) (w : World) :
    Calls Tryz.prog 102 #[.int .u64 x, .int .u64 y] w fun e w' => e = .returned (.agg #[.int .u64 (x * y % 18446744073709551616), .int .u64 (x * y / 18446744073709551616)]) ∧ Upd w w' (fun _ _ => False) := by
  go_enter Tryz.func102, Tryz.ntmps102
  go_wp2_with fail
  refine (mul64_c x y hx hx' hy hy' _).mono ?_
  rintro e w1 ⟨rfl, rfl⟩
  go_wp2
  exact bodyPost_ret (v := .agg #[.int .u64 (x * y % 18446744073709551616), .int .u64 (x * y / 18446744073709551616)]) (by simp [results, Tryz.results102, go_sem]) rfl
    ⟨rfl, (Upd.refl _ _).alloc _⟩


theorem upon_add64 {o : Oper} {a : Act} {K : Act → World → Prop} {Q : Exit → Act → World → Prop} {w : World} {x y c : Int} (hx : 0 ≤ x) (hy : 0 ≤ y) (hc0 : 0 ≤ c) (hc : c ≤ 1)
    (h : ∀ s d : Int, Hid (s = (x + y + c) % 18446744073709551616 ∧ d = (x + y + c) / 18446744073709551616) → 0 ≤ s → s < 18446744073709551616 → 0 ≤ d → d ≤ (x + y + c) / 18446744073709551616 → K (a.put o.dst (.tuple #[.int .u64 s, .int .u64 d])) w) :
    o.upon Tryz.prog a K Q ((callFunc 95 #[.int .u64 x, .int .u64 y, .int .u64 c]).run Tryz.prog w) := by
  rw [add64_run x y c hx hy hc0 hc w]
  exact h _ _ ⟨rfl, rfl⟩ (by omega) (by omega) (by omega) (by omega)

theorem mul19_c (x : Int) (w : World) (h0 : 0 ≤ x) (h1 : x < 576460752303423488) :
    Calls Tryz.prog 107 #[.int .u64 x] w fun e w' => e = .returned (.int .u64 (19 * x)) ∧ w' = w := by
  go_enter Tryz.func107, Tryz.ntmps107
  go_wp2
  go_ret
  refine ⟨?_, rfl⟩
  simp
  omega

set_option maxRecDepth 100000 in
theorem addMul_c (V x y : Int) (hV : 0 ≤ V) (hV' : V < 1329227995784915872903807060280344576) (hx : 0 ≤ x) (hx' : x < 18014398509481984) (hy : 0 ≤ y) (hy' : y < 18014398509481984) (w : World) :
    Calls Tryz.prog 105 #[.agg #[.int .u64 (V % 18446744073709551616), .int .u64 (V / 18446744073709551616)], .int .u64 x, .int .u64 y] w fun e w' =>
      e = .returned (.agg #[.int .u64 ((V + x * y) % 18446744073709551616), .int .u64 ((V + x * y) / 18446744073709551616)]) ∧ Upd w w' (fun _ _ => False) := by
  have hp : 0 ≤ x * y ∧ x * y ≤ 324518553658426690754359001612289 := ⟨Int.mul_nonneg hx hy, Int.le_trans (Int.mul_le_mul (show x ≤ 18014398509481983 by omega) (show y ≤ 18014398509481983 by omega) hy (by decide)) (by decide)⟩
  have g0 : 0 ≤ V % 18446744073709551616 := by omega
  have g1 : 0 ≤ V / 18446744073709551616 := by omega
  go_enter Tryz.func105, Tryz.ntmps105
  go_wp2_with fail
  refine (mul64_c x y hx (by omega) hy (by omega) _).mono ?_
  rintro e w1 ⟨rfl, rfl⟩
  generalize hpe : x * y = p at *
  have Hp := Lib.hid hpe
  clear hpe
  have g2 : 0 ≤ p % 18446744073709551616 := by omega
  have g3 : 0 ≤ p / 18446744073709551616 := by omega
  go_wp2_with fail
  refine upon_add64 (by omega) (by omega) (by omega) (by omega) (fun s d h1 h2 h3 h4 h5 => ?_)
  go_wp2_with fail
  refine upon_add64 (by omega) (by omega) (by omega) (by omega) (fun s' d' h1' h2' h3' h4' h5' => ?_)
  go_wp2
  have e1 := h1.out
  have e2 := h1'.out
  refine bodyPost_ret (v := .agg #[.int .u64 ((V + p) % 18446744073709551616), .int .u64 ((V + p) / 18446744073709551616)]) ?_ rfl
    ⟨by rw [Hp.out], ((Upd.refl _ _).alloc _).alloc _⟩
  rw [show (V + p) % 18446744073709551616 = s by omega, show (V + p) / 18446744073709551616 = s' by omega]
  simp [results, Tryz.results105, go_sem]
set_option maxRecDepth 100000 in
theorem addMul19_c (V x y : Int) (hV : 0 ≤ V) (hV' : V < 1329227995784915872903807060280344576) (hx : 0 ≤ x) (hx' : x < 18014398509481984) (hy : 0 ≤ y) (hy' : y < 18014398509481984) (w : World) :
    Calls Tryz.prog 104 #[.agg #[.int .u64 (V % 18446744073709551616), .int .u64 (V / 18446744073709551616)], .int .u64 x, .int .u64 y] w fun e w' =>
      e = .returned (.agg #[.int .u64 ((V + 19 * x * y) % 18446744073709551616), .int .u64 ((V + 19 * x * y) / 18446744073709551616)]) ∧ Upd w w' (fun _ _ => False) := by
  have hp : 0 ≤ 19 * x * y ∧ 19 * x * y ≤ 6165852519510107124332821030633491 := ⟨Int.mul_nonneg (by omega) hy, Int.le_trans (Int.mul_le_mul (show 19 * x ≤ 342273571680157677 by omega) (show y ≤ 18014398509481983 by omega) hy (by decide)) (by decide)⟩
  have g0 : 0 ≤ V % 18446744073709551616 := by omega
  have g1 : 0 ≤ V / 18446744073709551616 := by omega
  go_enter Tryz.func104, Tryz.ntmps104
  go_wp2_with fail
  refine (mul19_c x _ hx (by omega)).mono ?_
  rintro e w1 ⟨rfl, rfl⟩
  go_wp2_with fail
  refine (mul64_c (19 * x) y (by omega) (by omega) hy (by omega) _).mono ?_
  rintro e w1 ⟨rfl, rfl⟩
  generalize hpe : 19 * x * y = p at *
  have Hp := Lib.hid hpe
  clear hpe
  have g2 : 0 ≤ p % 18446744073709551616 := by omega
  have g3 : 0 ≤ p / 18446744073709551616 := by omega
  go_wp2_with fail
  refine upon_add64 (by omega) (by omega) (by omega) (by omega) (fun s d h1 h2 h3 h4 h5 => ?_)
  go_wp2_with fail
  refine upon_add64 (by omega) (by omega) (by omega) (by omega) (fun s' d' h1' h2' h3' h4' h5' => ?_)
  go_wp2
  have e1 := h1.out
  have e2 := h1'.out
  refine bodyPost_ret (v := .agg #[.int .u64 ((V + p) % 18446744073709551616), .int .u64 ((V + p) / 18446744073709551616)]) ?_ rfl
    ⟨by rw [Hp.out], ((Upd.refl _ _).alloc _).alloc _⟩
  rw [show (V + p) % 18446744073709551616 = s by omega, show (V + p) / 18446744073709551616 = s' by omega]
  simp [results, Tryz.results104, go_sem]
set_option maxRecDepth 100000 in
theorem addMul38_c (V x y : Int) (hV : 0 ≤ V) (hV' : V < 1329227995784915872903807060280344576) (hx : 0 ≤ x) (hx' : x < 18014398509481984) (hy : 0 ≤ y) (hy' : y < 18014398509481984) (w : World) :
    Calls Tryz.prog 103 #[.agg #[.int .u64 (V % 18446744073709551616), .int .u64 (V / 18446744073709551616)], .int .u64 x, .int .u64 y] w fun e w' =>
      e = .returned (.agg #[.int .u64 ((V + 19 * x * (y * 2)) % 18446744073709551616), .int .u64 ((V + 19 * x * (y * 2)) / 18446744073709551616)]) ∧ Upd w w' (fun _ _ => False) := by
  have hp : 0 ≤ 19 * x * (y * 2) ∧ 19 * x * (y * 2) ≤ 12331705039020214248665642061266982 := ⟨Int.mul_nonneg (by omega) (by omega), Int.le_trans (Int.mul_le_mul (show 19 * x ≤ 342273571680157677 by omega) (show y * 2 ≤ 36028797018963966 by omega) (by omega) (by decide)) (by decide)⟩
  have g0 : 0 ≤ V % 18446744073709551616 := by omega
  have g1 : 0 ≤ V / 18446744073709551616 := by omega
  go_enter Tryz.func103, Tryz.ntmps103
  go_wp2_with fail
  refine (mul19_c x _ hx (by omega)).mono ?_
  rintro e w1 ⟨rfl, rfl⟩
  go_wp2_with fail
  refine (mul64_c (19 * x) (y * 2) (by omega) (by omega) (by omega) (by omega) _).mono ?_
  rintro e w1 ⟨rfl, rfl⟩
  generalize hpe : 19 * x * (y * 2) = p at *
  have Hp := Lib.hid hpe
  clear hpe
  have g2 : 0 ≤ p % 18446744073709551616 := by omega
  have g3 : 0 ≤ p / 18446744073709551616 := by omega
  go_wp2_with fail
  refine upon_add64 (by omega) (by omega) (by omega) (by omega) (fun s d h1 h2 h3 h4 h5 => ?_)
  go_wp2_with fail
  refine upon_add64 (by omega) (by omega) (by omega) (by omega) (fun s' d' h1' h2' h3' h4' h5' => ?_)
  go_wp2
  have e1 := h1.out
  have e2 := h1'.out
  refine bodyPost_ret (v := .agg #[.int .u64 ((V + p) % 18446744073709551616), .int .u64 ((V + p) / 18446744073709551616)]) ?_ rfl
    ⟨by rw [Hp.out], ((Upd.refl _ _).alloc _).alloc _⟩
  rw [show (V + p) % 18446744073709551616 = s by omega, show (V + p) / 18446744073709551616 = s' by omega]
  simp [results, Tryz.results103, go_sem]
end Go.Proofs.YtkibnongmkhbaaaGreatDoor
end

section
open Go Go.RowKit
namespace Go.Proofs.YtkibnongmkhbaaaGreatDoor
open Ed

set_option maxRecDepth 100000 in
set_option maxHeartbeats 4000000 in
theorem carry_c (b o : Nat) (l0 l1 l2 l3 l4 : Int) (w : World) (h : C5 w b o l0 l1 l2 l3 l4)
    (n0 : 0 ≤ l0) (n1 : 0 ≤ l1) (n2 : 0 ≤ l2) (n3 : 0 ≤ l3) (n4 : 0 ≤ l4) (m0 : l0 < 18446744073709551616) (m1 : l1 < 18446744073709551616) (m2 : l2 < 18446744073709551616)
    (m3 : l3 < 18446744073709551616) (m4 : l4 < 18446744073709551616) :
    Calls Tryz.prog 86 #[.pointer (some ⟨b, o, none⟩)] w fun e w' => e = .returned (.pointer (some ⟨b, o, none⟩)) ∧ Upd w w' (Rg b o 5) ∧
      C5 w' b o (l0 % 2251799813685248 + 19 * (l4 / 2251799813685248)) (l1 % 2251799813685248 + l0 / 2251799813685248) (l2 % 2251799813685248 + l1 / 2251799813685248)
        (l3 % 2251799813685248 + l2 / 2251799813685248) (l4 % 2251799813685248 + l3 / 2251799813685248) := by
  have h' := h
  obtain ⟨c0, c1, c2, c3, c4, f0, f1, f2, f3, f4⟩ := h
  go_enter Tryz.func86, Tryz.ntmps86
  go_wp2
  refine still_tail 15 (by kernel_rfl) (by kernel_rfl) ?_
  simp only [List.take_succ_cons, List.take_zero, List.drop_succ_cons, List.drop_zero]
  repeat (first | still_step | still_call (mul19_c _ _ (by omega) (by omega)))
  refine wpStill_nil ?_
  go_wp2
  refine still_tail 14 (by kernel_rfl) (by kernel_rfl) ?_
  simp only [List.take_succ_cons, List.take_zero, List.drop_succ_cons, List.drop_zero]
  repeat still_step
  refine wpStill_nil ?_
  go_wp2
  refine still_tail 14 (by kernel_rfl) (by kernel_rfl) ?_
  simp only [List.take_succ_cons, List.take_zero, List.drop_succ_cons, List.drop_zero]
  repeat still_step
  refine wpStill_nil ?_
  go_wp2
  refine still_tail 14 (by kernel_rfl) (by kernel_rfl) ?_
  simp only [List.take_succ_cons, List.take_zero, List.drop_succ_cons, List.drop_zero]
  repeat still_step
  refine wpStill_nil ?_
  go_wp2
  go_ret
  refine ⟨rfl, ?_, ?_⟩
  · exact ((((((Upd.refl w (Rg b o 5)).set (fun _ => ⟨rfl, by omega, by omega⟩) _).set (fun _ => ⟨rfl, by omega, by omega⟩) _).set (fun _ => ⟨rfl, by omega, by omega⟩) _).set (fun _ => ⟨rfl, by omega, by omega⟩) _).set (fun _ => ⟨rfl, by omega, by omega⟩) _).drew.drew.drew.drew
  · repeat (with_reducible refine C5.drew ?_)
    with_reducible exact ((((h'.set0 _).set4 _).set3 _).set2 _).set1 _
end Go.Proofs.YtkibnongmkhbaaaGreatDoor
end

section
open Go Go.RowKit
namespace Go.Proofs.YtkibnongmkhbaaaGreatDoor
open Ed

/-- two cells -/
structure C2 (w : World) (b : Nat) (l0 l1 : Int) : Prop where
  c0 : w.cell? ⟨b, 0, none⟩ = some (.int .u64 l0)
  c1 : w.cell? ⟨b, 1, none⟩ = some (.int .u64 l1)
  f0 : w.frozen? ⟨b, 0, none⟩ = false
  f1 : w.frozen? ⟨b, 1, none⟩ = false

theorem C2.lt {w : World} {b : Nat} {l0 l1 : Int} (h : C2 w b l0 l1) : b < w.heap.size := World.block_lt_of_cell? w _ h.c0
theorem C2.keep {w w' : World} {b : Nat} {l0 l1 : Int} (hu : Upd w w' (fun _ _ => False)) (h : C2 w b l0 l1) : C2 w' b l0 l1 :=
  ⟨(hu.cell b 0 h.lt id).trans h.c0, (hu.cell b 1 h.lt id).trans h.c1, (hu.froz b 0 h.lt).trans h.f0, (hu.froz b 1 h.lt).trans h.f1⟩
theorem C2.alloc {w : World} {b : Nat} {l0 l1 : Int} (h : C2 w b l0 l1) (x : Obj) : C2 (w.alloc x) b l0 l1 := C2.keep ((Upd.refl w _).alloc x) h
theorem C2.drew {w : World} {b : Nat} {l0 l1 : Int} (h : C2 w b l0 l1) : C2 w.drew b l0 l1 := ⟨h.c0, h.c1, h.f0, h.f1⟩
theorem C2.new (w : World) (l0 l1 : Int) (t : TypeId) : C2 (w.alloc (.cells #[.int .u64 l0, .int .u64 l1] t)) w.heap.size l0 l1 :=
  ⟨by simp, by simp, by simp, by simp⟩
theorem C2.set {w : World} {b : Nat} {l0 l1 : Int} (h : C2 w b l0 l1) (v0 v1 : Int) : C2 ((w.setCell ⟨b, 0, none⟩ (.int .u64 v0)).setCell ⟨b, 1, none⟩ (.int .u64 v1)) b v0 v1 := by
  have a0 := World.cell?_setCell_same w _ (.int .u64 v0) h.c0
  have a1 : (w.setCell ⟨b, 0, none⟩ (.int .u64 v0)).cell? ⟨b, 1, none⟩ = some (.int .u64 l1) := (World.cell?_setCell_other _ _ _ _ (by simp)).trans h.c1
  exact ⟨(World.cell?_setCell_other _ _ _ _ (by simp)).trans a0, World.cell?_setCell_same _ _ _ a1, by rw [World.frozen?_setCell, World.frozen?_setCell]; exact h.f0, by rw [World.frozen?_setCell, World.frozen?_setCell]; exact h.f1⟩
theorem C2.other {w : World} {b : Nat} {l0 l1 : Int} (h : C2 w b l0 l1) {b' : Nat} (hb : b' ≠ b) (o' : Nat) (v : Value) : C2 (w.setCell ⟨b', o', none⟩ v) b l0 l1 :=
  ⟨(World.cell?_setCell_other _ _ _ _ (by intro e; cases e; exact hb rfl)).trans h.c0, (World.cell?_setCell_other _ _ _ _ (by intro e; cases e; exact hb rfl)).trans h.c1,
    (World.frozen?_setCell _ _ _ _).trans h.f0, (World.frozen?_setCell _ _ _ _).trans h.f1⟩

/-- the 128-bit number V -/
abbrev u128 (V : Int) : Value := .agg #[.int .u64 (V % 18446744073709551616), .int .u64 (V / 18446744073709551616)]

theorem prod106 (x y : Int) (hx : 0 ≤ x) (hx' : x < 9007199254740992) (hy : 0 ≤ y) (hy' : y < 9007199254740992) : 0 ≤ x * y ∧ x * y ≤ 81129638414606681695789005144064 :=
  ⟨Int.mul_nonneg hx hy, Int.le_trans (Int.mul_le_mul (show x ≤ 9007199254740992 by omega) (show y ≤ 9007199254740992 by omega) hy (by decide)) (by decide)⟩

theorem mulV (x y : Int) (hx : 0 ≤ x) (hx' : x < 9007199254740992) (hy : 0 ≤ y) (hy' : y < 9007199254740992) (w : World) :
    Calls Tryz.prog 102 #[.int .u64 x, .int .u64 y] w fun e w' => ∃ V : Int, e = .returned (.agg #[.int .u64 (V % 18446744073709551616), .int .u64 (V / 18446744073709551616)]) ∧ Hid (V = x * y) ∧ 0 ≤ V ∧
      V ≤ 81129638414606681695789005144064 ∧ Upd w w' (fun _ _ => False) :=
  (mul_c x y hx (by omega) hy (by omega) w).mono fun e w' ⟨he, hu⟩ => ⟨_, he, rfl, (prod106 x y hx hx' hy hy').1, (prod106 x y hx hx' hy hy').2, hu⟩

theorem addMulV (C V x y : Int) (hV : 0 ≤ V) (hC : V ≤ C) (hC' : C < 1329227995784915872903807060280344576) (hx : 0 ≤ x) (hx' : x < 9007199254740992) (hy : 0 ≤ y) (hy' : y < 9007199254740992) (w : World) :
    Calls Tryz.prog 105 #[.agg #[.int .u64 (V % 18446744073709551616), .int .u64 (V / 18446744073709551616)], .int .u64 x, .int .u64 y] w fun e w' => ∃ V' : Int, e = .returned (.agg #[.int .u64 (V' % 18446744073709551616), .int .u64 (V' / 18446744073709551616)]) ∧
      Hid (V' = V + x * y) ∧ 0 ≤ V' ∧ V' ≤ C + 81129638414606681695789005144064 ∧ Upd w w' (fun _ _ => False) :=
  (addMul_c V x y hV (by omega) hx (by omega) hy (by omega) w).mono fun e w' ⟨he, hu⟩ => ⟨_, he, rfl, by have := prod106 x y hx hx' hy hy'; omega, by have := prod106 x y hx hx' hy hy'; omega, hu⟩

theorem addMul19V (C V x y : Int) (hV : 0 ≤ V) (hC : V ≤ C) (hC' : C < 1329227995784915872903807060280344576) (hx : 0 ≤ x) (hx' : x < 9007199254740992) (hy : 0 ≤ y) (hy' : y < 9007199254740992) (w : World) :
    Calls Tryz.prog 104 #[.agg #[.int .u64 (V % 18446744073709551616), .int .u64 (V / 18446744073709551616)], .int .u64 x, .int .u64 y] w fun e w' => ∃ V' : Int, e = .returned (.agg #[.int .u64 (V' % 18446744073709551616), .int .u64 (V' / 18446744073709551616)]) ∧
      Hid (V' = V + 19 * (x * y)) ∧ 0 ≤ V' ∧ V' ≤ C + 1541463129877526952219991097737216 ∧ Upd w w' (fun _ _ => False) :=
  (addMul19_c V x y hV (by omega) hx (by omega) hy (by omega) w).mono fun e w' ⟨he, hu⟩ => by
    rw [Int.mul_assoc] at he
    exact ⟨_, he, rfl, by have := prod106 x y hx hx' hy hy'; omega, by have := prod106 x y hx hx' hy hy'; omega, hu⟩

theorem addMul38V (C V x y : Int) (hV : 0 ≤ V) (hC : V ≤ C) (hC' : C < 1329227995784915872903807060280344576) (hx : 0 ≤ x) (hx' : x < 9007199254740992) (hy : 0 ≤ y) (hy' : y < 9007199254740992) (w : World) :
    Calls Tryz.prog 103 #[.agg #[.int .u64 (V % 18446744073709551616), .int .u64 (V / 18446744073709551616)], .int .u64 x, .int .u64 y] w fun e w' => ∃ V' : Int, e = .returned (.agg #[.int .u64 (V' % 18446744073709551616), .int .u64 (V' / 18446744073709551616)]) ∧
      Hid (V' = V + 38 * (x * y)) ∧ 0 ≤ V' ∧ V' ≤ C + 3082926259755053904439982195474432 ∧ Upd w w' (fun _ _ => False) :=
  (addMul38_c V x y hV (by omega) hx (by omega) hy (by omega) w).mono fun e w' ⟨he, hu⟩ => by
    rw [show 19 * x * (y * 2) = 38 * (x * y) by grind] at he
    exact ⟨_, he, rfl, by have := prod106 x y hx hx' hy hy'; omega, by have := prod106 x y hx hx' hy hy'; omega, hu⟩

theorem wraps_u64 (n : Int) (h0 : 0 ≤ n) (h1 : n < 2 ^ 64) : IntKind.u64.wrap n = n := by rw [IntKind.wrap_u64]; omega

theorem or_join (i : Nat) (x y : Int) (hx0 : 0 ≤ x) (hx : x % 2 ^ i = 0) (hx1 : x < 18446744073709551616) (hy0 : 0 ≤ y) (hy : y < 2 ^ i) (hy1 : y < 18446744073709551616) : bits .or .u64 x y = x + y :=
  bits_join .u64 64 (by decide) wraps_u64 i x y hx0 hx (by omega) hy0 hy (by omega)

theorem shr51_c (V : Int) (h0 : 0 ≤ V) (h1 : V < 41538374868278621028243970633760768) (w : World) :
    Calls Tryz.prog 106 #[.agg #[.int .u64 (V % 18446744073709551616), .int .u64 (V / 18446744073709551616)]] w fun e w' => e = .returned (.int .u64 (V / 2251799813685248)) ∧ Upd w w' (fun _ _ => False) := by
  have g0 : 0 ≤ V / 18446744073709551616 := by omega
  have g1 : V / 18446744073709551616 < 2251799813685248 := by omega
  go_enter Tryz.func106, Tryz.ntmps106
  go_wp2
  go_ret
  refine ⟨?_, (Upd.refl _ _).alloc _⟩
  have e := or_join 13 (V / 18446744073709551616 * 8192) (V % 18446744073709551616 / 2251799813685248) (by omega) (by omega) (by omega) (by omega) (by omega) (by omega)
  simp only [Array.getD]
  simp [e]
  omega

theorem carry2 (R0 R1 R2 R3 R4 : Int) (a0 : 0 ≤ R0) (a1 : 0 ≤ R1) (a2 : 0 ≤ R2) (a3 : 0 ≤ R3) (a4 : 0 ≤ R4) (b0 : R0 < 10384593717069655257060992658440192) (b1 : R1 < 10384593717069655257060992658440192)
    (b2 : R2 < 10384593717069655257060992658440192) (b3 : R3 < 10384593717069655257060992658440192) (b4 : R4 < 1298074214633706907132624082305024) :
    Lim ((R0 + 19 * (R4 / 2251799813685248)) % 2251799813685248 + 19 * ((R4 % 2251799813685248 + R3 / 2251799813685248) / 2251799813685248)) ∧ Lim ((R1 + R0 / 2251799813685248) % 2251799813685248 + (R0 % 2251799813685248 + 19 * (R4 / 2251799813685248)) / 2251799813685248) ∧
    Lim ((R2 + R1 / 2251799813685248) % 2251799813685248 + (R1 % 2251799813685248 + R0 / 2251799813685248) / 2251799813685248) ∧ Lim ((R3 + R2 / 2251799813685248) % 2251799813685248 + (R2 % 2251799813685248 + R1 / 2251799813685248) / 2251799813685248) ∧
    Lim ((R4 + R3 / 2251799813685248) % 2251799813685248 + (R3 % 2251799813685248 + R2 / 2251799813685248) / 2251799813685248) ∧
    z (lv ((R0 + 19 * (R4 / 2251799813685248)) % 2251799813685248 + 19 * ((R4 % 2251799813685248 + R3 / 2251799813685248) / 2251799813685248)) ((R1 + R0 / 2251799813685248) % 2251799813685248 + (R0 % 2251799813685248 + 19 * (R4 / 2251799813685248)) / 2251799813685248)
      ((R2 + R1 / 2251799813685248) % 2251799813685248 + (R1 % 2251799813685248 + R0 / 2251799813685248) / 2251799813685248) ((R3 + R2 / 2251799813685248) % 2251799813685248 + (R2 % 2251799813685248 + R1 / 2251799813685248) / 2251799813685248)
      ((R4 + R3 / 2251799813685248) % 2251799813685248 + (R3 % 2251799813685248 + R2 / 2251799813685248) / 2251799813685248)) = z (lv R0 R1 R2 R3 R4) := by
  refine ⟨?_, ?_, ?_, ?_, ?_, ?_⟩
  · unfold Lim; omega
  · unfold Lim; omega
  · unfold Lim; omega
  · unfold Lim; omega
  · unfold Lim; omega
  · have h := z_carry (R0 % 2251799813685248 + 19 * (R4 / 2251799813685248)) (R1 % 2251799813685248 + R0 / 2251799813685248) (R2 % 2251799813685248 + R1 / 2251799813685248) (R3 % 2251799813685248 + R2 / 2251799813685248) (R4 % 2251799813685248 + R3 / 2251799813685248)
    rw [z_carry R0 R1 R2 R3 R4] at h
    rw [← h]
    congr 2 <;> omega

end Go.Proofs.YtkibnongmkhbaaaGreatDoor
end

section
open Go Go.RowKit
namespace Go.Proofs.YtkibnongmkhbaaaGreatDoor
open Ed

/-- n bytes from place o on, the lowest first -/
def le (bs : Nat → Int) (o : Nat) : Nat → Int
  | 0 => 0
  | n + 1 => bs o + 256 * le bs (o + 1) n

/-- a byte -/
def Byte (x : Int) : Prop := 0 ≤ x ∧ x < 256

theorem le_lt (bs : Nat → Int) (hb : ∀ i, Byte (bs i)) (n : Nat) : ∀ o, 0 ≤ le bs o n ∧ le bs o n < 256 ^ n := by
  induction n with
  | zero => intro o; exact ⟨Int.le_refl _, Int.zero_lt_one⟩
  | succ n ih =>
    intro o
    have h := ih (o + 1)
    obtain ⟨h1, h2⟩ := hb o
    unfold le
    rw [Int.pow_succ]
    omega

theorem le_lt7 (bs : Nat → Int) (hb : ∀ i, Byte (bs i)) (n o : Nat) (hn : n ≤ 7) : 0 ≤ le bs o n ∧ le bs o n < 72057594037927936 := by
  have h := le_lt bs hb n o
  have h2 : (256 : Int) ^ n ≤ 256 ^ 7 := by
    have h := Int.ofNat_le.2 (Nat.pow_le_pow_right (show 0 < 256 by decide) hn)
    rw [Int.natCast_pow, Int.natCast_pow] at h
    exact h
  have h3 : (256 : Int) ^ 7 = 72057594037927936 := by decide
  omega

/-- n bytes in memory, to be read -/
def By (w : World) (b o n : Nat) (bs : Nat → Int) : Prop := ∀ i, i < n → w.cell? ⟨b, o + i, none⟩ = some (.int .u8 (bs i))

def LeRel (bs : Nat → Int) (x i : Value) : Prop := ∃ k : Nat, k ≤ 8 ∧ i = .int .i64 ((k : Int) - 1) ∧ x = .int .u64 (le bs k (8 - k))

theorem or8 (x y : Int) (hx : 0 ≤ x) (hx' : x < 72057594037927936) (hy : Byte y) : bits .or .u64 (x * 256) y = y + 256 * x := by
  obtain ⟨h1, h2⟩ := hy
  rw [or_join 8 (x * 256) y (by omega) (by omega) (by omega) h1 (by omega) (by omega)]
  omega

set_option maxRecDepth 100000 in
theorem le84_c (b o cap : Nat) (bs : Nat → Int) (hb : ∀ i, Byte (bs i)) (w : World) (h : By w b o 8 bs) :
    Calls Tryz.prog 84 #[.slice (some ⟨b, o, none⟩) 8 cap] w fun e w' => e = .returned (.int .u64 (le bs 0 8)) ∧ w' = w := by
  go_enter Tryz.func84, Tryz.ntmps84
  go_wp2
  go_loop [3, 4] (fun x i => LeRel bs x i) (fun _ i => (intOf i + 1).toNat)
  case atStart => exact ⟨8, by omega, rfl, rfl⟩
  case round =>
    obtain ⟨k, hk, rfl, rfl⟩ := hrel
    by_cases hlt : k = 0
    · subst hlt
      go_wp2
      go_ret
      exact ⟨rfl, rfl⟩
    · obtain ⟨j, rfl⟩ : ∃ j, k = j + 1 := ⟨k - 1, by omega⟩
      rw [show (((j + 1 : Nat) : Int) - 1) = (j : Int) by omega]
      have hc := h j (by omega)
      have hx := le_lt7 bs hb (8 - (j + 1)) (j + 1) (by omega)
      have hby := hb j
      have ho := or8 _ (bs j) hx.1 hx.2 hby
      unfold Byte at hby
      have hstep : le bs j (8 - j) = bs j + 256 * le bs (j + 1) (8 - (j + 1)) := by
        rw [show 8 - j = (8 - (j + 1)) + 1 by omega]; rfl
      have Hs := Lib.hid hstep
      clear hstep
      generalize le bs (j + 1) (8 - (j + 1)) = L at *
      obtain ⟨hb1, hb2⟩ := hby
      obtain ⟨hx1, hx2⟩ := hx
      clear h hb
      go_wp2
      exact ⟨⟨j, by omega, rfl, by rw [Hs.out]⟩, by simp [intOf]⟩
set_option maxRecDepth 100000 in
theorem le96_c (b o cap : Nat) (bs : Nat → Int) (hb : ∀ i, Byte (bs i)) (w : World) (h : By w b o 8 bs) :
    Calls Tryz.prog 96 #[.slice (some ⟨b, o, none⟩) 8 cap] w fun e w' => e = .returned (.int .u64 (le bs 0 8)) ∧ w' = w := by
  go_enter Tryz.func96, Tryz.ntmps96
  go_wp2
  go_loop [3, 4] (fun x i => LeRel bs x i) (fun _ i => (intOf i + 1).toNat)
  case atStart => exact ⟨8, by omega, rfl, rfl⟩
  case round =>
    obtain ⟨k, hk, rfl, rfl⟩ := hrel
    by_cases hlt : k = 0
    · subst hlt
      go_wp2
      go_ret
      exact ⟨rfl, rfl⟩
    · obtain ⟨j, rfl⟩ : ∃ j, k = j + 1 := ⟨k - 1, by omega⟩
      rw [show (((j + 1 : Nat) : Int) - 1) = (j : Int) by omega]
      have hc := h j (by omega)
      have hx := le_lt7 bs hb (8 - (j + 1)) (j + 1) (by omega)
      have hby := hb j
      have ho := or8 _ (bs j) hx.1 hx.2 hby
      unfold Byte at hby
      have hstep : le bs j (8 - j) = bs j + 256 * le bs (j + 1) (8 - (j + 1)) := by
        rw [show 8 - j = (8 - (j + 1)) + 1 by omega]; rfl
      have Hs := Lib.hid hstep
      clear hstep
      generalize le bs (j + 1) (8 - (j + 1)) = L at *
      obtain ⟨hb1, hb2⟩ := hby
      obtain ⟨hx1, hx2⟩ := hx
      clear h hb
      go_wp2
      exact ⟨⟨j, by omega, rfl, by rw [Hs.out]⟩, by simp [intOf]⟩
end Go.Proofs.YtkibnongmkhbaaaGreatDoor
end

section
open Go Go.RowKit
namespace Go.Proofs.YtkibnongmkhbaaaGreatDoor
open Ed

set_option maxRecDepth 1000000 in
set_option maxHeartbeats 40000000 in
theorem feMul_c (vb vo ab ao bb bo : Nat) (v0 v1 v2 v3 v4 a0 a1 a2 a3 a4 b0 b1 b2 b3 b4 : Int) (w : World) (hv : C5 w vb vo v0 v1 v2 v3 v4) (ha : R5 w ab ao a0 a1 a2 a3 a4) (hb : R5 w bb bo b0 b1 b2 b3 b4)
    (la0 : Lim a0) (la1 : Lim a1) (la2 : Lim a2) (la3 : Lim a3) (la4 : Lim a4) (lb0 : Lim b0) (lb1 : Lim b1) (lb2 : Lim b2) (lb3 : Lim b3) (lb4 : Lim b4) :
    Calls Tryz.prog 108 #[.pointer (some ⟨vb, vo, none⟩), .pointer (some ⟨ab, ao, none⟩), .pointer (some ⟨bb, bo, none⟩)] w fun e w' => e = .returned (.tuple #[]) ∧ Upd w w' (Rg vb vo 5) ∧
      El w' vb vo (z (lv a0 a1 a2 a3 a4) * z (lv b0 b1 b2 b3 b4)) := by
  unfold Lim at la0 la1 la2 la3 la4 lb0 lb1 lb2 lb3 lb4
  obtain ⟨pa0, qa0⟩ := la0
  obtain ⟨pa1, qa1⟩ := la1
  obtain ⟨pa2, qa2⟩ := la2
  obtain ⟨pa3, qa3⟩ := la3
  obtain ⟨pa4, qa4⟩ := la4
  obtain ⟨pb0, qb0⟩ := lb0
  obtain ⟨pb1, qb1⟩ := lb1
  obtain ⟨pb2, qb2⟩ := lb2
  obtain ⟨pb3, qb3⟩ := lb3
  obtain ⟨pb4, qb4⟩ := lb4
  obtain ⟨i0, i1, i2, i3, i4⟩ := ha
  obtain ⟨j0, j1, j2, j3, j4⟩ := hb
  have hA := Upd.refl w (fun _ _ => False)
  go_enter Tryz.func108, Tryz.ntmps108
  go_wp2_with fail
  clear i0 i1 i2 i3 i4 j0 j1 j2 j3 j4
  refine (mulV a0 b0 (by omega) (by omega) (by omega) (by omega) _).mono ?_
  rintro e w1 ⟨V00, rfl, V00e, V00a, V00b, hU⟩
  replace hA := hA.trans hU (fun _ _ _ h => h.elim)
  have hb0 := hA.size
  clear hU
  go_wp2_with fail
  replace hA := hA.alloc (.cells #[.int .u64 (V00 % 18446744073709551616), .int .u64 (V00 / 18446744073709551616)] 152)
  have r0 := C2.new w1 (V00 % 18446744073709551616) (V00 / 18446744073709551616) 152
  refine (addMul19V _ V00 a1 b4 V00a V00b (by omega) (by omega) (by omega) (by omega) (by omega) _).mono ?_
  rintro e w2 ⟨V01, rfl, V01e, V01a, V01b, hU⟩
  replace hA := hA.trans hU (fun _ _ _ h => h.elim)
  replace r0 := C2.keep hU r0
  clear hU
  obtain ⟨z0, z1, z2, z3⟩ := id r0
  go_wp2_with fail
  clear z0 z1 z2 z3
  replace hA := hA.set (b := w1.heap.size) (o := 0) (fun h => absurd h (by omega)) (.int .u64 (V01 % 18446744073709551616))
  replace hA := hA.set (b := w1.heap.size) (o := 1) (fun h => absurd h (by omega)) (.int .u64 (V01 / 18446744073709551616))
  replace r0 := r0.set (V01 % 18446744073709551616) (V01 / 18446744073709551616)
  refine (addMul19V _ V01 a2 b3 V01a V01b (by omega) (by omega) (by omega) (by omega) (by omega) _).mono ?_
  rintro e w3 ⟨V02, rfl, V02e, V02a, V02b, hU⟩
  replace hA := hA.trans hU (fun _ _ _ h => h.elim)
  replace r0 := C2.keep hU r0
  clear hU
  obtain ⟨z0, z1, z2, z3⟩ := id r0
  go_wp2_with fail
  clear z0 z1 z2 z3
  replace hA := hA.set (b := w1.heap.size) (o := 0) (fun h => absurd h (by omega)) (.int .u64 (V02 % 18446744073709551616))
  replace hA := hA.set (b := w1.heap.size) (o := 1) (fun h => absurd h (by omega)) (.int .u64 (V02 / 18446744073709551616))
  replace r0 := r0.set (V02 % 18446744073709551616) (V02 / 18446744073709551616)
  refine (addMul19V _ V02 a3 b2 V02a V02b (by omega) (by omega) (by omega) (by omega) (by omega) _).mono ?_
  rintro e w4 ⟨V03, rfl, V03e, V03a, V03b, hU⟩
  replace hA := hA.trans hU (fun _ _ _ h => h.elim)
  replace r0 := C2.keep hU r0
  clear hU
  obtain ⟨z0, z1, z2, z3⟩ := id r0
  go_wp2_with fail
  clear z0 z1 z2 z3
  replace hA := hA.set (b := w1.heap.size) (o := 0) (fun h => absurd h (by omega)) (.int .u64 (V03 % 18446744073709551616))
  replace hA := hA.set (b := w1.heap.size) (o := 1) (fun h => absurd h (by omega)) (.int .u64 (V03 / 18446744073709551616))
  replace r0 := r0.set (V03 % 18446744073709551616) (V03 / 18446744073709551616)
  refine (addMul19V _ V03 a4 b1 V03a V03b (by omega) (by omega) (by omega) (by omega) (by omega) _).mono ?_
  rintro e w5 ⟨V04, rfl, V04e, V04a, V04b, hU⟩
  replace hA := hA.trans hU (fun _ _ _ h => h.elim)
  replace r0 := C2.keep hU r0
  clear hU
  obtain ⟨z0, z1, z2, z3⟩ := id r0
  go_wp2_with fail
  clear z0 z1 z2 z3
  replace hA := hA.set (b := w1.heap.size) (o := 0) (fun h => absurd h (by omega)) (.int .u64 (V04 % 18446744073709551616))
  replace hA := hA.set (b := w1.heap.size) (o := 1) (fun h => absurd h (by omega)) (.int .u64 (V04 / 18446744073709551616))
  replace r0 := r0.set (V04 % 18446744073709551616) (V04 / 18446744073709551616)
  refine (mulV a0 b1 (by omega) (by omega) (by omega) (by omega) _).mono ?_
  rintro e w6 ⟨V10, rfl, V10e, V10a, V10b, hU⟩
  replace hA := hA.trans hU (fun _ _ _ h => h.elim)
  replace r0 := C2.keep hU r0
  have d01 := r0.lt
  have hb1 := hA.size
  clear hU
  go_wp2_with fail
  replace hA := hA.alloc (.cells #[.int .u64 (V10 % 18446744073709551616), .int .u64 (V10 / 18446744073709551616)] 152)
  replace r0 := r0.alloc (.cells #[.int .u64 (V10 % 18446744073709551616), .int .u64 (V10 / 18446744073709551616)] 152)
  have r1 := C2.new w6 (V10 % 18446744073709551616) (V10 / 18446744073709551616) 152
  refine (addMulV _ V10 a1 b0 V10a V10b (by omega) (by omega) (by omega) (by omega) (by omega) _).mono ?_
  rintro e w7 ⟨V11, rfl, V11e, V11a, V11b, hU⟩
  replace hA := hA.trans hU (fun _ _ _ h => h.elim)
  replace r0 := C2.keep hU r0
  replace r1 := C2.keep hU r1
  clear hU
  obtain ⟨z0, z1, z2, z3⟩ := id r1
  go_wp2_with fail
  clear z0 z1 z2 z3
  replace hA := hA.set (b := w6.heap.size) (o := 0) (fun h => absurd h (by omega)) (.int .u64 (V11 % 18446744073709551616))
  replace r0 := r0.other (b' := w6.heap.size) (by omega) 0 (.int .u64 (V11 % 18446744073709551616))
  replace hA := hA.set (b := w6.heap.size) (o := 1) (fun h => absurd h (by omega)) (.int .u64 (V11 / 18446744073709551616))
  replace r0 := r0.other (b' := w6.heap.size) (by omega) 1 (.int .u64 (V11 / 18446744073709551616))
  replace r1 := r1.set (V11 % 18446744073709551616) (V11 / 18446744073709551616)
  refine (addMul19V _ V11 a2 b4 V11a V11b (by omega) (by omega) (by omega) (by omega) (by omega) _).mono ?_
  rintro e w8 ⟨V12, rfl, V12e, V12a, V12b, hU⟩
  replace hA := hA.trans hU (fun _ _ _ h => h.elim)
  replace r0 := C2.keep hU r0
  replace r1 := C2.keep hU r1
  clear hU
  obtain ⟨z0, z1, z2, z3⟩ := id r1
  go_wp2_with fail
  clear z0 z1 z2 z3
  replace hA := hA.set (b := w6.heap.size) (o := 0) (fun h => absurd h (by omega)) (.int .u64 (V12 % 18446744073709551616))
  replace r0 := r0.other (b' := w6.heap.size) (by omega) 0 (.int .u64 (V12 % 18446744073709551616))
  replace hA := hA.set (b := w6.heap.size) (o := 1) (fun h => absurd h (by omega)) (.int .u64 (V12 / 18446744073709551616))
  replace r0 := r0.other (b' := w6.heap.size) (by omega) 1 (.int .u64 (V12 / 18446744073709551616))
  replace r1 := r1.set (V12 % 18446744073709551616) (V12 / 18446744073709551616)
  refine (addMul19V _ V12 a3 b3 V12a V12b (by omega) (by omega) (by omega) (by omega) (by omega) _).mono ?_
  rintro e w9 ⟨V13, rfl, V13e, V13a, V13b, hU⟩
  replace hA := hA.trans hU (fun _ _ _ h => h.elim)
  replace r0 := C2.keep hU r0
  replace r1 := C2.keep hU r1
  clear hU
  obtain ⟨z0, z1, z2, z3⟩ := id r1
  go_wp2_with fail
  clear z0 z1 z2 z3
  replace hA := hA.set (b := w6.heap.size) (o := 0) (fun h => absurd h (by omega)) (.int .u64 (V13 % 18446744073709551616))
  replace r0 := r0.other (b' := w6.heap.size) (by omega) 0 (.int .u64 (V13 % 18446744073709551616))
  replace hA := hA.set (b := w6.heap.size) (o := 1) (fun h => absurd h (by omega)) (.int .u64 (V13 / 18446744073709551616))
  replace r0 := r0.other (b' := w6.heap.size) (by omega) 1 (.int .u64 (V13 / 18446744073709551616))
  replace r1 := r1.set (V13 % 18446744073709551616) (V13 / 18446744073709551616)
  refine (addMul19V _ V13 a4 b2 V13a V13b (by omega) (by omega) (by omega) (by omega) (by omega) _).mono ?_
  rintro e w10 ⟨V14, rfl, V14e, V14a, V14b, hU⟩
  replace hA := hA.trans hU (fun _ _ _ h => h.elim)
  replace r0 := C2.keep hU r0
  replace r1 := C2.keep hU r1
  clear hU
  obtain ⟨z0, z1, z2, z3⟩ := id r1
  go_wp2_with fail
  clear z0 z1 z2 z3
  replace hA := hA.set (b := w6.heap.size) (o := 0) (fun h => absurd h (by omega)) (.int .u64 (V14 % 18446744073709551616))
  replace r0 := r0.other (b' := w6.heap.size) (by omega) 0 (.int .u64 (V14 % 18446744073709551616))
  replace hA := hA.set (b := w6.heap.size) (o := 1) (fun h => absurd h (by omega)) (.int .u64 (V14 / 18446744073709551616))
  replace r0 := r0.other (b' := w6.heap.size) (by omega) 1 (.int .u64 (V14 / 18446744073709551616))
  replace r1 := r1.set (V14 % 18446744073709551616) (V14 / 18446744073709551616)
  refine (mulV a0 b2 (by omega) (by omega) (by omega) (by omega) _).mono ?_
  rintro e w11 ⟨V20, rfl, V20e, V20a, V20b, hU⟩
  replace hA := hA.trans hU (fun _ _ _ h => h.elim)
  replace r0 := C2.keep hU r0
  replace r1 := C2.keep hU r1
  have d02 := r0.lt
  have d12 := r1.lt
  have hb2 := hA.size
  clear hU
  go_wp2_with fail
  replace hA := hA.alloc (.cells #[.int .u64 (V20 % 18446744073709551616), .int .u64 (V20 / 18446744073709551616)] 152)
  replace r0 := r0.alloc (.cells #[.int .u64 (V20 % 18446744073709551616), .int .u64 (V20 / 18446744073709551616)] 152)
  replace r1 := r1.alloc (.cells #[.int .u64 (V20 % 18446744073709551616), .int .u64 (V20 / 18446744073709551616)] 152)
  have r2 := C2.new w11 (V20 % 18446744073709551616) (V20 / 18446744073709551616) 152
  refine (addMulV _ V20 a1 b1 V20a V20b (by omega) (by omega) (by omega) (by omega) (by omega) _).mono ?_
  rintro e w12 ⟨V21, rfl, V21e, V21a, V21b, hU⟩
  replace hA := hA.trans hU (fun _ _ _ h => h.elim)
  replace r0 := C2.keep hU r0
  replace r1 := C2.keep hU r1
  replace r2 := C2.keep hU r2
  clear hU
  obtain ⟨z0, z1, z2, z3⟩ := id r2
  go_wp2_with fail
  clear z0 z1 z2 z3
  replace hA := hA.set (b := w11.heap.size) (o := 0) (fun h => absurd h (by omega)) (.int .u64 (V21 % 18446744073709551616))
  replace r0 := r0.other (b' := w11.heap.size) (by omega) 0 (.int .u64 (V21 % 18446744073709551616))
  replace r1 := r1.other (b' := w11.heap.size) (by omega) 0 (.int .u64 (V21 % 18446744073709551616))
  replace hA := hA.set (b := w11.heap.size) (o := 1) (fun h => absurd h (by omega)) (.int .u64 (V21 / 18446744073709551616))
  replace r0 := r0.other (b' := w11.heap.size) (by omega) 1 (.int .u64 (V21 / 18446744073709551616))
  replace r1 := r1.other (b' := w11.heap.size) (by omega) 1 (.int .u64 (V21 / 18446744073709551616))
  replace r2 := r2.set (V21 % 18446744073709551616) (V21 / 18446744073709551616)
  refine (addMulV _ V21 a2 b0 V21a V21b (by omega) (by omega) (by omega) (by omega) (by omega) _).mono ?_
  rintro e w13 ⟨V22, rfl, V22e, V22a, V22b, hU⟩
  replace hA := hA.trans hU (fun _ _ _ h => h.elim)
  replace r0 := C2.keep hU r0
  replace r1 := C2.keep hU r1
  replace r2 := C2.keep hU r2
  clear hU
  obtain ⟨z0, z1, z2, z3⟩ := id r2
  go_wp2_with fail
  clear z0 z1 z2 z3
  replace hA := hA.set (b := w11.heap.size) (o := 0) (fun h => absurd h (by omega)) (.int .u64 (V22 % 18446744073709551616))
  replace r0 := r0.other (b' := w11.heap.size) (by omega) 0 (.int .u64 (V22 % 18446744073709551616))
  replace r1 := r1.other (b' := w11.heap.size) (by omega) 0 (.int .u64 (V22 % 18446744073709551616))
  replace hA := hA.set (b := w11.heap.size) (o := 1) (fun h => absurd h (by omega)) (.int .u64 (V22 / 18446744073709551616))
  replace r0 := r0.other (b' := w11.heap.size) (by omega) 1 (.int .u64 (V22 / 18446744073709551616))
  replace r1 := r1.other (b' := w11.heap.size) (by omega) 1 (.int .u64 (V22 / 18446744073709551616))
  replace r2 := r2.set (V22 % 18446744073709551616) (V22 / 18446744073709551616)
  refine (addMul19V _ V22 a3 b4 V22a V22b (by omega) (by omega) (by omega) (by omega) (by omega) _).mono ?_
  rintro e w14 ⟨V23, rfl, V23e, V23a, V23b, hU⟩
  replace hA := hA.trans hU (fun _ _ _ h => h.elim)
  replace r0 := C2.keep hU r0
  replace r1 := C2.keep hU r1
  replace r2 := C2.keep hU r2
  clear hU
  obtain ⟨z0, z1, z2, z3⟩ := id r2
  go_wp2_with fail
  clear z0 z1 z2 z3
  replace hA := hA.set (b := w11.heap.size) (o := 0) (fun h => absurd h (by omega)) (.int .u64 (V23 % 18446744073709551616))
  replace r0 := r0.other (b' := w11.heap.size) (by omega) 0 (.int .u64 (V23 % 18446744073709551616))
  replace r1 := r1.other (b' := w11.heap.size) (by omega) 0 (.int .u64 (V23 % 18446744073709551616))
  replace hA := hA.set (b := w11.heap.size) (o := 1) (fun h => absurd h (by omega)) (.int .u64 (V23 / 18446744073709551616))
  replace r0 := r0.other (b' := w11.heap.size) (by omega) 1 (.int .u64 (V23 / 18446744073709551616))
  replace r1 := r1.other (b' := w11.heap.size) (by omega) 1 (.int .u64 (V23 / 18446744073709551616))
  replace r2 := r2.set (V23 % 18446744073709551616) (V23 / 18446744073709551616)
  refine (addMul19V _ V23 a4 b3 V23a V23b (by omega) (by omega) (by omega) (by omega) (by omega) _).mono ?_
  rintro e w15 ⟨V24, rfl, V24e, V24a, V24b, hU⟩
  replace hA := hA.trans hU (fun _ _ _ h => h.elim)
  replace r0 := C2.keep hU r0
  replace r1 := C2.keep hU r1
  replace r2 := C2.keep hU r2
  clear hU
  obtain ⟨z0, z1, z2, z3⟩ := id r2
  go_wp2_with fail
  clear z0 z1 z2 z3
  replace hA := hA.set (b := w11.heap.size) (o := 0) (fun h => absurd h (by omega)) (.int .u64 (V24 % 18446744073709551616))
  replace r0 := r0.other (b' := w11.heap.size) (by omega) 0 (.int .u64 (V24 % 18446744073709551616))
  replace r1 := r1.other (b' := w11.heap.size) (by omega) 0 (.int .u64 (V24 % 18446744073709551616))
  replace hA := hA.set (b := w11.heap.size) (o := 1) (fun h => absurd h (by omega)) (.int .u64 (V24 / 18446744073709551616))
  replace r0 := r0.other (b' := w11.heap.size) (by omega) 1 (.int .u64 (V24 / 18446744073709551616))
  replace r1 := r1.other (b' := w11.heap.size) (by omega) 1 (.int .u64 (V24 / 18446744073709551616))
  replace r2 := r2.set (V24 % 18446744073709551616) (V24 / 18446744073709551616)
  refine (mulV a0 b3 (by omega) (by omega) (by omega) (by omega) _).mono ?_
  rintro e w16 ⟨V30, rfl, V30e, V30a, V30b, hU⟩
  replace hA := hA.trans hU (fun _ _ _ h => h.elim)
  replace r0 := C2.keep hU r0
  replace r1 := C2.keep hU r1
  replace r2 := C2.keep hU r2
  have d03 := r0.lt
  have d13 := r1.lt
  have d23 := r2.lt
  have hb3 := hA.size
  clear hU
  go_wp2_with fail
  replace hA := hA.alloc (.cells #[.int .u64 (V30 % 18446744073709551616), .int .u64 (V30 / 18446744073709551616)] 152)
  replace r0 := r0.alloc (.cells #[.int .u64 (V30 % 18446744073709551616), .int .u64 (V30 / 18446744073709551616)] 152)
  replace r1 := r1.alloc (.cells #[.int .u64 (V30 % 18446744073709551616), .int .u64 (V30 / 18446744073709551616)] 152)
  replace r2 := r2.alloc (.cells #[.int .u64 (V30 % 18446744073709551616), .int .u64 (V30 / 18446744073709551616)] 152)
  have r3 := C2.new w16 (V30 % 18446744073709551616) (V30 / 18446744073709551616) 152
  refine (addMulV _ V30 a1 b2 V30a V30b (by omega) (by omega) (by omega) (by omega) (by omega) _).mono ?_
  rintro e w17 ⟨V31, rfl, V31e, V31a, V31b, hU⟩
  replace hA := hA.trans hU (fun _ _ _ h => h.elim)
  replace r0 := C2.keep hU r0
  replace r1 := C2.keep hU r1
  replace r2 := C2.keep hU r2
  replace r3 := C2.keep hU r3
  clear hU
  obtain ⟨z0, z1, z2, z3⟩ := id r3
  go_wp2_with fail
  clear z0 z1 z2 z3
  replace hA := hA.set (b := w16.heap.size) (o := 0) (fun h => absurd h (by omega)) (.int .u64 (V31 % 18446744073709551616))
  replace r0 := r0.other (b' := w16.heap.size) (by omega) 0 (.int .u64 (V31 % 18446744073709551616))
  replace r1 := r1.other (b' := w16.heap.size) (by omega) 0 (.int .u64 (V31 % 18446744073709551616))
  replace r2 := r2.other (b' := w16.heap.size) (by omega) 0 (.int .u64 (V31 % 18446744073709551616))
  replace hA := hA.set (b := w16.heap.size) (o := 1) (fun h => absurd h (by omega)) (.int .u64 (V31 / 18446744073709551616))
  replace r0 := r0.other (b' := w16.heap.size) (by omega) 1 (.int .u64 (V31 / 18446744073709551616))
  replace r1 := r1.other (b' := w16.heap.size) (by omega) 1 (.int .u64 (V31 / 18446744073709551616))
  replace r2 := r2.other (b' := w16.heap.size) (by omega) 1 (.int .u64 (V31 / 18446744073709551616))
  replace r3 := r3.set (V31 % 18446744073709551616) (V31 / 18446744073709551616)
  refine (addMulV _ V31 a2 b1 V31a V31b (by omega) (by omega) (by omega) (by omega) (by omega) _).mono ?_
  rintro e w18 ⟨V32, rfl, V32e, V32a, V32b, hU⟩
  replace hA := hA.trans hU (fun _ _ _ h => h.elim)
  replace r0 := C2.keep hU r0
  replace r1 := C2.keep hU r1
  replace r2 := C2.keep hU r2
  replace r3 := C2.keep hU r3
  clear hU
  obtain ⟨z0, z1, z2, z3⟩ := id r3
  go_wp2_with fail
  clear z0 z1 z2 z3
  replace hA := hA.set (b := w16.heap.size) (o := 0) (fun h => absurd h (by omega)) (.int .u64 (V32 % 18446744073709551616))
  replace r0 := r0.other (b' := w16.heap.size) (by omega) 0 (.int .u64 (V32 % 18446744073709551616))
  replace r1 := r1.other (b' := w16.heap.size) (by omega) 0 (.int .u64 (V32 % 18446744073709551616))
  replace r2 := r2.other (b' := w16.heap.size) (by omega) 0 (.int .u64 (V32 % 18446744073709551616))
  replace hA := hA.set (b := w16.heap.size) (o := 1) (fun h => absurd h (by omega)) (.int .u64 (V32 / 18446744073709551616))
  replace r0 := r0.other (b' := w16.heap.size) (by omega) 1 (.int .u64 (V32 / 18446744073709551616))
  replace r1 := r1.other (b' := w16.heap.size) (by omega) 1 (.int .u64 (V32 / 18446744073709551616))
  replace r2 := r2.other (b' := w16.heap.size) (by omega) 1 (.int .u64 (V32 / 18446744073709551616))
  replace r3 := r3.set (V32 % 18446744073709551616) (V32 / 18446744073709551616)
  refine (addMulV _ V32 a3 b0 V32a V32b (by omega) (by omega) (by omega) (by omega) (by omega) _).mono ?_
  rintro e w19 ⟨V33, rfl, V33e, V33a, V33b, hU⟩
  replace hA := hA.trans hU (fun _ _ _ h => h.elim)
  replace r0 := C2.keep hU r0
  replace r1 := C2.keep hU r1
  replace r2 := C2.keep hU r2
  replace r3 := C2.keep hU r3
  clear hU
  obtain ⟨z0, z1, z2, z3⟩ := id r3
  go_wp2_with fail
  clear z0 z1 z2 z3
  replace hA := hA.set (b := w16.heap.size) (o := 0) (fun h => absurd h (by omega)) (.int .u64 (V33 % 18446744073709551616))
  replace r0 := r0.other (b' := w16.heap.size) (by omega) 0 (.int .u64 (V33 % 18446744073709551616))
  replace r1 := r1.other (b' := w16.heap.size) (by omega) 0 (.int .u64 (V33 % 18446744073709551616))
  replace r2 := r2.other (b' := w16.heap.size) (by omega) 0 (.int .u64 (V33 % 18446744073709551616))
  replace hA := hA.set (b := w16.heap.size) (o := 1) (fun h => absurd h (by omega)) (.int .u64 (V33 / 18446744073709551616))
  replace r0 := r0.other (b' := w16.heap.size) (by omega) 1 (.int .u64 (V33 / 18446744073709551616))
  replace r1 := r1.other (b' := w16.heap.size) (by omega) 1 (.int .u64 (V33 / 18446744073709551616))
  replace r2 := r2.other (b' := w16.heap.size) (by omega) 1 (.int .u64 (V33 / 18446744073709551616))
  replace r3 := r3.set (V33 % 18446744073709551616) (V33 / 18446744073709551616)
  refine (addMul19V _ V33 a4 b4 V33a V33b (by omega) (by omega) (by omega) (by omega) (by omega) _).mono ?_
  rintro e w20 ⟨V34, rfl, V34e, V34a, V34b, hU⟩
  replace hA := hA.trans hU (fun _ _ _ h => h.elim)
  replace r0 := C2.keep hU r0
  replace r1 := C2.keep hU r1
  replace r2 := C2.keep hU r2
  replace r3 := C2.keep hU r3
  clear hU
  obtain ⟨z0, z1, z2, z3⟩ := id r3
  go_wp2_with fail
  clear z0 z1 z2 z3
  replace hA := hA.set (b := w16.heap.size) (o := 0) (fun h => absurd h (by omega)) (.int .u64 (V34 % 18446744073709551616))
  replace r0 := r0.other (b' := w16.heap.size) (by omega) 0 (.int .u64 (V34 % 18446744073709551616))
  replace r1 := r1.other (b' := w16.heap.size) (by omega) 0 (.int .u64 (V34 % 18446744073709551616))
  replace r2 := r2.other (b' := w16.heap.size) (by omega) 0 (.int .u64 (V34 % 18446744073709551616))
  replace hA := hA.set (b := w16.heap.size) (o := 1) (fun h => absurd h (by omega)) (.int .u64 (V34 / 18446744073709551616))
  replace r0 := r0.other (b' := w16.heap.size) (by omega) 1 (.int .u64 (V34 / 18446744073709551616))
  replace r1 := r1.other (b' := w16.heap.size) (by omega) 1 (.int .u64 (V34 / 18446744073709551616))
  replace r2 := r2.other (b' := w16.heap.size) (by omega) 1 (.int .u64 (V34 / 18446744073709551616))
  replace r3 := r3.set (V34 % 18446744073709551616) (V34 / 18446744073709551616)
  refine (mulV a0 b4 (by omega) (by omega) (by omega) (by omega) _).mono ?_
  rintro e w21 ⟨V40, rfl, V40e, V40a, V40b, hU⟩
  replace hA := hA.trans hU (fun _ _ _ h => h.elim)
  replace r0 := C2.keep hU r0
  replace r1 := C2.keep hU r1
  replace r2 := C2.keep hU r2
  replace r3 := C2.keep hU r3
  have d04 := r0.lt
  have d14 := r1.lt
  have d24 := r2.lt
  have d34 := r3.lt
  have hb4 := hA.size
  clear hU
  go_wp2_with fail
  replace hA := hA.alloc (.cells #[.int .u64 (V40 % 18446744073709551616), .int .u64 (V40 / 18446744073709551616)] 152)
  replace r0 := r0.alloc (.cells #[.int .u64 (V40 % 18446744073709551616), .int .u64 (V40 / 18446744073709551616)] 152)
  replace r1 := r1.alloc (.cells #[.int .u64 (V40 % 18446744073709551616), .int .u64 (V40 / 18446744073709551616)] 152)
  replace r2 := r2.alloc (.cells #[.int .u64 (V40 % 18446744073709551616), .int .u64 (V40 / 18446744073709551616)] 152)
  replace r3 := r3.alloc (.cells #[.int .u64 (V40 % 18446744073709551616), .int .u64 (V40 / 18446744073709551616)] 152)
  have r4 := C2.new w21 (V40 % 18446744073709551616) (V40 / 18446744073709551616) 152
  refine (addMulV _ V40 a1 b3 V40a V40b (by omega) (by omega) (by omega) (by omega) (by omega) _).mono ?_
  rintro e w22 ⟨V41, rfl, V41e, V41a, V41b, hU⟩
  replace hA := hA.trans hU (fun _ _ _ h => h.elim)
  replace r0 := C2.keep hU r0
  replace r1 := C2.keep hU r1
  replace r2 := C2.keep hU r2
  replace r3 := C2.keep hU r3
  replace r4 := C2.keep hU r4
  clear hU
  obtain ⟨z0, z1, z2, z3⟩ := id r4
  go_wp2_with fail
  clear z0 z1 z2 z3
  replace hA := hA.set (b := w21.heap.size) (o := 0) (fun h => absurd h (by omega)) (.int .u64 (V41 % 18446744073709551616))
  replace r0 := r0.other (b' := w21.heap.size) (by omega) 0 (.int .u64 (V41 % 18446744073709551616))
  replace r1 := r1.other (b' := w21.heap.size) (by omega) 0 (.int .u64 (V41 % 18446744073709551616))
  replace r2 := r2.other (b' := w21.heap.size) (by omega) 0 (.int .u64 (V41 % 18446744073709551616))
  replace r3 := r3.other (b' := w21.heap.size) (by omega) 0 (.int .u64 (V41 % 18446744073709551616))
  replace hA := hA.set (b := w21.heap.size) (o := 1) (fun h => absurd h (by omega)) (.int .u64 (V41 / 18446744073709551616))
  replace r0 := r0.other (b' := w21.heap.size) (by omega) 1 (.int .u64 (V41 / 18446744073709551616))
  replace r1 := r1.other (b' := w21.heap.size) (by omega) 1 (.int .u64 (V41 / 18446744073709551616))
  replace r2 := r2.other (b' := w21.heap.size) (by omega) 1 (.int .u64 (V41 / 18446744073709551616))
  replace r3 := r3.other (b' := w21.heap.size) (by omega) 1 (.int .u64 (V41 / 18446744073709551616))
  replace r4 := r4.set (V41 % 18446744073709551616) (V41 / 18446744073709551616)
  refine (addMulV _ V41 a2 b2 V41a V41b (by omega) (by omega) (by omega) (by omega) (by omega) _).mono ?_
  rintro e w23 ⟨V42, rfl, V42e, V42a, V42b, hU⟩
  replace hA := hA.trans hU (fun _ _ _ h => h.elim)
  replace r0 := C2.keep hU r0
  replace r1 := C2.keep hU r1
  replace r2 := C2.keep hU r2
  replace r3 := C2.keep hU r3
  replace r4 := C2.keep hU r4
  clear hU
  obtain ⟨z0, z1, z2, z3⟩ := id r4
  go_wp2_with fail
  clear z0 z1 z2 z3
  replace hA := hA.set (b := w21.heap.size) (o := 0) (fun h => absurd h (by omega)) (.int .u64 (V42 % 18446744073709551616))
  replace r0 := r0.other (b' := w21.heap.size) (by omega) 0 (.int .u64 (V42 % 18446744073709551616))
  replace r1 := r1.other (b' := w21.heap.size) (by omega) 0 (.int .u64 (V42 % 18446744073709551616))
  replace r2 := r2.other (b' := w21.heap.size) (by omega) 0 (.int .u64 (V42 % 18446744073709551616))
  replace r3 := r3.other (b' := w21.heap.size) (by omega) 0 (.int .u64 (V42 % 18446744073709551616))
  replace hA := hA.set (b := w21.heap.size) (o := 1) (fun h => absurd h (by omega)) (.int .u64 (V42 / 18446744073709551616))
  replace r0 := r0.other (b' := w21.heap.size) (by omega) 1 (.int .u64 (V42 / 18446744073709551616))
  replace r1 := r1.other (b' := w21.heap.size) (by omega) 1 (.int .u64 (V42 / 18446744073709551616))
  replace r2 := r2.other (b' := w21.heap.size) (by omega) 1 (.int .u64 (V42 / 18446744073709551616))
  replace r3 := r3.other (b' := w21.heap.size) (by omega) 1 (.int .u64 (V42 / 18446744073709551616))
  replace r4 := r4.set (V42 % 18446744073709551616) (V42 / 18446744073709551616)
  refine (addMulV _ V42 a3 b1 V42a V42b (by omega) (by omega) (by omega) (by omega) (by omega) _).mono ?_
  rintro e w24 ⟨V43, rfl, V43e, V43a, V43b, hU⟩
  replace hA := hA.trans hU (fun _ _ _ h => h.elim)
  replace r0 := C2.keep hU r0
  replace r1 := C2.keep hU r1
  replace r2 := C2.keep hU r2
  replace r3 := C2.keep hU r3
  replace r4 := C2.keep hU r4
  clear hU
  obtain ⟨z0, z1, z2, z3⟩ := id r4
  go_wp2_with fail
  clear z0 z1 z2 z3
  replace hA := hA.set (b := w21.heap.size) (o := 0) (fun h => absurd h (by omega)) (.int .u64 (V43 % 18446744073709551616))
  replace r0 := r0.other (b' := w21.heap.size) (by omega) 0 (.int .u64 (V43 % 18446744073709551616))
  replace r1 := r1.other (b' := w21.heap.size) (by omega) 0 (.int .u64 (V43 % 18446744073709551616))
  replace r2 := r2.other (b' := w21.heap.size) (by omega) 0 (.int .u64 (V43 % 18446744073709551616))
  replace r3 := r3.other (b' := w21.heap.size) (by omega) 0 (.int .u64 (V43 % 18446744073709551616))
  replace hA := hA.set (b := w21.heap.size) (o := 1) (fun h => absurd h (by omega)) (.int .u64 (V43 / 18446744073709551616))
  replace r0 := r0.other (b' := w21.heap.size) (by omega) 1 (.int .u64 (V43 / 18446744073709551616))
  replace r1 := r1.other (b' := w21.heap.size) (by omega) 1 (.int .u64 (V43 / 18446744073709551616))
  replace r2 := r2.other (b' := w21.heap.size) (by omega) 1 (.int .u64 (V43 / 18446744073709551616))
  replace r3 := r3.other (b' := w21.heap.size) (by omega) 1 (.int .u64 (V43 / 18446744073709551616))
  replace r4 := r4.set (V43 % 18446744073709551616) (V43 / 18446744073709551616)
  refine (addMulV _ V43 a4 b0 V43a V43b (by omega) (by omega) (by omega) (by omega) (by omega) _).mono ?_
  rintro e w25 ⟨V44, rfl, V44e, V44a, V44b, hU⟩
  replace hA := hA.trans hU (fun _ _ _ h => h.elim)
  replace r0 := C2.keep hU r0
  replace r1 := C2.keep hU r1
  replace r2 := C2.keep hU r2
  replace r3 := C2.keep hU r3
  replace r4 := C2.keep hU r4
  clear hU
  obtain ⟨z0, z1, z2, z3⟩ := id r4
  have hne : ¬ w21.heap.size = w1.heap.size := by omega
  obtain ⟨y0, y1, y2, y3⟩ := id r0
  go_wp2_with fail
  clear y0 y1 y2 y3
  clear hne
  clear z0 z1 z2 z3
  replace hA := hA.set (b := w21.heap.size) (o := 0) (fun h => absurd h (by omega)) (.int .u64 (V44 % 18446744073709551616))
  replace r0 := r0.other (b' := w21.heap.size) (by omega) 0 (.int .u64 (V44 % 18446744073709551616))
  replace r1 := r1.other (b' := w21.heap.size) (by omega) 0 (.int .u64 (V44 % 18446744073709551616))
  replace r2 := r2.other (b' := w21.heap.size) (by omega) 0 (.int .u64 (V44 % 18446744073709551616))
  replace r3 := r3.other (b' := w21.heap.size) (by omega) 0 (.int .u64 (V44 % 18446744073709551616))
  replace hA := hA.set (b := w21.heap.size) (o := 1) (fun h => absurd h (by omega)) (.int .u64 (V44 / 18446744073709551616))
  replace r0 := r0.other (b' := w21.heap.size) (by omega) 1 (.int .u64 (V44 / 18446744073709551616))
  replace r1 := r1.other (b' := w21.heap.size) (by omega) 1 (.int .u64 (V44 / 18446744073709551616))
  replace r2 := r2.other (b' := w21.heap.size) (by omega) 1 (.int .u64 (V44 / 18446744073709551616))
  replace r3 := r3.other (b' := w21.heap.size) (by omega) 1 (.int .u64 (V44 / 18446744073709551616))
  replace r4 := r4.set (V44 % 18446744073709551616) (V44 / 18446744073709551616)
  refine (shr51_c V04 V04a (by omega) _).mono ?_
  rintro e w26 ⟨rfl, hU⟩
  replace hA := hA.trans hU (fun _ _ _ h => h.elim)
  replace r0 := C2.keep hU r0
  replace r1 := C2.keep hU r1
  replace r2 := C2.keep hU r2
  replace r3 := C2.keep hU r3
  replace r4 := C2.keep hU r4
  clear hU
  obtain ⟨y0, y1, y2, y3⟩ := id r1
  go_wp2_with fail
  clear y0 y1 y2 y3
  refine (shr51_c V14 V14a (by omega) _).mono ?_
  rintro e w27 ⟨rfl, hU⟩
  replace hA := hA.trans hU (fun _ _ _ h => h.elim)
  replace r0 := C2.keep hU r0
  replace r1 := C2.keep hU r1
  replace r2 := C2.keep hU r2
  replace r3 := C2.keep hU r3
  replace r4 := C2.keep hU r4
  clear hU
  obtain ⟨y0, y1, y2, y3⟩ := id r2
  go_wp2_with fail
  clear y0 y1 y2 y3
  refine (shr51_c V24 V24a (by omega) _).mono ?_
  rintro e w28 ⟨rfl, hU⟩
  replace hA := hA.trans hU (fun _ _ _ h => h.elim)
  replace r0 := C2.keep hU r0
  replace r1 := C2.keep hU r1
  replace r2 := C2.keep hU r2
  replace r3 := C2.keep hU r3
  replace r4 := C2.keep hU r4
  clear hU
  obtain ⟨y0, y1, y2, y3⟩ := id r3
  go_wp2_with fail
  clear y0 y1 y2 y3
  refine (shr51_c V34 V34a (by omega) _).mono ?_
  rintro e w29 ⟨rfl, hU⟩
  replace hA := hA.trans hU (fun _ _ _ h => h.elim)
  replace r0 := C2.keep hU r0
  replace r1 := C2.keep hU r1
  replace r2 := C2.keep hU r2
  replace r3 := C2.keep hU r3
  replace r4 := C2.keep hU r4
  clear hU
  obtain ⟨y0, y1, y2, y3⟩ := id r4
  go_wp2_with fail
  clear y0 y1 y2 y3
  refine (shr51_c V44 V44a (by omega) _).mono ?_
  rintro e w30 ⟨rfl, hU⟩
  replace hA := hA.trans hU (fun _ _ _ h => h.elim)
  replace r0 := C2.keep hU r0
  replace r1 := C2.keep hU r1
  replace r2 := C2.keep hU r2
  replace r3 := C2.keep hU r3
  replace r4 := C2.keep hU r4
  clear hU
  have x0 := r0.c0
  have x1 := r1.c0
  have x2 := r2.c0
  have x3 := r3.c0
  have x4 := r4.c0
  go_wp2
  refine still_all (by kernel_rfl) (by kernel_rfl) ?_
  repeat (first | still_step | still_call (mul19_c _ _ (by omega) (by omega)))
  refine wpStill_nil ?_
  have hv' := hv.keep hA (fun _ _ h => h)
  obtain ⟨u0, u1, u2, u3, u4, g0, g1, g2, g3, g4⟩ := id hv'
  go_wp2_with fail
  refine (mul19_c _ _ (by omega) (by omega)).mono ?_
  rintro e w' ⟨rfl, rfl⟩
  go_wp2
  go_end0
  have K := carry2 V04 V14 V24 V34 V44 V04a V14a V24a V34a V44a (by omega) (by omega) (by omega) (by omega) (by omega)
  have hz : z (lv V04 V14 V24 V34 V44) = z (lv a0 a1 a2 a3 a4) * z (lv b0 b1 b2 b3 b4) := by
    rw [← z_prod a0 a1 a2 a3 a4 b0 b1 b2 b3 b4]
    have qV00 := V00e.out; have qV01 := V01e.out; have qV02 := V02e.out; have qV03 := V03e.out; have qV04 := V04e.out; have qV10 := V10e.out; have qV11 := V11e.out; have qV12 := V12e.out; have qV13 := V13e.out; have qV14 := V14e.out; have qV20 := V20e.out; have qV21 := V21e.out; have qV22 := V22e.out; have qV23 := V23e.out; have qV24 := V24e.out; have qV30 := V30e.out; have qV31 := V31e.out; have qV32 := V32e.out; have qV33 := V33e.out; have qV34 := V34e.out; have qV40 := V40e.out; have qV41 := V41e.out; have qV42 := V42e.out; have qV43 := V43e.out; have qV44 := V44e.out;
    congr 2 <;> grind
  rw [hz] at K
  obtain ⟨k0, k1, k2, k3, k4, k5⟩ := K
  refine ⟨rfl, ?_, _, _, _, _, _, ?_, k0, k1, k2, k3, k4, k5⟩
  · have hw := hA.wide (S := Rg vb vo 5) (fun _ _ _ h => h.elim)
    exact (((((hw.set (fun _ => ⟨rfl, by omega, by omega⟩) _).set (fun _ => ⟨rfl, by omega, by omega⟩) _).set (fun _ => ⟨rfl, by omega, by omega⟩) _).set (fun _ => ⟨rfl, by omega, by omega⟩) _).set (fun _ => ⟨rfl, by omega, by omega⟩) _).drew
  · exact (((((hv'.set0 _).set1 _).set2 _).set3 _).set4 _).drew

end Go.Proofs.YtkibnongmkhbaaaGreatDoor
end
