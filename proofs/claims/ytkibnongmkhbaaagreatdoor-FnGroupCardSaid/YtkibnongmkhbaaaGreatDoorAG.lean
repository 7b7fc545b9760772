/- Part of the proof that laws.FnGroup returns true for all 32 bytes p, q and x: Point.SetBytes.
   Conditions: those that each theorem states. -/
import Derived.Test.YtkibnongmkhbaaaGreatDoorAF

section
open Go Go.RowKit
namespace Go.Proofs.YtkibnongmkhbaaaGreatDoor
open Ed


/-- a point in memory -/
def Pt (w : World) (b o : Nat) (X Y Z T : F) : Prop := El w b o X ∧ El w b (o + 5) Y ∧ El w b (o + 10) Z ∧ El w b (o + 15) T

theorem Pt.lt {w : World} {b o : Nat} {X Y Z T : F} (h : Pt w b o X Y Z T) : b < w.heap.size := h.1.lt
theorem Pt.keep {w w' : World} {S : Nat → Nat → Prop} {b o : Nat} {X Y Z T : F} (hu : Upd w w' S) (h : Pt w b o X Y Z T) (hn : ∀ i, i < 20 → ¬ S b (o + i)) : Pt w' b o X Y Z T :=
  ⟨h.1.keep hu (fun i hi => hn i (by omega)), h.2.1.keep hu (fun i hi => by rw [Nat.add_assoc]; exact hn _ (by omega)), h.2.2.1.keep hu (fun i hi => by rw [Nat.add_assoc]; exact hn _ (by omega)),
    h.2.2.2.keep hu (fun i hi => by rw [Nat.add_assoc]; exact hn _ (by omega))⟩
theorem Pt.zeros (w : World) (t : TypeId) : Pt (w.alloc (Z20 t)) w.heap.size 0 0 0 0 0 :=
  ⟨El.zeros w 20 0 t (by decide), El.zeros w 20 5 t (by decide), El.zeros w 20 10 t (by decide), El.zeros w 20 15 t (by decide)⟩

/-- the y that the bytes tell -/
def yOf (bs : Nat → Int) : F := z (le bs 0 32 % 57896044618658097711785492504343953926634992332820282019728792003956564819968)
def uOf (y : F) : F := y * y - 1
def vOf (y : F) : F := y * y * D + 1
def okOf (y : F) : Prop := srC (uOf y) (vOf y) = uOf y ∨ srC (uOf y) (vOf y) = -uOf y
/-- the root that is not negative -/
def xOf (y : F) : F := absF (if srC (uOf y) (vOf y) = -uOf y ∨ srC (uOf y) (vOf y) = -uOf y * I then srR (uOf y) (vOf y) * I else srR (uOf y) (vOf y))
/-- the root, its sign as told -/
def xxOf (s : Int) (y : F) : F := if s = 1 then -xOf y else xOf y

set_option maxRecDepth 100000 in
set_option maxHeartbeats 4000000 in
theorem ptSet_ok (B vb vo b o cap : Nat) (X0 Y0 Z0 T0 : F) (bs : Nat → Int) (hb : ∀ i, Byte (bs i)) (w : World) (hG : Glob B w) (hB : B ≤ vb) (hP : Pt w vb vo X0 Y0 Z0 T0) (hBy : By w b o 32 bs) (hne : vb ≠ b) (hc : 32 ≤ cap) (hok : okOf (yOf bs)) :
    Calls Tryz.prog 24 #[.pointer (some ⟨vb, vo, none⟩), .slice (some ⟨b, o, none⟩) 32 cap] w fun e w' => e = .returned (.tuple #[.pointer (some ⟨vb, vo, none⟩), .nilIface]) ∧ Upd w w' (Rg vb vo 20) ∧ Pt w' vb vo (xxOf (bs 31 / 128) (yOf bs)) (yOf bs) 1 (xxOf (bs 31 / 128) (yOf bs) * yOf bs) := by
  obtain ⟨hpx, hpy, hpz, hpt⟩ := hP
  have l1 := hpx.lt
  have l2 := World.block_lt_of_cell? w _ (hBy 0 (by decide))
  have hlB : B ≤ w.heap.size := by omega
  have hcap : (32 : Int) ≤ (cap : Int) := by omega
  have hA := Upd.refl w (Rg vb vo 20)
  go_enter Tryz.func24, Tryz.ntmps24
  have A0 := (Upd.refl w (fun _ _ => False)).alloc (.cells #[.int .u64 0, .int .u64 0, .int .u64 0, .int .u64 0, .int .u64 0] 40)
  replace hpx := hpx.keep A0 (fun _ _ h => h)
  replace hpy := hpy.keep A0 (fun _ _ h => h)
  replace hpz := hpz.keep A0 (fun _ _ h => h)
  replace hpt := hpt.keep A0 (fun _ _ h => h)
  replace hBy := hBy.keep A0 (fun _ _ h => h)
  replace hG := hG.keep A0 (fun _ _ _ h => h)
  replace hA := hA.alloc (.cells #[.int .u64 0, .int .u64 0, .int .u64 0, .int .u64 0, .int .u64 0] 40)
  clear A0
  have hy : El (w.alloc (.cells #[.int .u64 0, .int .u64 0, .int .u64 0, .int .u64 0, .int .u64 0] 40)) (w.heap.size) 0 0 := by have h := El.zero w; (try simp only [World.size_alloc] at h); exact h
  go_wp2_with fail
  refine (setBytes_c (w.heap.size) 0 b o cap 0 bs hb _ hy hBy (by omega) (by omega)).mono ?_
  rintro e w1 ⟨rfl, hU, hE⟩
  replace hE : El _ _ _ (yOf bs) := hE
  have s1 := hU.size
  try simp only [World.size_alloc] at s1
  replace hpx := hpx.keep hU (fun i hi h => by obtain ⟨h1, h2, h3⟩ := h; omega)
  replace hpy := hpy.keep hU (fun i hi h => by obtain ⟨h1, h2, h3⟩ := h; omega)
  replace hpz := hpz.keep hU (fun i hi h => by obtain ⟨h1, h2, h3⟩ := h; omega)
  replace hpt := hpt.keep hU (fun i hi h => by obtain ⟨h1, h2, h3⟩ := h; omega)
  replace hBy := hBy.keep hU (fun i hi h => by obtain ⟨h1, h2, h3⟩ := h; omega)
  replace hG := hG.keep hU (fun b o hb h => by obtain ⟨h1, h2, h3⟩ := h; omega)
  replace hA := hA.trans hU (fun b o hb h => by obtain ⟨h1, h2, h3⟩ := h; exfalso; omega)
  clear hU
  clear hy
  obtain ⟨x1, ex⟩ : ∃ x : F, x = yOf bs := ⟨_, rfl⟩
  rw [← ex] at hE
  have X1 := Lib.hid ex
  clear ex
  have hy := hE
  clear hE
  have A0 := (Upd.refl w1 (fun _ _ => False)).alloc (.cells #[.int .u64 0, .int .u64 0, .int .u64 0, .int .u64 0, .int .u64 0] 40)
  replace hpx := hpx.keep A0 (fun _ _ h => h)
  replace hpy := hpy.keep A0 (fun _ _ h => h)
  replace hpz := hpz.keep A0 (fun _ _ h => h)
  replace hpt := hpt.keep A0 (fun _ _ h => h)
  replace hBy := hBy.keep A0 (fun _ _ h => h)
  replace hy := hy.keep A0 (fun _ _ h => h)
  replace hG := hG.keep A0 (fun _ _ _ h => h)
  replace hA := hA.alloc (.cells #[.int .u64 0, .int .u64 0, .int .u64 0, .int .u64 0, .int .u64 0] 40)
  clear A0
  have hy2 : El (w1.alloc (.cells #[.int .u64 0, .int .u64 0, .int .u64 0, .int .u64 0, .int .u64 0] 40)) (w1.heap.size) 0 0 := by have h := El.zero w1; (try simp only [World.size_alloc] at h); exact h
  go_wp2_with fail
  refine (sq_el (w1.heap.size) 0 (w.heap.size) 0 0 x1 _ hy2 hy.r).mono ?_
  rintro e w2 ⟨rfl, hU, hE⟩
  have s2 := hU.size
  try simp only [World.size_alloc] at s2
  replace hpx := hpx.keep hU (fun i hi h => by obtain ⟨h1, h2, h3⟩ := h; omega)
  replace hpy := hpy.keep hU (fun i hi h => by obtain ⟨h1, h2, h3⟩ := h; omega)
  replace hpz := hpz.keep hU (fun i hi h => by obtain ⟨h1, h2, h3⟩ := h; omega)
  replace hpt := hpt.keep hU (fun i hi h => by obtain ⟨h1, h2, h3⟩ := h; omega)
  replace hBy := hBy.keep hU (fun i hi h => by obtain ⟨h1, h2, h3⟩ := h; omega)
  replace hy := hy.keep hU (fun i hi h => by obtain ⟨h1, h2, h3⟩ := h; omega)
  replace hG := hG.keep hU (fun b o hb h => by obtain ⟨h1, h2, h3⟩ := h; omega)
  replace hA := hA.trans hU (fun b o hb h => by obtain ⟨h1, h2, h3⟩ := h; exfalso; omega)
  clear hU
  clear hy2
  obtain ⟨x2, ex⟩ : ∃ x : F, x = x1 * x1 := ⟨_, rfl⟩
  rw [← ex] at hE
  have X2 := Lib.hid ex
  clear ex
  have hy2 := hE
  clear hE
  have A0 := (Upd.refl w2 (fun _ _ => False)).alloc (.cells #[.int .u64 0, .int .u64 0, .int .u64 0, .int .u64 0, .int .u64 0] 40)
  replace hpx := hpx.keep A0 (fun _ _ h => h)
  replace hpy := hpy.keep A0 (fun _ _ h => h)
  replace hpz := hpz.keep A0 (fun _ _ h => h)
  replace hpt := hpt.keep A0 (fun _ _ h => h)
  replace hBy := hBy.keep A0 (fun _ _ h => h)
  replace hy := hy.keep A0 (fun _ _ h => h)
  replace hy2 := hy2.keep A0 (fun _ _ h => h)
  replace hG := hG.keep A0 (fun _ _ _ h => h)
  replace hA := hA.alloc (.cells #[.int .u64 0, .int .u64 0, .int .u64 0, .int .u64 0, .int .u64 0] 40)
  clear A0
  have hu : El (w2.alloc (.cells #[.int .u64 0, .int .u64 0, .int .u64 0, .int .u64 0, .int .u64 0] 40)) (w2.heap.size) 0 0 := by have h := El.zero w2; (try simp only [World.size_alloc] at h); exact h
  go_wp2_with fail
  refine (feOne_c B _ hG).mono ?_
  rintro e w3 ⟨rfl, hU, hE⟩
  have s3 := hU.size
  try simp only [World.size_alloc] at s3
  replace hpx := hpx.keep hU (fun _ _ h => h)
  replace hpy := hpy.keep hU (fun _ _ h => h)
  replace hpz := hpz.keep hU (fun _ _ h => h)
  replace hpt := hpt.keep hU (fun _ _ h => h)
  replace hBy := hBy.keep hU (fun _ _ h => h)
  replace hy := hy.keep hU (fun _ _ h => h)
  replace hy2 := hy2.keep hU (fun _ _ h => h)
  replace hu := hu.keep hU (fun _ _ h => h)
  replace hG := hG.keep hU (fun _ _ _ h => h)
  replace hA := hA.trans hU (fun _ _ _ h => h.elim)
  clear hU
  try simp only [World.size_alloc] at hE
  have ho1 := hE
  clear hE
  have Lo1 := ho1.lt
  go_wp2_with fail
  refine (sub_c (w2.heap.size) 0 (w1.heap.size) 0 (w2.heap.size + 1) 0 0 x2 1 _ hu hy2.r ho1.r (by unfold Ap; omega) (by unfold Ap; omega)).mono ?_
  rintro e w4 ⟨rfl, hU, hE⟩
  have s4 := hU.size
  try simp only [World.size_alloc] at s4
  replace hpx := hpx.keep hU (fun i hi h => by obtain ⟨h1, h2, h3⟩ := h; omega)
  replace hpy := hpy.keep hU (fun i hi h => by obtain ⟨h1, h2, h3⟩ := h; omega)
  replace hpz := hpz.keep hU (fun i hi h => by obtain ⟨h1, h2, h3⟩ := h; omega)
  replace hpt := hpt.keep hU (fun i hi h => by obtain ⟨h1, h2, h3⟩ := h; omega)
  replace hBy := hBy.keep hU (fun i hi h => by obtain ⟨h1, h2, h3⟩ := h; omega)
  replace hy := hy.keep hU (fun i hi h => by obtain ⟨h1, h2, h3⟩ := h; omega)
  replace hy2 := hy2.keep hU (fun i hi h => by obtain ⟨h1, h2, h3⟩ := h; omega)
  replace ho1 := ho1.keep hU (fun i hi h => by obtain ⟨h1, h2, h3⟩ := h; omega)
  replace hG := hG.keep hU (fun b o hb h => by obtain ⟨h1, h2, h3⟩ := h; omega)
  replace hA := hA.trans hU (fun b o hb h => by obtain ⟨h1, h2, h3⟩ := h; exfalso; omega)
  clear hU
  clear hu
  obtain ⟨x3, ex⟩ : ∃ x : F, x = x2 - 1 := ⟨_, rfl⟩
  rw [← ex] at hE
  have X3 := Lib.hid ex
  clear ex
  have hu := hE
  clear hE
  have A0 := (Upd.refl w4 (fun _ _ => False)).alloc (.cells #[.int .u64 0, .int .u64 0, .int .u64 0, .int .u64 0, .int .u64 0] 40)
  replace hpx := hpx.keep A0 (fun _ _ h => h)
  replace hpy := hpy.keep A0 (fun _ _ h => h)
  replace hpz := hpz.keep A0 (fun _ _ h => h)
  replace hpt := hpt.keep A0 (fun _ _ h => h)
  replace hBy := hBy.keep A0 (fun _ _ h => h)
  replace hy := hy.keep A0 (fun _ _ h => h)
  replace hy2 := hy2.keep A0 (fun _ _ h => h)
  replace hu := hu.keep A0 (fun _ _ h => h)
  replace ho1 := ho1.keep A0 (fun _ _ h => h)
  replace hG := hG.keep A0 (fun _ _ _ h => h)
  replace hA := hA.alloc (.cells #[.int .u64 0, .int .u64 0, .int .u64 0, .int .u64 0, .int .u64 0] 40)
  clear A0
  have hvv : El (w4.alloc (.cells #[.int .u64 0, .int .u64 0, .int .u64 0, .int .u64 0, .int .u64 0] 40)) (w4.heap.size) 0 0 := by have h := El.zero w4; (try simp only [World.size_alloc] at h); exact h
  go_wp2_with fail
  refine (dOf_c _).mono ?_
  rintro e w5 ⟨rfl, hU, hE⟩
  have s5 := hU.size
  try simp only [World.size_alloc] at s5
  replace hpx := hpx.keep hU (fun _ _ h => h)
  replace hpy := hpy.keep hU (fun _ _ h => h)
  replace hpz := hpz.keep hU (fun _ _ h => h)
  replace hpt := hpt.keep hU (fun _ _ h => h)
  replace hBy := hBy.keep hU (fun _ _ h => h)
  replace hy := hy.keep hU (fun _ _ h => h)
  replace hy2 := hy2.keep hU (fun _ _ h => h)
  replace hu := hu.keep hU (fun _ _ h => h)
  replace ho1 := ho1.keep hU (fun _ _ h => h)
  replace hvv := hvv.keep hU (fun _ _ h => h)
  replace hG := hG.keep hU (fun _ _ _ h => h)
  replace hA := hA.trans hU (fun _ _ _ h => h.elim)
  clear hU
  try simp only [World.size_alloc] at hE
  have hdd := hE
  clear hE
  have Ldd := hdd.lt
  go_wp2_with fail
  refine (mul_el (w4.heap.size) 0 (w1.heap.size) 0 (w4.heap.size + 1) 0 0 x2 D _ hvv hy2.r hdd.r).mono ?_
  rintro e w6 ⟨rfl, hU, hE⟩
  have s6 := hU.size
  try simp only [World.size_alloc] at s6
  replace hpx := hpx.keep hU (fun i hi h => by obtain ⟨h1, h2, h3⟩ := h; omega)
  replace hpy := hpy.keep hU (fun i hi h => by obtain ⟨h1, h2, h3⟩ := h; omega)
  replace hpz := hpz.keep hU (fun i hi h => by obtain ⟨h1, h2, h3⟩ := h; omega)
  replace hpt := hpt.keep hU (fun i hi h => by obtain ⟨h1, h2, h3⟩ := h; omega)
  replace hBy := hBy.keep hU (fun i hi h => by obtain ⟨h1, h2, h3⟩ := h; omega)
  replace hy := hy.keep hU (fun i hi h => by obtain ⟨h1, h2, h3⟩ := h; omega)
  replace hy2 := hy2.keep hU (fun i hi h => by obtain ⟨h1, h2, h3⟩ := h; omega)
  replace hu := hu.keep hU (fun i hi h => by obtain ⟨h1, h2, h3⟩ := h; omega)
  replace ho1 := ho1.keep hU (fun i hi h => by obtain ⟨h1, h2, h3⟩ := h; omega)
  replace hdd := hdd.keep hU (fun i hi h => by obtain ⟨h1, h2, h3⟩ := h; omega)
  replace hG := hG.keep hU (fun b o hb h => by obtain ⟨h1, h2, h3⟩ := h; omega)
  replace hA := hA.trans hU (fun b o hb h => by obtain ⟨h1, h2, h3⟩ := h; exfalso; omega)
  clear hU
  clear hvv
  obtain ⟨x4, ex⟩ : ∃ x : F, x = x2 * D := ⟨_, rfl⟩
  rw [← ex] at hE
  have X4 := Lib.hid ex
  clear ex
  have hvv := hE
  clear hE
  go_wp2_with fail
  refine (feOne_c B _ hG).mono ?_
  rintro e w7 ⟨rfl, hU, hE⟩
  have s7 := hU.size
  try simp only [World.size_alloc] at s7
  replace hpx := hpx.keep hU (fun _ _ h => h)
  replace hpy := hpy.keep hU (fun _ _ h => h)
  replace hpz := hpz.keep hU (fun _ _ h => h)
  replace hpt := hpt.keep hU (fun _ _ h => h)
  replace hBy := hBy.keep hU (fun _ _ h => h)
  replace hy := hy.keep hU (fun _ _ h => h)
  replace hy2 := hy2.keep hU (fun _ _ h => h)
  replace hu := hu.keep hU (fun _ _ h => h)
  replace ho1 := ho1.keep hU (fun _ _ h => h)
  replace hvv := hvv.keep hU (fun _ _ h => h)
  replace hdd := hdd.keep hU (fun _ _ h => h)
  replace hG := hG.keep hU (fun _ _ _ h => h)
  replace hA := hA.trans hU (fun _ _ _ h => h.elim)
  clear hU
  try simp only [World.size_alloc] at hE
  have ho2 := hE
  clear hE
  have Lo2 := ho2.lt
  go_wp2_with fail
  refine (add_c (w4.heap.size) 0 (w4.heap.size) 0 (w6.heap.size) 0 x4 x4 1 _ hvv hvv.r ho2.r (by unfold Ap; omega) (by unfold Ap; omega)).mono ?_
  rintro e w8 ⟨rfl, hU, hE⟩
  have s8 := hU.size
  try simp only [World.size_alloc] at s8
  replace hpx := hpx.keep hU (fun i hi h => by obtain ⟨h1, h2, h3⟩ := h; omega)
  replace hpy := hpy.keep hU (fun i hi h => by obtain ⟨h1, h2, h3⟩ := h; omega)
  replace hpz := hpz.keep hU (fun i hi h => by obtain ⟨h1, h2, h3⟩ := h; omega)
  replace hpt := hpt.keep hU (fun i hi h => by obtain ⟨h1, h2, h3⟩ := h; omega)
  replace hBy := hBy.keep hU (fun i hi h => by obtain ⟨h1, h2, h3⟩ := h; omega)
  replace hy := hy.keep hU (fun i hi h => by obtain ⟨h1, h2, h3⟩ := h; omega)
  replace hy2 := hy2.keep hU (fun i hi h => by obtain ⟨h1, h2, h3⟩ := h; omega)
  replace hu := hu.keep hU (fun i hi h => by obtain ⟨h1, h2, h3⟩ := h; omega)
  replace ho1 := ho1.keep hU (fun i hi h => by obtain ⟨h1, h2, h3⟩ := h; omega)
  replace hdd := hdd.keep hU (fun i hi h => by obtain ⟨h1, h2, h3⟩ := h; omega)
  replace ho2 := ho2.keep hU (fun i hi h => by obtain ⟨h1, h2, h3⟩ := h; omega)
  replace hG := hG.keep hU (fun b o hb h => by obtain ⟨h1, h2, h3⟩ := h; omega)
  replace hA := hA.trans hU (fun b o hb h => by obtain ⟨h1, h2, h3⟩ := h; exfalso; omega)
  clear hU
  clear hvv
  obtain ⟨x5, ex⟩ : ∃ x : F, x = x4 + 1 := ⟨_, rfl⟩
  rw [← ex] at hE
  have X5 := Lib.hid ex
  clear ex
  have hvv := hE
  clear hE
  have A0 := (Upd.refl w8 (fun _ _ => False)).alloc (.cells #[.int .u64 0, .int .u64 0, .int .u64 0, .int .u64 0, .int .u64 0] 40)
  replace hpx := hpx.keep A0 (fun _ _ h => h)
  replace hpy := hpy.keep A0 (fun _ _ h => h)
  replace hpz := hpz.keep A0 (fun _ _ h => h)
  replace hpt := hpt.keep A0 (fun _ _ h => h)
  replace hBy := hBy.keep A0 (fun _ _ h => h)
  replace hy := hy.keep A0 (fun _ _ h => h)
  replace hy2 := hy2.keep A0 (fun _ _ h => h)
  replace hu := hu.keep A0 (fun _ _ h => h)
  replace ho1 := ho1.keep A0 (fun _ _ h => h)
  replace hvv := hvv.keep A0 (fun _ _ h => h)
  replace hdd := hdd.keep A0 (fun _ _ h => h)
  replace ho2 := ho2.keep A0 (fun _ _ h => h)
  replace hG := hG.keep A0 (fun _ _ _ h => h)
  replace hA := hA.alloc (.cells #[.int .u64 0, .int .u64 0, .int .u64 0, .int .u64 0, .int .u64 0] 40)
  clear A0
  have hr : El (w8.alloc (.cells #[.int .u64 0, .int .u64 0, .int .u64 0, .int .u64 0, .int .u64 0] 40)) (w8.heap.size) 0 0 := by have h := El.zero w8; (try simp only [World.size_alloc] at h); exact h
  go_wp2_with fail
  refine (sqrt_c B (w8.heap.size) 0 (w2.heap.size) 0 (w4.heap.size) 0 0 x3 x5 _ hG (by omega) hr hu.r hvv.r (by omega) (by omega)).mono ?_
  rintro e w9 ⟨s, rfl, hU, hs01, hs1, hE⟩
  have Hs1 := Lib.hid hs1
  clear hs1
  have s9 := hU.size
  try simp only [World.size_alloc] at s9
  replace hpx := hpx.keep hU (fun i hi h => by obtain ⟨h1, h2, h3⟩ := h; omega)
  replace hpy := hpy.keep hU (fun i hi h => by obtain ⟨h1, h2, h3⟩ := h; omega)
  replace hpz := hpz.keep hU (fun i hi h => by obtain ⟨h1, h2, h3⟩ := h; omega)
  replace hpt := hpt.keep hU (fun i hi h => by obtain ⟨h1, h2, h3⟩ := h; omega)
  replace hBy := hBy.keep hU (fun i hi h => by obtain ⟨h1, h2, h3⟩ := h; omega)
  replace hy := hy.keep hU (fun i hi h => by obtain ⟨h1, h2, h3⟩ := h; omega)
  replace hy2 := hy2.keep hU (fun i hi h => by obtain ⟨h1, h2, h3⟩ := h; omega)
  replace hu := hu.keep hU (fun i hi h => by obtain ⟨h1, h2, h3⟩ := h; omega)
  replace ho1 := ho1.keep hU (fun i hi h => by obtain ⟨h1, h2, h3⟩ := h; omega)
  replace hvv := hvv.keep hU (fun i hi h => by obtain ⟨h1, h2, h3⟩ := h; omega)
  replace hdd := hdd.keep hU (fun i hi h => by obtain ⟨h1, h2, h3⟩ := h; omega)
  replace ho2 := ho2.keep hU (fun i hi h => by obtain ⟨h1, h2, h3⟩ := h; omega)
  replace hG := hG.keep hU (fun b o hb h => by obtain ⟨h1, h2, h3⟩ := h; omega)
  replace hA := hA.trans hU (fun b o hb h => by obtain ⟨h1, h2, h3⟩ := h; exfalso; omega)
  clear hU
  clear hr
  obtain ⟨x6, ex⟩ : ∃ x : F, x = absF (if srC x3 x5 = -x3 ∨ srC x3 x5 = -x3 * I then srR x3 x5 * I else srR x3 x5) := ⟨_, rfl⟩
  rw [← ex] at hE
  have X6 := Lib.hid ex
  clear ex
  have hr := hE
  clear hE
  have eu : x3 = uOf (yOf bs) := by rw [X3.out, X2.out, X1.out]; rfl
  have ev : x5 = vOf (yOf bs) := by rw [X5.out, X4.out, X2.out, X1.out]; rfl
  have er : x6 = xOf (yOf bs) := by rw [X6.out, eu, ev]; rfl
  have hs2 := Hs1.out
  rw [eu, ev] at hs2
  have Er := Lib.hid er
  clear er eu ev
  have hs0 : s = 1 := hs2.2 hok
  clear hs01 hs2
  subst hs0
  have A0 := (Upd.refl w9 (fun _ _ => False)).alloc (.cells #[.int .u64 0, .int .u64 0, .int .u64 0, .int .u64 0, .int .u64 0] 40)
  replace hpx := hpx.keep A0 (fun _ _ h => h)
  replace hpy := hpy.keep A0 (fun _ _ h => h)
  replace hpz := hpz.keep A0 (fun _ _ h => h)
  replace hpt := hpt.keep A0 (fun _ _ h => h)
  replace hBy := hBy.keep A0 (fun _ _ h => h)
  replace hy := hy.keep A0 (fun _ _ h => h)
  replace hy2 := hy2.keep A0 (fun _ _ h => h)
  replace hu := hu.keep A0 (fun _ _ h => h)
  replace ho1 := ho1.keep A0 (fun _ _ h => h)
  replace hvv := hvv.keep A0 (fun _ _ h => h)
  replace hdd := hdd.keep A0 (fun _ _ h => h)
  replace ho2 := ho2.keep A0 (fun _ _ h => h)
  replace hr := hr.keep A0 (fun _ _ h => h)
  replace hG := hG.keep A0 (fun _ _ _ h => h)
  replace hA := hA.alloc (.cells #[.int .u64 0, .int .u64 0, .int .u64 0, .int .u64 0, .int .u64 0] 40)
  clear A0
  have hn : El (w9.alloc (.cells #[.int .u64 0, .int .u64 0, .int .u64 0, .int .u64 0, .int .u64 0] 40)) (w9.heap.size) 0 0 := by have h := El.zero w9; (try simp only [World.size_alloc] at h); exact h
  go_wp2_with fail
  refine (neg_c B (w9.heap.size) 0 (w8.heap.size) 0 0 x6 _ hG (by omega) hn hr.r (by unfold Ap; omega)).mono ?_
  rintro e w10 ⟨rfl, hU, hE⟩
  have s10 := hU.size
  try simp only [World.size_alloc] at s10
  replace hpx := hpx.keep hU (fun i hi h => by obtain ⟨h1, h2, h3⟩ := h; omega)
  replace hpy := hpy.keep hU (fun i hi h => by obtain ⟨h1, h2, h3⟩ := h; omega)
  replace hpz := hpz.keep hU (fun i hi h => by obtain ⟨h1, h2, h3⟩ := h; omega)
  replace hpt := hpt.keep hU (fun i hi h => by obtain ⟨h1, h2, h3⟩ := h; omega)
  replace hBy := hBy.keep hU (fun i hi h => by obtain ⟨h1, h2, h3⟩ := h; omega)
  replace hy := hy.keep hU (fun i hi h => by obtain ⟨h1, h2, h3⟩ := h; omega)
  replace hy2 := hy2.keep hU (fun i hi h => by obtain ⟨h1, h2, h3⟩ := h; omega)
  replace hu := hu.keep hU (fun i hi h => by obtain ⟨h1, h2, h3⟩ := h; omega)
  replace ho1 := ho1.keep hU (fun i hi h => by obtain ⟨h1, h2, h3⟩ := h; omega)
  replace hvv := hvv.keep hU (fun i hi h => by obtain ⟨h1, h2, h3⟩ := h; omega)
  replace hdd := hdd.keep hU (fun i hi h => by obtain ⟨h1, h2, h3⟩ := h; omega)
  replace ho2 := ho2.keep hU (fun i hi h => by obtain ⟨h1, h2, h3⟩ := h; omega)
  replace hr := hr.keep hU (fun i hi h => by obtain ⟨h1, h2, h3⟩ := h; omega)
  replace hG := hG.keep hU (fun b o hb h => by obtain ⟨h1, h2, h3⟩ := h; omega)
  replace hA := hA.trans hU (fun b o hb h => by obtain ⟨h1, h2, h3⟩ := h; exfalso; omega)
  clear hU
  clear hn
  obtain ⟨x7, ex⟩ : ∃ x : F, x = -x6 := ⟨_, rfl⟩
  rw [← ex] at hE
  have X7 := Lib.hid ex
  clear ex
  have hn := hE
  clear hE
  have c31 := hBy 31 (by decide)
  have hsg : Byte (bs 31) := hb 31
  unfold Byte at hsg
  obtain ⟨b1, b2⟩ := hsg
  have hsc : bs 31 / 128 = 0 ∨ bs 31 / 128 = 1 := by omega
  go_wp2_with fail
  refine (sel_any (bs 31 / 128) hsc (w8.heap.size) 0 (w9.heap.size) 0 (w8.heap.size) 0 x6 x7 x6 _ hr hn.r hr.r (by unfold Ap; omega) (by unfold Ap; omega)).mono ?_
  rintro e w11 ⟨rfl, hU, hE⟩
  clear c31
  have s11 := hU.size
  try simp only [World.size_alloc] at s11
  replace hpx := hpx.keep hU (fun i hi h => by obtain ⟨h1, h2, h3⟩ := h; omega)
  replace hpy := hpy.keep hU (fun i hi h => by obtain ⟨h1, h2, h3⟩ := h; omega)
  replace hpz := hpz.keep hU (fun i hi h => by obtain ⟨h1, h2, h3⟩ := h; omega)
  replace hpt := hpt.keep hU (fun i hi h => by obtain ⟨h1, h2, h3⟩ := h; omega)
  replace hBy := hBy.keep hU (fun i hi h => by obtain ⟨h1, h2, h3⟩ := h; omega)
  replace hy := hy.keep hU (fun i hi h => by obtain ⟨h1, h2, h3⟩ := h; omega)
  replace hy2 := hy2.keep hU (fun i hi h => by obtain ⟨h1, h2, h3⟩ := h; omega)
  replace hu := hu.keep hU (fun i hi h => by obtain ⟨h1, h2, h3⟩ := h; omega)
  replace ho1 := ho1.keep hU (fun i hi h => by obtain ⟨h1, h2, h3⟩ := h; omega)
  replace hvv := hvv.keep hU (fun i hi h => by obtain ⟨h1, h2, h3⟩ := h; omega)
  replace hdd := hdd.keep hU (fun i hi h => by obtain ⟨h1, h2, h3⟩ := h; omega)
  replace ho2 := ho2.keep hU (fun i hi h => by obtain ⟨h1, h2, h3⟩ := h; omega)
  replace hn := hn.keep hU (fun i hi h => by obtain ⟨h1, h2, h3⟩ := h; omega)
  replace hG := hG.keep hU (fun b o hb h => by obtain ⟨h1, h2, h3⟩ := h; omega)
  replace hA := hA.trans hU (fun b o hb h => by obtain ⟨h1, h2, h3⟩ := h; exfalso; omega)
  clear hU
  clear hr
  obtain ⟨x8, ex⟩ : ∃ x : F, x = if bs 31 / 128 = 1 then x7 else x6 := ⟨_, rfl⟩
  rw [← ex] at hE
  have X8 := Lib.hid ex
  clear ex
  have hr := hE
  clear hE
  go_wp2_with fail
  refine (set_c vb vo (w8.heap.size) 0 X0 x8 _ hpx hr.r).mono ?_
  rintro e w12 ⟨rfl, hU, hE⟩
  have s12 := hU.size
  try simp only [World.size_alloc] at s12
  replace hpy := hpy.keep hU (fun i hi h => by obtain ⟨h1, h2, h3⟩ := h; omega)
  replace hpz := hpz.keep hU (fun i hi h => by obtain ⟨h1, h2, h3⟩ := h; omega)
  replace hpt := hpt.keep hU (fun i hi h => by obtain ⟨h1, h2, h3⟩ := h; omega)
  replace hBy := hBy.keep hU (fun i hi h => by obtain ⟨h1, h2, h3⟩ := h; omega)
  replace hy := hy.keep hU (fun i hi h => by obtain ⟨h1, h2, h3⟩ := h; omega)
  replace hy2 := hy2.keep hU (fun i hi h => by obtain ⟨h1, h2, h3⟩ := h; omega)
  replace hu := hu.keep hU (fun i hi h => by obtain ⟨h1, h2, h3⟩ := h; omega)
  replace ho1 := ho1.keep hU (fun i hi h => by obtain ⟨h1, h2, h3⟩ := h; omega)
  replace hvv := hvv.keep hU (fun i hi h => by obtain ⟨h1, h2, h3⟩ := h; omega)
  replace hdd := hdd.keep hU (fun i hi h => by obtain ⟨h1, h2, h3⟩ := h; omega)
  replace ho2 := ho2.keep hU (fun i hi h => by obtain ⟨h1, h2, h3⟩ := h; omega)
  replace hr := hr.keep hU (fun i hi h => by obtain ⟨h1, h2, h3⟩ := h; omega)
  replace hn := hn.keep hU (fun i hi h => by obtain ⟨h1, h2, h3⟩ := h; omega)
  replace hG := hG.keep hU (fun b o hb h => by obtain ⟨h1, h2, h3⟩ := h; omega)
  replace hA := hA.trans hU (fun b o hb h => by obtain ⟨h1, h2, h3⟩ := h; exact ⟨h1, by omega, by omega⟩)
  clear hU
  clear hpx
  have hpx := hE
  clear hE
  go_wp2_with fail
  refine (set_c vb (vo + 5) (w.heap.size) 0 Y0 x1 _ hpy hy.r).mono ?_
  rintro e w13 ⟨rfl, hU, hE⟩
  have s13 := hU.size
  try simp only [World.size_alloc] at s13
  replace hpx := hpx.keep hU (fun i hi h => by obtain ⟨h1, h2, h3⟩ := h; omega)
  replace hpz := hpz.keep hU (fun i hi h => by obtain ⟨h1, h2, h3⟩ := h; omega)
  replace hpt := hpt.keep hU (fun i hi h => by obtain ⟨h1, h2, h3⟩ := h; omega)
  replace hBy := hBy.keep hU (fun i hi h => by obtain ⟨h1, h2, h3⟩ := h; omega)
  replace hy := hy.keep hU (fun i hi h => by obtain ⟨h1, h2, h3⟩ := h; omega)
  replace hy2 := hy2.keep hU (fun i hi h => by obtain ⟨h1, h2, h3⟩ := h; omega)
  replace hu := hu.keep hU (fun i hi h => by obtain ⟨h1, h2, h3⟩ := h; omega)
  replace ho1 := ho1.keep hU (fun i hi h => by obtain ⟨h1, h2, h3⟩ := h; omega)
  replace hvv := hvv.keep hU (fun i hi h => by obtain ⟨h1, h2, h3⟩ := h; omega)
  replace hdd := hdd.keep hU (fun i hi h => by obtain ⟨h1, h2, h3⟩ := h; omega)
  replace ho2 := ho2.keep hU (fun i hi h => by obtain ⟨h1, h2, h3⟩ := h; omega)
  replace hr := hr.keep hU (fun i hi h => by obtain ⟨h1, h2, h3⟩ := h; omega)
  replace hn := hn.keep hU (fun i hi h => by obtain ⟨h1, h2, h3⟩ := h; omega)
  replace hG := hG.keep hU (fun b o hb h => by obtain ⟨h1, h2, h3⟩ := h; omega)
  replace hA := hA.trans hU (fun b o hb h => by obtain ⟨h1, h2, h3⟩ := h; exact ⟨h1, by omega, by omega⟩)
  clear hU
  clear hpy
  have hpy := hE
  clear hE
  go_wp2_with fail
  refine (one_c B vb (vo + 10) Z0 _ hG hpz).mono ?_
  rintro e w14 ⟨rfl, hU, hE⟩
  have s14 := hU.size
  try simp only [World.size_alloc] at s14
  replace hpx := hpx.keep hU (fun i hi h => by obtain ⟨h1, h2, h3⟩ := h; omega)
  replace hpy := hpy.keep hU (fun i hi h => by obtain ⟨h1, h2, h3⟩ := h; omega)
  replace hpt := hpt.keep hU (fun i hi h => by obtain ⟨h1, h2, h3⟩ := h; omega)
  replace hBy := hBy.keep hU (fun i hi h => by obtain ⟨h1, h2, h3⟩ := h; omega)
  replace hy := hy.keep hU (fun i hi h => by obtain ⟨h1, h2, h3⟩ := h; omega)
  replace hy2 := hy2.keep hU (fun i hi h => by obtain ⟨h1, h2, h3⟩ := h; omega)
  replace hu := hu.keep hU (fun i hi h => by obtain ⟨h1, h2, h3⟩ := h; omega)
  replace ho1 := ho1.keep hU (fun i hi h => by obtain ⟨h1, h2, h3⟩ := h; omega)
  replace hvv := hvv.keep hU (fun i hi h => by obtain ⟨h1, h2, h3⟩ := h; omega)
  replace hdd := hdd.keep hU (fun i hi h => by obtain ⟨h1, h2, h3⟩ := h; omega)
  replace ho2 := ho2.keep hU (fun i hi h => by obtain ⟨h1, h2, h3⟩ := h; omega)
  replace hr := hr.keep hU (fun i hi h => by obtain ⟨h1, h2, h3⟩ := h; omega)
  replace hn := hn.keep hU (fun i hi h => by obtain ⟨h1, h2, h3⟩ := h; omega)
  replace hG := hG.keep hU (fun b o hb h => by obtain ⟨h1, h2, h3⟩ := h; omega)
  replace hA := hA.trans hU (fun b o hb h => by obtain ⟨h1, h2, h3⟩ := h; exact ⟨h1, by omega, by omega⟩)
  clear hU
  clear hpz
  have hpz := hE
  clear hE
  go_wp2_with fail
  refine (mul_el vb (vo + 15) (w8.heap.size) 0 (w.heap.size) 0 T0 x8 x1 _ hpt hr.r hy.r).mono ?_
  rintro e w15 ⟨rfl, hU, hE⟩
  have s15 := hU.size
  try simp only [World.size_alloc] at s15
  replace hpx := hpx.keep hU (fun i hi h => by obtain ⟨h1, h2, h3⟩ := h; omega)
  replace hpy := hpy.keep hU (fun i hi h => by obtain ⟨h1, h2, h3⟩ := h; omega)
  replace hpz := hpz.keep hU (fun i hi h => by obtain ⟨h1, h2, h3⟩ := h; omega)
  replace hBy := hBy.keep hU (fun i hi h => by obtain ⟨h1, h2, h3⟩ := h; omega)
  replace hy := hy.keep hU (fun i hi h => by obtain ⟨h1, h2, h3⟩ := h; omega)
  replace hy2 := hy2.keep hU (fun i hi h => by obtain ⟨h1, h2, h3⟩ := h; omega)
  replace hu := hu.keep hU (fun i hi h => by obtain ⟨h1, h2, h3⟩ := h; omega)
  replace ho1 := ho1.keep hU (fun i hi h => by obtain ⟨h1, h2, h3⟩ := h; omega)
  replace hvv := hvv.keep hU (fun i hi h => by obtain ⟨h1, h2, h3⟩ := h; omega)
  replace hdd := hdd.keep hU (fun i hi h => by obtain ⟨h1, h2, h3⟩ := h; omega)
  replace ho2 := ho2.keep hU (fun i hi h => by obtain ⟨h1, h2, h3⟩ := h; omega)
  replace hr := hr.keep hU (fun i hi h => by obtain ⟨h1, h2, h3⟩ := h; omega)
  replace hn := hn.keep hU (fun i hi h => by obtain ⟨h1, h2, h3⟩ := h; omega)
  replace hG := hG.keep hU (fun b o hb h => by obtain ⟨h1, h2, h3⟩ := h; omega)
  replace hA := hA.trans hU (fun b o hb h => by obtain ⟨h1, h2, h3⟩ := h; exact ⟨h1, by omega, by omega⟩)
  clear hU
  clear hpt
  obtain ⟨x9, ex⟩ : ∃ x : F, x = x8 * x1 := ⟨_, rfl⟩
  rw [← ex] at hE
  have X9 := Lib.hid ex
  clear ex
  have hpt := hE
  clear hE
  simp only []
  repeat go_step
  go_ret2
  have e8 : x8 = xxOf (bs 31 / 128) (yOf bs) := by rw [X8.out, X7.out, Er.out]; rfl
  have e9 := X9.out
  rw [X1.out, e8] at e9
  rw [e9] at hpt
  rw [e8] at hpx
  rw [X1.out] at hpy
  exact ⟨rfl, hA, hpx, hpy, hpz, hpt⟩

set_option maxRecDepth 100000 in
set_option maxHeartbeats 4000000 in
theorem ptSet_no (B vb vo b o cap : Nat) (X0 Y0 Z0 T0 : F) (bs : Nat → Int) (hb : ∀ i, Byte (bs i)) (w : World) (hG : Glob B w) (hB : B ≤ vb) (hP : Pt w vb vo X0 Y0 Z0 T0) (hBy : By w b o 32 bs) (_hne : vb ≠ b) (hc : 32 ≤ cap) (hno : ¬ okOf (yOf bs)) :
    Calls Tryz.prog 24 #[.pointer (some ⟨vb, vo, none⟩), .slice (some ⟨b, o, none⟩) 32 cap] w fun e w' => ∃ (t : TypeId) (v : Value), e = .returned (.tuple #[.pointer none, .iface t v]) ∧ Upd w w' (Rg vb vo 20) := by
  obtain ⟨hpx, hpy, hpz, hpt⟩ := hP
  have l1 := hpx.lt
  have l2 := World.block_lt_of_cell? w _ (hBy 0 (by decide))
  have hlB : B ≤ w.heap.size := by omega
  have hcap : (32 : Int) ≤ (cap : Int) := by omega
  have hA := Upd.refl w (Rg vb vo 20)
  go_enter Tryz.func24, Tryz.ntmps24
  have A0 := (Upd.refl w (fun _ _ => False)).alloc (.cells #[.int .u64 0, .int .u64 0, .int .u64 0, .int .u64 0, .int .u64 0] 40)
  replace hpx := hpx.keep A0 (fun _ _ h => h)
  replace hpy := hpy.keep A0 (fun _ _ h => h)
  replace hpz := hpz.keep A0 (fun _ _ h => h)
  replace hpt := hpt.keep A0 (fun _ _ h => h)
  replace hBy := hBy.keep A0 (fun _ _ h => h)
  replace hG := hG.keep A0 (fun _ _ _ h => h)
  replace hA := hA.alloc (.cells #[.int .u64 0, .int .u64 0, .int .u64 0, .int .u64 0, .int .u64 0] 40)
  clear A0
  have hy : El (w.alloc (.cells #[.int .u64 0, .int .u64 0, .int .u64 0, .int .u64 0, .int .u64 0] 40)) (w.heap.size) 0 0 := by have h := El.zero w; (try simp only [World.size_alloc] at h); exact h
  go_wp2_with fail
  refine (setBytes_c (w.heap.size) 0 b o cap 0 bs hb _ hy hBy (by omega) (by omega)).mono ?_
  rintro e w1 ⟨rfl, hU, hE⟩
  replace hE : El _ _ _ (yOf bs) := hE
  have s1 := hU.size
  try simp only [World.size_alloc] at s1
  replace hpx := hpx.keep hU (fun i hi h => by obtain ⟨h1, h2, h3⟩ := h; omega)
  replace hpy := hpy.keep hU (fun i hi h => by obtain ⟨h1, h2, h3⟩ := h; omega)
  replace hpz := hpz.keep hU (fun i hi h => by obtain ⟨h1, h2, h3⟩ := h; omega)
  replace hpt := hpt.keep hU (fun i hi h => by obtain ⟨h1, h2, h3⟩ := h; omega)
  replace hBy := hBy.keep hU (fun i hi h => by obtain ⟨h1, h2, h3⟩ := h; omega)
  replace hG := hG.keep hU (fun b o hb h => by obtain ⟨h1, h2, h3⟩ := h; omega)
  replace hA := hA.trans hU (fun b o hb h => by obtain ⟨h1, h2, h3⟩ := h; exfalso; omega)
  clear hU
  clear hy
  obtain ⟨x1, ex⟩ : ∃ x : F, x = yOf bs := ⟨_, rfl⟩
  rw [← ex] at hE
  have X1 := Lib.hid ex
  clear ex
  have hy := hE
  clear hE
  have A0 := (Upd.refl w1 (fun _ _ => False)).alloc (.cells #[.int .u64 0, .int .u64 0, .int .u64 0, .int .u64 0, .int .u64 0] 40)
  replace hpx := hpx.keep A0 (fun _ _ h => h)
  replace hpy := hpy.keep A0 (fun _ _ h => h)
  replace hpz := hpz.keep A0 (fun _ _ h => h)
  replace hpt := hpt.keep A0 (fun _ _ h => h)
  replace hBy := hBy.keep A0 (fun _ _ h => h)
  replace hy := hy.keep A0 (fun _ _ h => h)
  replace hG := hG.keep A0 (fun _ _ _ h => h)
  replace hA := hA.alloc (.cells #[.int .u64 0, .int .u64 0, .int .u64 0, .int .u64 0, .int .u64 0] 40)
  clear A0
  have hy2 : El (w1.alloc (.cells #[.int .u64 0, .int .u64 0, .int .u64 0, .int .u64 0, .int .u64 0] 40)) (w1.heap.size) 0 0 := by have h := El.zero w1; (try simp only [World.size_alloc] at h); exact h
  go_wp2_with fail
  refine (sq_el (w1.heap.size) 0 (w.heap.size) 0 0 x1 _ hy2 hy.r).mono ?_
  rintro e w2 ⟨rfl, hU, hE⟩
  have s2 := hU.size
  try simp only [World.size_alloc] at s2
  replace hpx := hpx.keep hU (fun i hi h => by obtain ⟨h1, h2, h3⟩ := h; omega)
  replace hpy := hpy.keep hU (fun i hi h => by obtain ⟨h1, h2, h3⟩ := h; omega)
  replace hpz := hpz.keep hU (fun i hi h => by obtain ⟨h1, h2, h3⟩ := h; omega)
  replace hpt := hpt.keep hU (fun i hi h => by obtain ⟨h1, h2, h3⟩ := h; omega)
  replace hBy := hBy.keep hU (fun i hi h => by obtain ⟨h1, h2, h3⟩ := h; omega)
  replace hy := hy.keep hU (fun i hi h => by obtain ⟨h1, h2, h3⟩ := h; omega)
  replace hG := hG.keep hU (fun b o hb h => by obtain ⟨h1, h2, h3⟩ := h; omega)
  replace hA := hA.trans hU (fun b o hb h => by obtain ⟨h1, h2, h3⟩ := h; exfalso; omega)
  clear hU
  clear hy2
  obtain ⟨x2, ex⟩ : ∃ x : F, x = x1 * x1 := ⟨_, rfl⟩
  rw [← ex] at hE
  have X2 := Lib.hid ex
  clear ex
  have hy2 := hE
  clear hE
  have A0 := (Upd.refl w2 (fun _ _ => False)).alloc (.cells #[.int .u64 0, .int .u64 0, .int .u64 0, .int .u64 0, .int .u64 0] 40)
  replace hpx := hpx.keep A0 (fun _ _ h => h)
  replace hpy := hpy.keep A0 (fun _ _ h => h)
  replace hpz := hpz.keep A0 (fun _ _ h => h)
  replace hpt := hpt.keep A0 (fun _ _ h => h)
  replace hBy := hBy.keep A0 (fun _ _ h => h)
  replace hy := hy.keep A0 (fun _ _ h => h)
  replace hy2 := hy2.keep A0 (fun _ _ h => h)
  replace hG := hG.keep A0 (fun _ _ _ h => h)
  replace hA := hA.alloc (.cells #[.int .u64 0, .int .u64 0, .int .u64 0, .int .u64 0, .int .u64 0] 40)
  clear A0
  have hu : El (w2.alloc (.cells #[.int .u64 0, .int .u64 0, .int .u64 0, .int .u64 0, .int .u64 0] 40)) (w2.heap.size) 0 0 := by have h := El.zero w2; (try simp only [World.size_alloc] at h); exact h
  go_wp2_with fail
  refine (feOne_c B _ hG).mono ?_
  rintro e w3 ⟨rfl, hU, hE⟩
  have s3 := hU.size
  try simp only [World.size_alloc] at s3
  replace hpx := hpx.keep hU (fun _ _ h => h)
  replace hpy := hpy.keep hU (fun _ _ h => h)
  replace hpz := hpz.keep hU (fun _ _ h => h)
  replace hpt := hpt.keep hU (fun _ _ h => h)
  replace hBy := hBy.keep hU (fun _ _ h => h)
  replace hy := hy.keep hU (fun _ _ h => h)
  replace hy2 := hy2.keep hU (fun _ _ h => h)
  replace hu := hu.keep hU (fun _ _ h => h)
  replace hG := hG.keep hU (fun _ _ _ h => h)
  replace hA := hA.trans hU (fun _ _ _ h => h.elim)
  clear hU
  try simp only [World.size_alloc] at hE
  have ho1 := hE
  clear hE
  have Lo1 := ho1.lt
  go_wp2_with fail
  refine (sub_c (w2.heap.size) 0 (w1.heap.size) 0 (w2.heap.size + 1) 0 0 x2 1 _ hu hy2.r ho1.r (by unfold Ap; omega) (by unfold Ap; omega)).mono ?_
  rintro e w4 ⟨rfl, hU, hE⟩
  have s4 := hU.size
  try simp only [World.size_alloc] at s4
  replace hpx := hpx.keep hU (fun i hi h => by obtain ⟨h1, h2, h3⟩ := h; omega)
  replace hpy := hpy.keep hU (fun i hi h => by obtain ⟨h1, h2, h3⟩ := h; omega)
  replace hpz := hpz.keep hU (fun i hi h => by obtain ⟨h1, h2, h3⟩ := h; omega)
  replace hpt := hpt.keep hU (fun i hi h => by obtain ⟨h1, h2, h3⟩ := h; omega)
  replace hBy := hBy.keep hU (fun i hi h => by obtain ⟨h1, h2, h3⟩ := h; omega)
  replace hy := hy.keep hU (fun i hi h => by obtain ⟨h1, h2, h3⟩ := h; omega)
  replace hy2 := hy2.keep hU (fun i hi h => by obtain ⟨h1, h2, h3⟩ := h; omega)
  replace ho1 := ho1.keep hU (fun i hi h => by obtain ⟨h1, h2, h3⟩ := h; omega)
  replace hG := hG.keep hU (fun b o hb h => by obtain ⟨h1, h2, h3⟩ := h; omega)
  replace hA := hA.trans hU (fun b o hb h => by obtain ⟨h1, h2, h3⟩ := h; exfalso; omega)
  clear hU
  clear hu
  obtain ⟨x3, ex⟩ : ∃ x : F, x = x2 - 1 := ⟨_, rfl⟩
  rw [← ex] at hE
  have X3 := Lib.hid ex
  clear ex
  have hu := hE
  clear hE
  have A0 := (Upd.refl w4 (fun _ _ => False)).alloc (.cells #[.int .u64 0, .int .u64 0, .int .u64 0, .int .u64 0, .int .u64 0] 40)
  replace hpx := hpx.keep A0 (fun _ _ h => h)
  replace hpy := hpy.keep A0 (fun _ _ h => h)
  replace hpz := hpz.keep A0 (fun _ _ h => h)
  replace hpt := hpt.keep A0 (fun _ _ h => h)
  replace hBy := hBy.keep A0 (fun _ _ h => h)
  replace hy := hy.keep A0 (fun _ _ h => h)
  replace hy2 := hy2.keep A0 (fun _ _ h => h)
  replace hu := hu.keep A0 (fun _ _ h => h)
  replace ho1 := ho1.keep A0 (fun _ _ h => h)
  replace hG := hG.keep A0 (fun _ _ _ h => h)
  replace hA := hA.alloc (.cells #[.int .u64 0, .int .u64 0, .int .u64 0, .int .u64 0, .int .u64 0] 40)
  clear A0
  have hvv : El (w4.alloc (.cells #[.int .u64 0, .int .u64 0, .int .u64 0, .int .u64 0, .int .u64 0] 40)) (w4.heap.size) 0 0 := by have h := El.zero w4; (try simp only [World.size_alloc] at h); exact h
  go_wp2_with fail
  refine (dOf_c _).mono ?_
  rintro e w5 ⟨rfl, hU, hE⟩
  have s5 := hU.size
  try simp only [World.size_alloc] at s5
  replace hpx := hpx.keep hU (fun _ _ h => h)
  replace hpy := hpy.keep hU (fun _ _ h => h)
  replace hpz := hpz.keep hU (fun _ _ h => h)
  replace hpt := hpt.keep hU (fun _ _ h => h)
  replace hBy := hBy.keep hU (fun _ _ h => h)
  replace hy := hy.keep hU (fun _ _ h => h)
  replace hy2 := hy2.keep hU (fun _ _ h => h)
  replace hu := hu.keep hU (fun _ _ h => h)
  replace ho1 := ho1.keep hU (fun _ _ h => h)
  replace hvv := hvv.keep hU (fun _ _ h => h)
  replace hG := hG.keep hU (fun _ _ _ h => h)
  replace hA := hA.trans hU (fun _ _ _ h => h.elim)
  clear hU
  try simp only [World.size_alloc] at hE
  have hdd := hE
  clear hE
  have Ldd := hdd.lt
  go_wp2_with fail
  refine (mul_el (w4.heap.size) 0 (w1.heap.size) 0 (w4.heap.size + 1) 0 0 x2 D _ hvv hy2.r hdd.r).mono ?_
  rintro e w6 ⟨rfl, hU, hE⟩
  have s6 := hU.size
  try simp only [World.size_alloc] at s6
  replace hpx := hpx.keep hU (fun i hi h => by obtain ⟨h1, h2, h3⟩ := h; omega)
  replace hpy := hpy.keep hU (fun i hi h => by obtain ⟨h1, h2, h3⟩ := h; omega)
  replace hpz := hpz.keep hU (fun i hi h => by obtain ⟨h1, h2, h3⟩ := h; omega)
  replace hpt := hpt.keep hU (fun i hi h => by obtain ⟨h1, h2, h3⟩ := h; omega)
  replace hBy := hBy.keep hU (fun i hi h => by obtain ⟨h1, h2, h3⟩ := h; omega)
  replace hy := hy.keep hU (fun i hi h => by obtain ⟨h1, h2, h3⟩ := h; omega)
  replace hy2 := hy2.keep hU (fun i hi h => by obtain ⟨h1, h2, h3⟩ := h; omega)
  replace hu := hu.keep hU (fun i hi h => by obtain ⟨h1, h2, h3⟩ := h; omega)
  replace ho1 := ho1.keep hU (fun i hi h => by obtain ⟨h1, h2, h3⟩ := h; omega)
  replace hdd := hdd.keep hU (fun i hi h => by obtain ⟨h1, h2, h3⟩ := h; omega)
  replace hG := hG.keep hU (fun b o hb h => by obtain ⟨h1, h2, h3⟩ := h; omega)
  replace hA := hA.trans hU (fun b o hb h => by obtain ⟨h1, h2, h3⟩ := h; exfalso; omega)
  clear hU
  clear hvv
  obtain ⟨x4, ex⟩ : ∃ x : F, x = x2 * D := ⟨_, rfl⟩
  rw [← ex] at hE
  have X4 := Lib.hid ex
  clear ex
  have hvv := hE
  clear hE
  go_wp2_with fail
  refine (feOne_c B _ hG).mono ?_
  rintro e w7 ⟨rfl, hU, hE⟩
  have s7 := hU.size
  try simp only [World.size_alloc] at s7
  replace hpx := hpx.keep hU (fun _ _ h => h)
  replace hpy := hpy.keep hU (fun _ _ h => h)
  replace hpz := hpz.keep hU (fun _ _ h => h)
  replace hpt := hpt.keep hU (fun _ _ h => h)
  replace hBy := hBy.keep hU (fun _ _ h => h)
  replace hy := hy.keep hU (fun _ _ h => h)
  replace hy2 := hy2.keep hU (fun _ _ h => h)
  replace hu := hu.keep hU (fun _ _ h => h)
  replace ho1 := ho1.keep hU (fun _ _ h => h)
  replace hvv := hvv.keep hU (fun _ _ h => h)
  replace hdd := hdd.keep hU (fun _ _ h => h)
  replace hG := hG.keep hU (fun _ _ _ h => h)
  replace hA := hA.trans hU (fun _ _ _ h => h.elim)
  clear hU
  try simp only [World.size_alloc] at hE
  have ho2 := hE
  clear hE
  have Lo2 := ho2.lt
  go_wp2_with fail
  refine (add_c (w4.heap.size) 0 (w4.heap.size) 0 (w6.heap.size) 0 x4 x4 1 _ hvv hvv.r ho2.r (by unfold Ap; omega) (by unfold Ap; omega)).mono ?_
  rintro e w8 ⟨rfl, hU, hE⟩
  have s8 := hU.size
  try simp only [World.size_alloc] at s8
  replace hpx := hpx.keep hU (fun i hi h => by obtain ⟨h1, h2, h3⟩ := h; omega)
  replace hpy := hpy.keep hU (fun i hi h => by obtain ⟨h1, h2, h3⟩ := h; omega)
  replace hpz := hpz.keep hU (fun i hi h => by obtain ⟨h1, h2, h3⟩ := h; omega)
  replace hpt := hpt.keep hU (fun i hi h => by obtain ⟨h1, h2, h3⟩ := h; omega)
  replace hBy := hBy.keep hU (fun i hi h => by obtain ⟨h1, h2, h3⟩ := h; omega)
  replace hy := hy.keep hU (fun i hi h => by obtain ⟨h1, h2, h3⟩ := h; omega)
  replace hy2 := hy2.keep hU (fun i hi h => by obtain ⟨h1, h2, h3⟩ := h; omega)
  replace hu := hu.keep hU (fun i hi h => by obtain ⟨h1, h2, h3⟩ := h; omega)
  replace ho1 := ho1.keep hU (fun i hi h => by obtain ⟨h1, h2, h3⟩ := h; omega)
  replace hdd := hdd.keep hU (fun i hi h => by obtain ⟨h1, h2, h3⟩ := h; omega)
  replace ho2 := ho2.keep hU (fun i hi h => by obtain ⟨h1, h2, h3⟩ := h; omega)
  replace hG := hG.keep hU (fun b o hb h => by obtain ⟨h1, h2, h3⟩ := h; omega)
  replace hA := hA.trans hU (fun b o hb h => by obtain ⟨h1, h2, h3⟩ := h; exfalso; omega)
  clear hU
  clear hvv
  obtain ⟨x5, ex⟩ : ∃ x : F, x = x4 + 1 := ⟨_, rfl⟩
  rw [← ex] at hE
  have X5 := Lib.hid ex
  clear ex
  have hvv := hE
  clear hE
  have A0 := (Upd.refl w8 (fun _ _ => False)).alloc (.cells #[.int .u64 0, .int .u64 0, .int .u64 0, .int .u64 0, .int .u64 0] 40)
  replace hpx := hpx.keep A0 (fun _ _ h => h)
  replace hpy := hpy.keep A0 (fun _ _ h => h)
  replace hpz := hpz.keep A0 (fun _ _ h => h)
  replace hpt := hpt.keep A0 (fun _ _ h => h)
  replace hBy := hBy.keep A0 (fun _ _ h => h)
  replace hy := hy.keep A0 (fun _ _ h => h)
  replace hy2 := hy2.keep A0 (fun _ _ h => h)
  replace hu := hu.keep A0 (fun _ _ h => h)
  replace ho1 := ho1.keep A0 (fun _ _ h => h)
  replace hvv := hvv.keep A0 (fun _ _ h => h)
  replace hdd := hdd.keep A0 (fun _ _ h => h)
  replace ho2 := ho2.keep A0 (fun _ _ h => h)
  replace hG := hG.keep A0 (fun _ _ _ h => h)
  replace hA := hA.alloc (.cells #[.int .u64 0, .int .u64 0, .int .u64 0, .int .u64 0, .int .u64 0] 40)
  clear A0
  have hr : El (w8.alloc (.cells #[.int .u64 0, .int .u64 0, .int .u64 0, .int .u64 0, .int .u64 0] 40)) (w8.heap.size) 0 0 := by have h := El.zero w8; (try simp only [World.size_alloc] at h); exact h
  go_wp2_with fail
  refine (sqrt_c B (w8.heap.size) 0 (w2.heap.size) 0 (w4.heap.size) 0 0 x3 x5 _ hG (by omega) hr hu.r hvv.r (by omega) (by omega)).mono ?_
  rintro e w9 ⟨s, rfl, hU, hs01, hs1, hE⟩
  have Hs1 := Lib.hid hs1
  clear hs1
  have s9 := hU.size
  try simp only [World.size_alloc] at s9
  replace hpx := hpx.keep hU (fun i hi h => by obtain ⟨h1, h2, h3⟩ := h; omega)
  replace hpy := hpy.keep hU (fun i hi h => by obtain ⟨h1, h2, h3⟩ := h; omega)
  replace hpz := hpz.keep hU (fun i hi h => by obtain ⟨h1, h2, h3⟩ := h; omega)
  replace hpt := hpt.keep hU (fun i hi h => by obtain ⟨h1, h2, h3⟩ := h; omega)
  replace hBy := hBy.keep hU (fun i hi h => by obtain ⟨h1, h2, h3⟩ := h; omega)
  replace hy := hy.keep hU (fun i hi h => by obtain ⟨h1, h2, h3⟩ := h; omega)
  replace hy2 := hy2.keep hU (fun i hi h => by obtain ⟨h1, h2, h3⟩ := h; omega)
  replace hu := hu.keep hU (fun i hi h => by obtain ⟨h1, h2, h3⟩ := h; omega)
  replace ho1 := ho1.keep hU (fun i hi h => by obtain ⟨h1, h2, h3⟩ := h; omega)
  replace hvv := hvv.keep hU (fun i hi h => by obtain ⟨h1, h2, h3⟩ := h; omega)
  replace hdd := hdd.keep hU (fun i hi h => by obtain ⟨h1, h2, h3⟩ := h; omega)
  replace ho2 := ho2.keep hU (fun i hi h => by obtain ⟨h1, h2, h3⟩ := h; omega)
  replace hG := hG.keep hU (fun b o hb h => by obtain ⟨h1, h2, h3⟩ := h; omega)
  replace hA := hA.trans hU (fun b o hb h => by obtain ⟨h1, h2, h3⟩ := h; exfalso; omega)
  clear hU
  clear hr
  obtain ⟨x6, ex⟩ : ∃ x : F, x = absF (if srC x3 x5 = -x3 ∨ srC x3 x5 = -x3 * I then srR x3 x5 * I else srR x3 x5) := ⟨_, rfl⟩
  rw [← ex] at hE
  have X6 := Lib.hid ex
  clear ex
  have hr := hE
  clear hE
  have eu : x3 = uOf (yOf bs) := by rw [X3.out, X2.out, X1.out]; rfl
  have ev : x5 = vOf (yOf bs) := by rw [X5.out, X4.out, X2.out, X1.out]; rfl
  have er : x6 = xOf (yOf bs) := by rw [X6.out, eu, ev]; rfl
  have hs2 := Hs1.out
  rw [eu, ev] at hs2
  have Er := Lib.hid er
  clear er eu ev
  have hs0 : s = 0 := hs01.resolve_right (fun h => hno (hs2.1 h))
  clear hs01 hs2
  subst hs0
  go_wp2_with fail
  refine (errNew_c _ _).mono ?_
  rintro e w10 ⟨t, v, rfl, hU⟩
  replace hA := hA.trans hU (fun _ _ _ h => h.elim)
  simp only []
  repeat go_step
  go_ret2
  exact ⟨t, v, rfl, hA⟩

end Go.Proofs.YtkibnongmkhbaaaGreatDoor
end

section
open Go Go.RowKit
namespace Go.Proofs.YtkibnongmkhbaaaGreatDoor
open Ed

set_option maxRecDepth 100000 in
set_option maxHeartbeats 4000000 in
theorem ptSet_nof (B vb vo b o cap : Nat) (X0 Y0 Z0 T0 : F) (bs : Nat → Int) (hb : ∀ i, Byte (bs i)) (w : World) (hG : Glob B w) (hB : B ≤ vb) (hP : Pt w vb vo X0 Y0 Z0 T0) (hBy : By w b o 32 bs) (_hne : vb ≠ b) (hc : 32 ≤ cap) (hno : ¬ okOf (yOf bs)) :
    Calls Tryz.prog 24 #[.pointer (some ⟨vb, vo, none⟩), .slice (some ⟨b, o, none⟩) 32 cap] w fun e w' => ∃ (t : TypeId) (v : Value), e = .returned (.tuple #[.pointer none, .iface t v]) ∧ Upd w w' (fun _ _ => False) := by
  obtain ⟨hpx, hpy, hpz, hpt⟩ := hP
  have l1 := hpx.lt
  have l2 := World.block_lt_of_cell? w _ (hBy 0 (by decide))
  have hlB : B ≤ w.heap.size := by omega
  have hcap : (32 : Int) ≤ (cap : Int) := by omega
  have hA := Upd.refl w (fun _ _ => False)
  go_enter Tryz.func24, Tryz.ntmps24
  have A0 := (Upd.refl w (fun _ _ => False)).alloc (.cells #[.int .u64 0, .int .u64 0, .int .u64 0, .int .u64 0, .int .u64 0] 40)
  replace hpx := hpx.keep A0 (fun _ _ h => h)
  replace hpy := hpy.keep A0 (fun _ _ h => h)
  replace hpz := hpz.keep A0 (fun _ _ h => h)
  replace hpt := hpt.keep A0 (fun _ _ h => h)
  replace hBy := hBy.keep A0 (fun _ _ h => h)
  replace hG := hG.keep A0 (fun _ _ _ h => h)
  replace hA := hA.alloc (.cells #[.int .u64 0, .int .u64 0, .int .u64 0, .int .u64 0, .int .u64 0] 40)
  clear A0
  have hy : El (w.alloc (.cells #[.int .u64 0, .int .u64 0, .int .u64 0, .int .u64 0, .int .u64 0] 40)) (w.heap.size) 0 0 := by have h := El.zero w; (try simp only [World.size_alloc] at h); exact h
  go_wp2_with fail
  refine (setBytes_c (w.heap.size) 0 b o cap 0 bs hb _ hy hBy (by omega) (by omega)).mono ?_
  rintro e w1 ⟨rfl, hU, hE⟩
  replace hE : El _ _ _ (yOf bs) := hE
  have s1 := hU.size
  try simp only [World.size_alloc] at s1
  replace hpx := hpx.keep hU (fun i hi h => by obtain ⟨h1, h2, h3⟩ := h; omega)
  replace hpy := hpy.keep hU (fun i hi h => by obtain ⟨h1, h2, h3⟩ := h; omega)
  replace hpz := hpz.keep hU (fun i hi h => by obtain ⟨h1, h2, h3⟩ := h; omega)
  replace hpt := hpt.keep hU (fun i hi h => by obtain ⟨h1, h2, h3⟩ := h; omega)
  replace hBy := hBy.keep hU (fun i hi h => by obtain ⟨h1, h2, h3⟩ := h; omega)
  replace hG := hG.keep hU (fun b o hb h => by obtain ⟨h1, h2, h3⟩ := h; omega)
  replace hA := hA.trans hU (fun b o hb h => by obtain ⟨h1, h2, h3⟩ := h; exfalso; omega)
  clear hU
  clear hy
  obtain ⟨x1, ex⟩ : ∃ x : F, x = yOf bs := ⟨_, rfl⟩
  rw [← ex] at hE
  have X1 := Lib.hid ex
  clear ex
  have hy := hE
  clear hE
  have A0 := (Upd.refl w1 (fun _ _ => False)).alloc (.cells #[.int .u64 0, .int .u64 0, .int .u64 0, .int .u64 0, .int .u64 0] 40)
  replace hpx := hpx.keep A0 (fun _ _ h => h)
  replace hpy := hpy.keep A0 (fun _ _ h => h)
  replace hpz := hpz.keep A0 (fun _ _ h => h)
  replace hpt := hpt.keep A0 (fun _ _ h => h)
  replace hBy := hBy.keep A0 (fun _ _ h => h)
  replace hy := hy.keep A0 (fun _ _ h => h)
  replace hG := hG.keep A0 (fun _ _ _ h => h)
  replace hA := hA.alloc (.cells #[.int .u64 0, .int .u64 0, .int .u64 0, .int .u64 0, .int .u64 0] 40)
  clear A0
  have hy2 : El (w1.alloc (.cells #[.int .u64 0, .int .u64 0, .int .u64 0, .int .u64 0, .int .u64 0] 40)) (w1.heap.size) 0 0 := by have h := El.zero w1; (try simp only [World.size_alloc] at h); exact h
  go_wp2_with fail
  refine (sq_el (w1.heap.size) 0 (w.heap.size) 0 0 x1 _ hy2 hy.r).mono ?_
  rintro e w2 ⟨rfl, hU, hE⟩
  have s2 := hU.size
  try simp only [World.size_alloc] at s2
  replace hpx := hpx.keep hU (fun i hi h => by obtain ⟨h1, h2, h3⟩ := h; omega)
  replace hpy := hpy.keep hU (fun i hi h => by obtain ⟨h1, h2, h3⟩ := h; omega)
  replace hpz := hpz.keep hU (fun i hi h => by obtain ⟨h1, h2, h3⟩ := h; omega)
  replace hpt := hpt.keep hU (fun i hi h => by obtain ⟨h1, h2, h3⟩ := h; omega)
  replace hBy := hBy.keep hU (fun i hi h => by obtain ⟨h1, h2, h3⟩ := h; omega)
  replace hy := hy.keep hU (fun i hi h => by obtain ⟨h1, h2, h3⟩ := h; omega)
  replace hG := hG.keep hU (fun b o hb h => by obtain ⟨h1, h2, h3⟩ := h; omega)
  replace hA := hA.trans hU (fun b o hb h => by obtain ⟨h1, h2, h3⟩ := h; exfalso; omega)
  clear hU
  clear hy2
  obtain ⟨x2, ex⟩ : ∃ x : F, x = x1 * x1 := ⟨_, rfl⟩
  rw [← ex] at hE
  have X2 := Lib.hid ex
  clear ex
  have hy2 := hE
  clear hE
  have A0 := (Upd.refl w2 (fun _ _ => False)).alloc (.cells #[.int .u64 0, .int .u64 0, .int .u64 0, .int .u64 0, .int .u64 0] 40)
  replace hpx := hpx.keep A0 (fun _ _ h => h)
  replace hpy := hpy.keep A0 (fun _ _ h => h)
  replace hpz := hpz.keep A0 (fun _ _ h => h)
  replace hpt := hpt.keep A0 (fun _ _ h => h)
  replace hBy := hBy.keep A0 (fun _ _ h => h)
  replace hy := hy.keep A0 (fun _ _ h => h)
  replace hy2 := hy2.keep A0 (fun _ _ h => h)
  replace hG := hG.keep A0 (fun _ _ _ h => h)
  replace hA := hA.alloc (.cells #[.int .u64 0, .int .u64 0, .int .u64 0, .int .u64 0, .int .u64 0] 40)
  clear A0
  have hu : El (w2.alloc (.cells #[.int .u64 0, .int .u64 0, .int .u64 0, .int .u64 0, .int .u64 0] 40)) (w2.heap.size) 0 0 := by have h := El.zero w2; (try simp only [World.size_alloc] at h); exact h
  go_wp2_with fail
  refine (feOne_c B _ hG).mono ?_
  rintro e w3 ⟨rfl, hU, hE⟩
  have s3 := hU.size
  try simp only [World.size_alloc] at s3
  replace hpx := hpx.keep hU (fun _ _ h => h)
  replace hpy := hpy.keep hU (fun _ _ h => h)
  replace hpz := hpz.keep hU (fun _ _ h => h)
  replace hpt := hpt.keep hU (fun _ _ h => h)
  replace hBy := hBy.keep hU (fun _ _ h => h)
  replace hy := hy.keep hU (fun _ _ h => h)
  replace hy2 := hy2.keep hU (fun _ _ h => h)
  replace hu := hu.keep hU (fun _ _ h => h)
  replace hG := hG.keep hU (fun _ _ _ h => h)
  replace hA := hA.trans hU (fun _ _ _ h => h.elim)
  clear hU
  try simp only [World.size_alloc] at hE
  have ho1 := hE
  clear hE
  have Lo1 := ho1.lt
  go_wp2_with fail
  refine (sub_c (w2.heap.size) 0 (w1.heap.size) 0 (w2.heap.size + 1) 0 0 x2 1 _ hu hy2.r ho1.r (by unfold Ap; omega) (by unfold Ap; omega)).mono ?_
  rintro e w4 ⟨rfl, hU, hE⟩
  have s4 := hU.size
  try simp only [World.size_alloc] at s4
  replace hpx := hpx.keep hU (fun i hi h => by obtain ⟨h1, h2, h3⟩ := h; omega)
  replace hpy := hpy.keep hU (fun i hi h => by obtain ⟨h1, h2, h3⟩ := h; omega)
  replace hpz := hpz.keep hU (fun i hi h => by obtain ⟨h1, h2, h3⟩ := h; omega)
  replace hpt := hpt.keep hU (fun i hi h => by obtain ⟨h1, h2, h3⟩ := h; omega)
  replace hBy := hBy.keep hU (fun i hi h => by obtain ⟨h1, h2, h3⟩ := h; omega)
  replace hy := hy.keep hU (fun i hi h => by obtain ⟨h1, h2, h3⟩ := h; omega)
  replace hy2 := hy2.keep hU (fun i hi h => by obtain ⟨h1, h2, h3⟩ := h; omega)
  replace ho1 := ho1.keep hU (fun i hi h => by obtain ⟨h1, h2, h3⟩ := h; omega)
  replace hG := hG.keep hU (fun b o hb h => by obtain ⟨h1, h2, h3⟩ := h; omega)
  replace hA := hA.trans hU (fun b o hb h => by obtain ⟨h1, h2, h3⟩ := h; exfalso; omega)
  clear hU
  clear hu
  obtain ⟨x3, ex⟩ : ∃ x : F, x = x2 - 1 := ⟨_, rfl⟩
  rw [← ex] at hE
  have X3 := Lib.hid ex
  clear ex
  have hu := hE
  clear hE
  have A0 := (Upd.refl w4 (fun _ _ => False)).alloc (.cells #[.int .u64 0, .int .u64 0, .int .u64 0, .int .u64 0, .int .u64 0] 40)
  replace hpx := hpx.keep A0 (fun _ _ h => h)
  replace hpy := hpy.keep A0 (fun _ _ h => h)
  replace hpz := hpz.keep A0 (fun _ _ h => h)
  replace hpt := hpt.keep A0 (fun _ _ h => h)
  replace hBy := hBy.keep A0 (fun _ _ h => h)
  replace hy := hy.keep A0 (fun _ _ h => h)
  replace hy2 := hy2.keep A0 (fun _ _ h => h)
  replace hu := hu.keep A0 (fun _ _ h => h)
  replace ho1 := ho1.keep A0 (fun _ _ h => h)
  replace hG := hG.keep A0 (fun _ _ _ h => h)
  replace hA := hA.alloc (.cells #[.int .u64 0, .int .u64 0, .int .u64 0, .int .u64 0, .int .u64 0] 40)
  clear A0
  have hvv : El (w4.alloc (.cells #[.int .u64 0, .int .u64 0, .int .u64 0, .int .u64 0, .int .u64 0] 40)) (w4.heap.size) 0 0 := by have h := El.zero w4; (try simp only [World.size_alloc] at h); exact h
  go_wp2_with fail
  refine (dOf_c _).mono ?_
  rintro e w5 ⟨rfl, hU, hE⟩
  have s5 := hU.size
  try simp only [World.size_alloc] at s5
  replace hpx := hpx.keep hU (fun _ _ h => h)
  replace hpy := hpy.keep hU (fun _ _ h => h)
  replace hpz := hpz.keep hU (fun _ _ h => h)
  replace hpt := hpt.keep hU (fun _ _ h => h)
  replace hBy := hBy.keep hU (fun _ _ h => h)
  replace hy := hy.keep hU (fun _ _ h => h)
  replace hy2 := hy2.keep hU (fun _ _ h => h)
  replace hu := hu.keep hU (fun _ _ h => h)
  replace ho1 := ho1.keep hU (fun _ _ h => h)
  replace hvv := hvv.keep hU (fun _ _ h => h)
  replace hG := hG.keep hU (fun _ _ _ h => h)
  replace hA := hA.trans hU (fun _ _ _ h => h.elim)
  clear hU
  try simp only [World.size_alloc] at hE
  have hdd := hE
  clear hE
  have Ldd := hdd.lt
  go_wp2_with fail
  refine (mul_el (w4.heap.size) 0 (w1.heap.size) 0 (w4.heap.size + 1) 0 0 x2 D _ hvv hy2.r hdd.r).mono ?_
  rintro e w6 ⟨rfl, hU, hE⟩
  have s6 := hU.size
  try simp only [World.size_alloc] at s6
  replace hpx := hpx.keep hU (fun i hi h => by obtain ⟨h1, h2, h3⟩ := h; omega)
  replace hpy := hpy.keep hU (fun i hi h => by obtain ⟨h1, h2, h3⟩ := h; omega)
  replace hpz := hpz.keep hU (fun i hi h => by obtain ⟨h1, h2, h3⟩ := h; omega)
  replace hpt := hpt.keep hU (fun i hi h => by obtain ⟨h1, h2, h3⟩ := h; omega)
  replace hBy := hBy.keep hU (fun i hi h => by obtain ⟨h1, h2, h3⟩ := h; omega)
  replace hy := hy.keep hU (fun i hi h => by obtain ⟨h1, h2, h3⟩ := h; omega)
  replace hy2 := hy2.keep hU (fun i hi h => by obtain ⟨h1, h2, h3⟩ := h; omega)
  replace hu := hu.keep hU (fun i hi h => by obtain ⟨h1, h2, h3⟩ := h; omega)
  replace ho1 := ho1.keep hU (fun i hi h => by obtain ⟨h1, h2, h3⟩ := h; omega)
  replace hdd := hdd.keep hU (fun i hi h => by obtain ⟨h1, h2, h3⟩ := h; omega)
  replace hG := hG.keep hU (fun b o hb h => by obtain ⟨h1, h2, h3⟩ := h; omega)
  replace hA := hA.trans hU (fun b o hb h => by obtain ⟨h1, h2, h3⟩ := h; exfalso; omega)
  clear hU
  clear hvv
  obtain ⟨x4, ex⟩ : ∃ x : F, x = x2 * D := ⟨_, rfl⟩
  rw [← ex] at hE
  have X4 := Lib.hid ex
  clear ex
  have hvv := hE
  clear hE
  go_wp2_with fail
  refine (feOne_c B _ hG).mono ?_
  rintro e w7 ⟨rfl, hU, hE⟩
  have s7 := hU.size
  try simp only [World.size_alloc] at s7
  replace hpx := hpx.keep hU (fun _ _ h => h)
  replace hpy := hpy.keep hU (fun _ _ h => h)
  replace hpz := hpz.keep hU (fun _ _ h => h)
  replace hpt := hpt.keep hU (fun _ _ h => h)
  replace hBy := hBy.keep hU (fun _ _ h => h)
  replace hy := hy.keep hU (fun _ _ h => h)
  replace hy2 := hy2.keep hU (fun _ _ h => h)
  replace hu := hu.keep hU (fun _ _ h => h)
  replace ho1 := ho1.keep hU (fun _ _ h => h)
  replace hvv := hvv.keep hU (fun _ _ h => h)
  replace hdd := hdd.keep hU (fun _ _ h => h)
  replace hG := hG.keep hU (fun _ _ _ h => h)
  replace hA := hA.trans hU (fun _ _ _ h => h.elim)
  clear hU
  try simp only [World.size_alloc] at hE
  have ho2 := hE
  clear hE
  have Lo2 := ho2.lt
  go_wp2_with fail
  refine (add_c (w4.heap.size) 0 (w4.heap.size) 0 (w6.heap.size) 0 x4 x4 1 _ hvv hvv.r ho2.r (by unfold Ap; omega) (by unfold Ap; omega)).mono ?_
  rintro e w8 ⟨rfl, hU, hE⟩
  have s8 := hU.size
  try simp only [World.size_alloc] at s8
  replace hpx := hpx.keep hU (fun i hi h => by obtain ⟨h1, h2, h3⟩ := h; omega)
  replace hpy := hpy.keep hU (fun i hi h => by obtain ⟨h1, h2, h3⟩ := h; omega)
  replace hpz := hpz.keep hU (fun i hi h => by obtain ⟨h1, h2, h3⟩ := h; omega)
  replace hpt := hpt.keep hU (fun i hi h => by obtain ⟨h1, h2, h3⟩ := h; omega)
  replace hBy := hBy.keep hU (fun i hi h => by obtain ⟨h1, h2, h3⟩ := h; omega)
  replace hy := hy.keep hU (fun i hi h => by obtain ⟨h1, h2, h3⟩ := h; omega)
  replace hy2 := hy2.keep hU (fun i hi h => by obtain ⟨h1, h2, h3⟩ := h; omega)
  replace hu := hu.keep hU (fun i hi h => by obtain ⟨h1, h2, h3⟩ := h; omega)
  replace ho1 := ho1.keep hU (fun i hi h => by obtain ⟨h1, h2, h3⟩ := h; omega)
  replace hdd := hdd.keep hU (fun i hi h => by obtain ⟨h1, h2, h3⟩ := h; omega)
  replace ho2 := ho2.keep hU (fun i hi h => by obtain ⟨h1, h2, h3⟩ := h; omega)
  replace hG := hG.keep hU (fun b o hb h => by obtain ⟨h1, h2, h3⟩ := h; omega)
  replace hA := hA.trans hU (fun b o hb h => by obtain ⟨h1, h2, h3⟩ := h; exfalso; omega)
  clear hU
  clear hvv
  obtain ⟨x5, ex⟩ : ∃ x : F, x = x4 + 1 := ⟨_, rfl⟩
  rw [← ex] at hE
  have X5 := Lib.hid ex
  clear ex
  have hvv := hE
  clear hE
  have A0 := (Upd.refl w8 (fun _ _ => False)).alloc (.cells #[.int .u64 0, .int .u64 0, .int .u64 0, .int .u64 0, .int .u64 0] 40)
  replace hpx := hpx.keep A0 (fun _ _ h => h)
  replace hpy := hpy.keep A0 (fun _ _ h => h)
  replace hpz := hpz.keep A0 (fun _ _ h => h)
  replace hpt := hpt.keep A0 (fun _ _ h => h)
  replace hBy := hBy.keep A0 (fun _ _ h => h)
  replace hy := hy.keep A0 (fun _ _ h => h)
  replace hy2 := hy2.keep A0 (fun _ _ h => h)
  replace hu := hu.keep A0 (fun _ _ h => h)
  replace ho1 := ho1.keep A0 (fun _ _ h => h)
  replace hvv := hvv.keep A0 (fun _ _ h => h)
  replace hdd := hdd.keep A0 (fun _ _ h => h)
  replace ho2 := ho2.keep A0 (fun _ _ h => h)
  replace hG := hG.keep A0 (fun _ _ _ h => h)
  replace hA := hA.alloc (.cells #[.int .u64 0, .int .u64 0, .int .u64 0, .int .u64 0, .int .u64 0] 40)
  clear A0
  have hr : El (w8.alloc (.cells #[.int .u64 0, .int .u64 0, .int .u64 0, .int .u64 0, .int .u64 0] 40)) (w8.heap.size) 0 0 := by have h := El.zero w8; (try simp only [World.size_alloc] at h); exact h
  go_wp2_with fail
  refine (sqrt_c B (w8.heap.size) 0 (w2.heap.size) 0 (w4.heap.size) 0 0 x3 x5 _ hG (by omega) hr hu.r hvv.r (by omega) (by omega)).mono ?_
  rintro e w9 ⟨s, rfl, hU, hs01, hs1, hE⟩
  have Hs1 := Lib.hid hs1
  clear hs1
  have s9 := hU.size
  try simp only [World.size_alloc] at s9
  replace hpx := hpx.keep hU (fun i hi h => by obtain ⟨h1, h2, h3⟩ := h; omega)
  replace hpy := hpy.keep hU (fun i hi h => by obtain ⟨h1, h2, h3⟩ := h; omega)
  replace hpz := hpz.keep hU (fun i hi h => by obtain ⟨h1, h2, h3⟩ := h; omega)
  replace hpt := hpt.keep hU (fun i hi h => by obtain ⟨h1, h2, h3⟩ := h; omega)
  replace hBy := hBy.keep hU (fun i hi h => by obtain ⟨h1, h2, h3⟩ := h; omega)
  replace hy := hy.keep hU (fun i hi h => by obtain ⟨h1, h2, h3⟩ := h; omega)
  replace hy2 := hy2.keep hU (fun i hi h => by obtain ⟨h1, h2, h3⟩ := h; omega)
  replace hu := hu.keep hU (fun i hi h => by obtain ⟨h1, h2, h3⟩ := h; omega)
  replace ho1 := ho1.keep hU (fun i hi h => by obtain ⟨h1, h2, h3⟩ := h; omega)
  replace hvv := hvv.keep hU (fun i hi h => by obtain ⟨h1, h2, h3⟩ := h; omega)
  replace hdd := hdd.keep hU (fun i hi h => by obtain ⟨h1, h2, h3⟩ := h; omega)
  replace ho2 := ho2.keep hU (fun i hi h => by obtain ⟨h1, h2, h3⟩ := h; omega)
  replace hG := hG.keep hU (fun b o hb h => by obtain ⟨h1, h2, h3⟩ := h; omega)
  replace hA := hA.trans hU (fun b o hb h => by obtain ⟨h1, h2, h3⟩ := h; exfalso; omega)
  clear hU
  clear hr
  obtain ⟨x6, ex⟩ : ∃ x : F, x = absF (if srC x3 x5 = -x3 ∨ srC x3 x5 = -x3 * I then srR x3 x5 * I else srR x3 x5) := ⟨_, rfl⟩
  rw [← ex] at hE
  have X6 := Lib.hid ex
  clear ex
  have hr := hE
  clear hE
  have eu : x3 = uOf (yOf bs) := by rw [X3.out, X2.out, X1.out]; rfl
  have ev : x5 = vOf (yOf bs) := by rw [X5.out, X4.out, X2.out, X1.out]; rfl
  have er : x6 = xOf (yOf bs) := by rw [X6.out, eu, ev]; rfl
  have hs2 := Hs1.out
  rw [eu, ev] at hs2
  have Er := Lib.hid er
  clear er eu ev
  have hs0 : s = 0 := hs01.resolve_right (fun h => hno (hs2.1 h))
  clear hs01 hs2
  subst hs0
  go_wp2_with fail
  refine (errNew_c _ _).mono ?_
  rintro e w10 ⟨t, v, rfl, hU⟩
  replace hA := hA.trans hU (fun _ _ _ h => h.elim)
  simp only []
  repeat go_step
  go_ret2
  exact ⟨t, v, rfl, hA⟩

end Go.Proofs.YtkibnongmkhbaaaGreatDoor
end
