import Derived.Test.Qxb6614423aRows
import Derived.WalkKit
import Derived.WalkSpells
import Derived.ProofKit
import Derived.Below
import Derived.Deep.OwnRows
import Derived.Deep.QuietTactic
import Derived.BigQuiet
import Derived.RegionTactic
import Derived.Deep.RegionWith
import Derived.Laws.IdiomCopy
import Derived.Laws.BitsLemmas
namespace Go.Proofs.Qxb6614423a
open Go.RowKit

/-- A fact kept from the walk's simp. -/
theorem hide {p : Prop} (h : p) : Hid p := h

/-- Block g holds the bytes zs, none of them frozen. -/
def Row (w : World) (g : Nat) (zs : List Int) : Prop :=
  g < w.heap.size ∧ ∀ j, j < zs.length → w.cell? ⟨g, j, none⟩ = some (.int .u8 (zs.getD j 0)) ∧ w.frozen? ⟨g, j, none⟩ = false

/-- The first k of n bytes have been copied, the rest are zero. -/
def Mid (w : World) (g n : Nat) (zs : List Int) (k : Nat) : Prop :=
  g < w.heap.size ∧ ∀ j, j < n → w.cell? ⟨g, j, none⟩ = some (.int .u8 (if j < k then zs.getD j 0 else 0)) ∧ w.frozen? ⟨g, j, none⟩ = false

theorem made_at (n j : Nat) (h : j < n) : (madeCells #[Value.int .u8 0] n)[j]? = some (.int .u8 0) := by
  simp [madeCells, h, Nat.mod_one]

theorem mid_start (w : World) (n : Nat) (zs : List Int) : Mid (w.alloc (.cells (madeCells #[.int .u8 0] n) 5)) w.heap.size n zs 0 := by
  refine ⟨by simp, fun j hj => ⟨?_, by simp⟩⟩
  rw [World.cell?_alloc_new, made_at n j hj, if_neg (by omega)]

theorem mid_step {w : World} {g n : Nat} {zs : List Int} {k : Nat} (h : Mid w g n zs k) (hk : k < n) : Mid (w.setCell ⟨g, k, none⟩ (.int .u8 (zs.getD k 0))) g n zs (k + 1) := by
  refine ⟨by simpa using h.1, fun j hj => ⟨?_, by simpa using (h.2 j hj).2⟩⟩
  by_cases e : j = k
  · subst e
    rw [World.cell?_setCell_same w _ _ (h.2 j hj).1, if_pos (by omega)]
  · rw [World.cell?_setCell_other w _ _ _ (fun h => e (congrArg Addr.off h).symm), (h.2 j hj).1]
    by_cases hlt : j < k
    · rw [if_pos hlt, if_pos (by omega)]
    · rw [if_neg hlt, if_neg (by omega)]

theorem mid_end {w : World} {g n : Nat} {zs : List Int} (h : Mid w g n zs n) (hz : zs.length = n) : Row w g zs := by
  refine ⟨h.1, fun j hj => ⟨?_, (h.2 j (by omega)).2⟩⟩
  rw [(h.2 j (by omega)).1, if_pos (by omega)]

theorem info5 : (Try.prog.info? 5).map (fun i => (i.zero, i.size, i.bytes)) = some (some (.int .u8 0), 1, 1) := by kernel_rfl

set_option maxHeartbeats 400000 in
theorem clone_any (b off n c : Nat) (zs : List Int) (w : World) (hn : n ≤ 1048576) (hz : zs.length = n) (hb : b < w.heap.size)
    (hcell : ∀ j, j < n → w.cell? ⟨b, off + j, none⟩ = some (.int .u8 (zs.getD j 0))) :
    Calls Try.prog 6 #[.slice (some ⟨b, off, none⟩) n c] w fun e w' => e = .returned (.slice (some ⟨w.heap.size, 0, none⟩) n n) ∧ Row w' w.heap.size zs ∧ Below w.heap.size w w' := by
  have hmk := fun w => run_make_row' (P := Try.prog) 22 5 (.int .u8 0) 1 Try.underlying22 info5 rfl .i64 .i64 n (by omega) (by omega) w
  have hnil := fun w => Lib.run_eql_slice_nil (P := Try.prog) w 22 5 (some ⟨b, off, none⟩) n c 0 0 Try.underlying22
  have HZ : Hid (zs.length = n) := hz
  have HC : Hid (∀ j, j < n → w.cell? ⟨b, off + j, none⟩ = some (.int .u8 (zs.getD j 0))) := hcell
  clear hz hcell
  go_enter Try.func6, Try.ntmps6
  go_wp2
  go_loopw [4] (fun i wr => ∃ k : Nat, k ≤ n ∧ i = .int .i64 k ∧ Mid wr w.heap.size n zs k ∧ Below w.heap.size w wr) (fun i _ => n - (intOf i).toNat)
  case atStart => exact ⟨0, Nat.zero_le _, rfl, mid_start w n zs, (Below.refl _ _).alloc (Nat.le_refl _) _⟩
  case round =>
    obtain ⟨k, hk, rfl, hm, hbl⟩ := hrel
    by_cases hlt : k < n
    · have hs : wr.cell? ⟨b, off + k, none⟩ = some (.int .u8 (zs.getD k 0)) := (hbl.cell hb).trans (HC.out k hlt)
      have hd := (hm.2 k hlt).1
      have hf := (hm.2 k hlt).2
      have hd' : ∃ v, wr.cell? ⟨w.heap.size, k, none⟩ = some v := ⟨_, hd⟩
      clear hd
      obtain ⟨v, hd⟩ := hd'
      go_wp2
      go_roundw
      case rel => exact ⟨k + 1, by omega, by go_num, mid_step hm hlt, hbl.setCell (Nat.le_refl _) _⟩
      case measure => simp [intOf]; omega
    · go_wp2
      go_ret
      have : k = n := by omega
      subst this
      exact ⟨rfl, mid_end hm HZ.out, hbl⟩

/-! ### putHeader -/
set_option maxHeartbeats 1000000 in
theorem put32 (g o n c : Nat) (v : Int) (h0 : 0 ≤ v) (h1 : v < 4294967296) (x0 x1 x2 x3 : Value) (w : World) (hn : 4 ≤ n)
    (c0 : w.cell? ⟨g, o, none⟩ = some x0) (c1 : w.cell? ⟨g, o + 1, none⟩ = some x1) (c2 : w.cell? ⟨g, o + 2, none⟩ = some x2) (c3 : w.cell? ⟨g, o + 3, none⟩ = some x3)
    (f0 : w.frozen? ⟨g, o, none⟩ = false) (f1 : w.frozen? ⟨g, o + 1, none⟩ = false) (f2 : w.frozen? ⟨g, o + 2, none⟩ = false) (f3 : w.frozen? ⟨g, o + 3, none⟩ = false) :
    Calls Try.prog 12 #[.agg #[], .slice (some ⟨g, o, none⟩) n c, .int .u32 v] w fun e w' => e = .returned (.tuple #[]) ∧ w' = (w.setCells g o [.int .u8 (v / 16777216), .int .u8 (v / 65536 % 256), .int .u8 (v / 256 % 256), .int .u8 (v % 256)]).alloc (.cells #[] 32) := by
  have hg : g < w.heap.size := World.block_lt_of_cell? (a := ⟨g, o, none⟩) (w := w) c0
  go_enter Try.func12, Try.ntmps12
  go_wp2
  go_end0
  exact ⟨rfl, rfl⟩

/-- The header's five bytes. -/
def hdr (t m : Int) : List Int := [t, m % 4294967296 / 16777216, m % 4294967296 / 65536 % 256, m % 4294967296 / 256 % 256, m % 256]

/-- The world behind putHeader. -/
def putW (w : World) (g : Nat) (t m : Int) : World :=
  ((w.setCell ⟨g, 0, none⟩ (.int .u8 t)).drew.setCells g 1 [.int .u8 (m % 4294967296 / 16777216), .int .u8 (m % 4294967296 / 65536 % 256), .int .u8 (m % 4294967296 / 256 % 256), .int .u8 (m % 256)]).alloc (.cells #[] 32)

set_option maxHeartbeats 1000000 in
theorem putHeader_any (g n c : Nat) (t m : Int) (y x0 x1 x2 x3 : Value) (w : World) (hn : 5 ≤ n) (hnc : n ≤ c)
    (b0 : w.cell? ⟨g, 0, none⟩ = some y) (c0 : w.cell? ⟨g, 1, none⟩ = some x0) (c1 : w.cell? ⟨g, 2, none⟩ = some x1) (c2 : w.cell? ⟨g, 3, none⟩ = some x2) (c3 : w.cell? ⟨g, 4, none⟩ = some x3)
    (e0 : w.frozen? ⟨g, 0, none⟩ = false) (f0 : w.frozen? ⟨g, 1, none⟩ = false) (f1 : w.frozen? ⟨g, 2, none⟩ = false) (f2 : w.frozen? ⟨g, 3, none⟩ = false) (f3 : w.frozen? ⟨g, 4, none⟩ = false) :
    Calls Try.prog 11 #[.slice (some ⟨g, 0, none⟩) n c, .int .u8 t, .int .i64 m] w fun e w' => e = .returned (.tuple #[]) ∧ w' = putW w g t m := by
  have hg : g < w.heap.size := World.block_lt_of_cell? (a := ⟨g, 0, none⟩) (w := w) b0
  have hP := put32 g 1 4 (c - 1) (m % 4294967296) (by omega) (by omega) x0 x1 x2 x3 (w.setCell ⟨g, 0, none⟩ (.int .u8 t)).drew (by omega)
    (by simpa [World.cell?_setCell_other] using c0) (by simpa [World.cell?_setCell_other] using c1) (by simpa [World.cell?_setCell_other] using c2) (by simpa [World.cell?_setCell_other] using c3)
    (by simpa using f0) (by simpa using f1) (by simpa using f2) (by simpa using f3)
  have hm : m % 4294967296 % 256 = m % 256 := by omega
  rw [hm] at hP
  have HP : Hid (Calls Try.prog 12 #[.agg #[], .slice (some ⟨g, 1, none⟩) 4 (c - 1), .int .u32 (m % 4294967296)] (w.setCell ⟨g, 0, none⟩ (.int .u8 t)).drew fun e w' => e = .returned (.tuple #[]) ∧ w' = putW w g t m) := hP
  clear hP hm
  have hc1 : ¬ c = 1 := by omega
  go_enter Try.func11, Try.ntmps11
  go_wp2
  go_region_with (go_at_call 12; refine HP.out.mono ?_; rintro e w1 ⟨rfl, rfl⟩)
  all_goals
    go_wp2
    go_end0
    exact ⟨rfl, rfl⟩

theorem size_setCells' (b : Nat) : ∀ (vs : List Value) (o : Nat) (w : World), (w.setCells b o vs).heap.size = w.heap.size
  | [], _, _ => rfl
  | v :: vs, o, w => by
    show ((w.setCell ⟨b, o, none⟩ v).setCells b (o + 1) vs).heap.size = _
    rw [size_setCells' b vs (o + 1)]; simp

theorem size_putW (w : World) (g : Nat) (t m : Int) : (putW w g t m).heap.size = w.heap.size + 1 := by
  simp [putW, size_setCells']

theorem putW_far {w : World} {g g' j : Nat} (t m : Int) (hlt : g' < w.heap.size) (hne : g' = g → 5 ≤ j) : (putW w g t m).cell? ⟨g', j, none⟩ = w.cell? ⟨g', j, none⟩ := by
  unfold putW
  rw [World.cell?_alloc_lt _ _ _ (by simpa [size_setCells'] using hlt), World.cell?_setCells_out _ _ _ _ _ (by intro h _; have := hne h; simp; omega), World.cell?_drew]
  exact World.cell?_setCell_other w _ _ _ (fun h => by have h1 := congrArg Addr.block h; have h2 := congrArg Addr.off h; simp at h1 h2; have := hne h1.symm; omega)

theorem putW_frozen {w : World} {g g' j : Nat} (t m : Int) : (putW w g t m).frozen? ⟨g', j, none⟩ = w.frozen? ⟨g', j, none⟩ := by
  unfold putW
  rw [frozen?_alloc_cells, World.frozen?_setCells]
  simp

theorem row_put_other {w : World} {g g' : Nat} {zs : List Int} (t m : Int) (h : Row w g' zs) (hne : g' ≠ g) : Row (putW w g t m) g' zs := by
  have := h.1
  refine ⟨by rw [size_putW]; omega, fun j hj => ⟨?_, by rw [putW_frozen]; exact (h.2 j hj).2⟩⟩
  rw [putW_far t m h.1 (fun e => absurd e hne)]
  exact (h.2 j hj).1

theorem row_put {w : World} {g : Nat} {zs : List Int} (t m : Int) (h : Row w g zs) (hl : 5 ≤ zs.length) : Row (putW w g t m) g (hdr t m ++ zs.drop 5) := by
  have hg := h.1
  refine ⟨by rw [size_putW]; omega, fun j hj => ⟨?_, by rw [putW_frozen]; simp [hdr] at hj; exact (h.2 j (by omega)).2⟩⟩
  have hj' : j < zs.length := by simp [hdr] at hj; omega
  by_cases h5 : 5 ≤ j
  · rw [putW_far t m hg (fun _ => h5), (h.2 j hj').1]
    have h5' : (hdr t m).length = 5 := rfl
    obtain ⟨k, rfl⟩ := Nat.exists_eq_add_of_le h5
    rw [List.getD_eq_getElem?_getD, List.getD_eq_getElem?_getD, List.getElem?_append_right (by omega), h5', List.getElem?_drop, Nat.add_sub_cancel_left]
  · have hin : ∀ i, i < 4 → (((w.setCell ⟨g, 0, none⟩ (.int .u8 t)).drew.cell? ⟨g, 1 + i, none⟩).isSome = true) := by
      intro i hi
      rw [World.cell?_drew, World.cell?_setCell_other w _ _ _ (fun h => by have h2 := congrArg Addr.off h; simp at h2; omega), (h.2 (1 + i) (by omega)).1]
      rfl
    have hlt : g < ((w.setCell ⟨g, 0, none⟩ (.int .u8 t)).drew.setCells g 1 [.int .u8 (m % 4294967296 / 16777216), .int .u8 (m % 4294967296 / 65536 % 256), .int .u8 (m % 4294967296 / 256 % 256), .int .u8 (m % 256)]).heap.size := by
      simpa [size_setCells'] using hg
    have key := World.cell?_setCells_in g [.int .u8 (m % 4294967296 / 16777216), .int .u8 (m % 4294967296 / 65536 % 256), .int .u8 (m % 4294967296 / 256 % 256), .int .u8 (m % 256)] 1 (w.setCell ⟨g, 0, none⟩ (.int .u8 t)).drew hin
    unfold putW
    rw [World.cell?_alloc_lt _ _ _ hlt]
    match j, h5 with
    | 0, _ =>
      rw [World.cell?_setCells_out _ _ _ _ _ (by intro _ _; left; show 0 < 1; omega), World.cell?_drew]
      exact World.cell?_setCell_same w _ _ (h.2 0 (by omega)).1
    | 1, _ => exact key 0 (by show 0 < 4; omega)
    | 2, _ => exact key 1 (by show 1 < 4; omega)
    | 3, _ => exact key 2 (by show 2 < 4; omega)
    | 4, _ => exact key 3 (by show 3 < 4; omega)
    | (i + 5), hi => exact absurd (by omega) hi

theorem below_put {B g : Nat} {w : World} (t m : Int) (hB : B ≤ g) (hg : g < w.heap.size) : Below B w (putW w g t m) := by
  unfold putW
  refine Below.alloc ?_ (by simp [size_setCells']; omega) _
  exact ((((((Below.refl B w).setCell (by exact hB) _).drew).setCell (by exact hB) _).setCell (by exact hB) _).setCell (by exact hB) _).setCell (by exact hB) _

set_option maxHeartbeats 1000000 in
theorem put_any (g n c : Nat) (t m : Int) (zs : List Int) (w : World) (hr : Row w g zs) (hz : zs.length = n) (hn : 5 ≤ n) (hnc : n ≤ c) :
    Calls Try.prog 7 #[.slice (some ⟨g, 0, none⟩) n c, .int .u8 t, .int .i64 m] w fun e w' => e = .returned (.tuple #[]) ∧ w' = putW w g t m := by
  have hP := putHeader_any g n c t m _ _ _ _ _ w hn hnc (hr.2 0 (by omega)).1 (hr.2 1 (by omega)).1 (hr.2 2 (by omega)).1 (hr.2 3 (by omega)).1 (hr.2 4 (by omega)).1
    (hr.2 0 (by omega)).2 (hr.2 1 (by omega)).2 (hr.2 2 (by omega)).2 (hr.2 3 (by omega)).2 (hr.2 4 (by omega)).2
  clear hr hz
  go_enter Try.func7, Try.ntmps7
  go_wp2_with (go_at_call 11; refine hP.mono ?_; rintro e w1 ⟨rfl, rfl⟩)
  go_end0
  exact ⟨rfl, rfl⟩

/-! ### zzBE32 -/
theorem ret_int {k : IntKind} {a b : Int} (h : a = b) : Ending.returned (.int k a) = .returned (.int k b) := by rw [h]
theorem wrapsU32 (n : Int) (h₀ : 0 ≤ n) (h₁ : n < 2 ^ 32) : IntKind.u32.wrap n = n := by rw [IntKind.wrap_u32]; omega
theorem be_join (z0 z1 z2 z3 : Int) (h0 : 0 ≤ z0) (h0' : z0 ≤ 255) (h1 : 0 ≤ z1) (h1' : z1 ≤ 255) (h2 : 0 ≤ z2) (h2' : z2 ≤ 255) (h3 : 0 ≤ z3) (h3' : z3 ≤ 255) :
    bits .or .u32 (bits .or .u32 (bits .or .u32 (z0 * 16777216) (z1 * 65536)) (z2 * 256)) z3 = z0 * 16777216 + z1 * 65536 + z2 * 256 + z3 := by
  rw [bits_join .u32 32 (by decide) wrapsU32 24 (z0 * 16777216) (z1 * 65536) (by omega) (by omega) (by omega) (by omega) (by omega) (by omega),
    bits_join .u32 32 (by decide) wrapsU32 16 (z0 * 16777216 + z1 * 65536) (z2 * 256) (by omega) (by omega) (by omega) (by omega) (by omega) (by omega),
    bits_join .u32 32 (by decide) wrapsU32 8 (z0 * 16777216 + z1 * 65536 + z2 * 256) z3 (by omega) (by omega) (by omega) (by omega) (by omega) (by omega)]

set_option maxHeartbeats 1000000 in
theorem be32_any (g c : Nat) (z0 z1 z2 z3 : Int) (w : World) (c0 : w.cell? ⟨g, 1, none⟩ = some (.int .u8 z0)) (c1 : w.cell? ⟨g, 2, none⟩ = some (.int .u8 z1)) (c2 : w.cell? ⟨g, 3, none⟩ = some (.int .u8 z2)) (c3 : w.cell? ⟨g, 4, none⟩ = some (.int .u8 z3))
    (h0 : 0 ≤ z0 ∧ z0 ≤ 255) (h1 : 0 ≤ z1 ∧ z1 ≤ 255) (h2 : 0 ≤ z2 ∧ z2 ≤ 255) (h3 : 0 ≤ z3 ∧ z3 ≤ 255) :
    Calls Try.prog 8 #[.slice (some ⟨g, 1, none⟩) 4 c] w fun e w' => e = .returned (.int .u32 (z0 * 16777216 + z1 * 65536 + z2 * 256 + z3)) ∧ ∃ k, w' = w.drewN k := by
  obtain ⟨h0, h0'⟩ := h0; obtain ⟨h1, h1'⟩ := h1; obtain ⟨h2, h2'⟩ := h2; obtain ⟨h3, h3'⟩ := h3
  go_enter Try.func8, Try.ntmps8
  go_wp2
  go_quiet (fail)
  go_wp2
  go_ret
  refine ⟨ret_int ?_, nq, rfl⟩
  exact be_join z0 z1 z2 z3 h0 h0' h1 h1' h2 h2' h3 h3'

/-! ### The contracts as the laws use them -/
theorem Row.cell {w : World} {g : Nat} {zs : List Int} (h : Row w g zs) {j : Nat} (hj : j < zs.length) : w.cell? ⟨g, j, none⟩ = some (.int .u8 (zs.getD j 0)) := (h.2 j hj).1

theorem Row.below {B : Nat} {w w' : World} {g : Nat} {zs : List Int} (h : Row w g zs) (hb : Below B w w') (hg : g < B) : Row w' g zs :=
  ⟨Nat.lt_of_lt_of_le h.1 hb.size, fun j hj => ⟨(hb.cell (p := ⟨g, j, none⟩) hg).trans (h.2 j hj).1, (hb.frozen (p := ⟨g, j, none⟩) hg).trans (h.2 j hj).2⟩⟩

/-- What zzCloneBytes leaves: a new block with the same bytes. -/
def Cloned (w w' : World) (g : Nat) (zs : List Int) : Prop := Row w' g zs ∧ w.heap.size ≤ g ∧ Below w.heap.size w w'

/-- What putHeader leaves: the first five bytes are the header; every other row is as it was. -/
def Put (w w' : World) (g : Nat) (t m : Int) (zs : List Int) : Prop :=
  Row w' g (hdr t m ++ zs.drop 5) ∧ (∀ g' zs', g' ≠ g → Row w g' zs' → Row w' g' zs') ∧ ∀ B, B ≤ g → Below B w w'

theorem clone_row (b off n c : Nat) (zs : List Int) (w : World) (hn : n ≤ 1048576) (hz : zs.length = n) (hb : b < w.heap.size)
    (hcell : ∀ j, j < n → w.cell? ⟨b, off + j, none⟩ = some (.int .u8 (zs.getD j 0))) :
    Calls Try.prog 6 #[.slice (some ⟨b, off, none⟩) n c] w fun e w' => ∃ g, e = .returned (.slice (some ⟨g, 0, none⟩) n n) ∧ Cloned w w' g zs :=
  (clone_any b off n c zs w hn hz hb hcell).mono fun _ _ ⟨he, hr, hbl⟩ => ⟨w.heap.size, he, hr, Nat.le_refl _, hbl⟩

theorem clone_own (g n : Nat) (zs : List Int) (w : World) (hn : n ≤ 1048576) (hz : zs.length = n) (hr : Row w g zs) :
    Calls Try.prog 6 #[.slice (some ⟨g, 0, none⟩) n n] w fun e w' => ∃ g', e = .returned (.slice (some ⟨g', 0, none⟩) n n) ∧ Cloned w w' g' zs :=
  clone_row g 0 n n zs w hn hz hr.1 (fun j hj => by rw [Nat.zero_add]; exact hr.cell (by omega))

theorem put_row (g n : Nat) (t m : Int) (zs : List Int) (w : World) (hr : Row w g zs) (hz : zs.length = n) (hn : 5 ≤ n) :
    Calls Try.prog 7 #[.slice (some ⟨g, 0, none⟩) n n, .int .u8 t, .int .i64 m] w fun e w' => e = .returned (.tuple #[]) ∧ Put w w' g t m zs :=
  (put_any g n n t m zs w hr hz hn (Nat.le_refl _)).mono fun _ _ ⟨he, hw⟩ => ⟨he, by rw [hw]; exact ⟨row_put t m hr (by omega), fun g' zs' hne h => row_put_other t m h hne, fun B hB => below_put t m hB hr.1⟩⟩

theorem be32_hdr (g c : Nat) (t m : Int) (zs : List Int) (w : World) (hr : Row w g (hdr t m ++ zs)) :
    Calls Try.prog 8 #[.slice (some ⟨g, 1, none⟩) 4 c] w fun e w' => e = .returned (.int .u32 (m % 4294967296)) ∧ ∃ k, w' = w.drewN k := by
  have hl : 5 ≤ (hdr t m ++ zs).length := by simp [hdr]
  refine (be32_any g c (m % 4294967296 / 16777216) (m % 4294967296 / 65536 % 256) (m % 4294967296 / 256 % 256) (m % 256) w (hr.cell (j := 1) (by omega)) (hr.cell (j := 2) (by omega)) (hr.cell (j := 3) (by omega)) (hr.cell (j := 4) (by omega))
    (by omega) (by omega) (by omega) (by omega)).mono fun e w' ⟨he, hw⟩ => ⟨?_, hw⟩
  rw [he]
  exact ret_int (by omega)

/-! ### The laws' size tests -/
theorem bytesC_any (a : Option Addr) (n c : Nat) (t m : Int) (w : World) (hn : n ≤ 1048576) :
    Calls Try.prog 5 #[.slice a n c, .int .u8 t, .int .i64 m] w fun e w' => e = .returned (.bool true) ∧ w = w' := by
  go_enter Try.func5, Try.ntmps5
  go_wp2
  go_ret
  exact ⟨rfl, rfl⟩
theorem bytesO_any (a : Option Addr) (n c : Nat) (t m k : Int) (w : World) (hn : n ≤ 1048576) :
    Calls Try.prog 9 #[.slice a n c, .int .u8 t, .int .i64 m, .int .i64 k] w fun e w' => e = .returned (.bool true) ∧ w = w' := by
  go_enter Try.func9, Try.ntmps9
  go_wp2
  go_ret
  exact ⟨rfl, rfl⟩
end Go.Proofs.Qxb6614423a
