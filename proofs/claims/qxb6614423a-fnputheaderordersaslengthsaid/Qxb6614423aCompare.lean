import Derived.Test.Qxb6614423aWalks
import Derived.WalkSmall
namespace Go.Proofs.Qxb6614423a
open Go.RowKit

/-- The order of two lists of bytes: -1, 0 or 1. -/
def cmpL : List Int → List Int → Int
  | a :: xs, b :: ys => if a < b then -1 else if b < a then 1 else cmpL xs ys
  | _, _ => 0

theorem cmp_drop (xs ys : List Int) (k : Nat) (ha : k < xs.length) (hb : k < ys.length) :
    cmpL (xs.drop k) (ys.drop k) = if xs.getD k 0 < ys.getD k 0 then -1 else if ys.getD k 0 < xs.getD k 0 then 1 else cmpL (xs.drop (k + 1)) (ys.drop (k + 1)) := by
  rw [List.drop_eq_getElem_cons ha, List.drop_eq_getElem_cons hb]
  simp [cmpL, List.getD_eq_getElem?_getD, ha, hb]

set_option maxHeartbeats 1000000 in
theorem compare_any (g1 g2 c1 c2 : Nat) (xs ys : List Int) (w : World) (ha : xs.length = 4) (hb : ys.length = 4)
    (h1 : ∀ j, j < 4 → w.cell? ⟨g1, 1 + j, none⟩ = some (.int .u8 (xs.getD j 0))) (h2 : ∀ j, j < 4 → w.cell? ⟨g2, 1 + j, none⟩ = some (.int .u8 (ys.getD j 0))) :
    Calls Try.prog 10 #[.slice (some ⟨g1, 1, none⟩) 4 c1, .slice (some ⟨g2, 1, none⟩) 4 c2] w fun e w' => e = .returned (.int .i64 (cmpL xs ys)) ∧ ∃ q, w' = w.drewN q := by
  have HA := hide ha; have HB := hide hb; have H1 := hide h1; have H2 := hide h2
  clear ha hb h1 h2
  obtain ⟨r, hr⟩ : ∃ r, r = cmpL xs ys := ⟨_, rfl⟩
  rw [← hr]
  have HR := hide hr
  clear hr
  go_enter Try.func10, Try.ntmps10
  go_wp2
  go_loopw [6] (fun i wr => ∃ k : Nat, k ≤ 4 ∧ i = .int .i64 k ∧ Hid (cmpL (xs.drop k) (ys.drop k) = r) ∧ ∃ q, wr = w.drewN q) (fun i _ => 4 - (intOf i).toNat)
  case atStart => exact ⟨0, Nat.zero_le _, rfl, HR.out.symm, 0, rfl⟩
  case round =>
    obtain ⟨k, hk, rfl, HC, q, rfl⟩ := hrel
    by_cases hlt : k < 4
    · have d1 := H1.out k hlt
      have d2 := H2.out k hlt
      have HD := hide (cmp_drop xs ys k (by rw [HA.out]; exact hlt) (by rw [HB.out]; exact hlt))
      obtain ⟨x, hx⟩ : ∃ x, x = xs.getD k 0 := ⟨_, rfl⟩
      obtain ⟨y, hy⟩ : ∃ y, y = ys.getD k 0 := ⟨_, rfl⟩
      rw [← hx, ← hy] at HD
      rw [← hx] at d1
      rw [← hy] at d2
      clear hx hy
      by_cases hxy : x < y
      · have hv : r = -1 := by rw [← HC.out, HD.out, if_pos hxy]
        subst hv
        clear HR HC HD
        go_wp2_with fail
        go_quiet (fail)
        go_wp2
        go_ret
        exact ⟨rfl, _, World.drewN_drewN _ _ _⟩
      · by_cases hyx : y < x
        · have hv : r = 1 := by rw [← HC.out, HD.out, if_neg hxy, if_pos hyx]
          subst hv
          clear HR HC HD
          go_wp2_with fail
          go_quiet (fail)
          go_wp2_with fail
          go_quiet (fail)
          go_wp2
          go_ret
          exact ⟨rfl, _, (congrArg (fun u => World.drewN u _) (World.drewN_drewN _ _ _)).trans (World.drewN_drewN _ _ _)⟩
        · have HN : Hid (cmpL (xs.drop (k + 1)) (ys.drop (k + 1)) = r) := by
            have h := HD.out
            rw [if_neg hxy, if_neg hyx, HC.out] at h
            exact h.symm
          clear HC HD
          go_wp2_with fail
          go_quiet (fail)
          go_wp2_with fail
          go_quiet (fail)
          go_wp2
          go_roundw
          case rel => exact ⟨k + 1, by omega, by go_num, HN, _, rfl⟩
          case measure => simp [intOf]; omega
    · have hv : r = 0 := by
        have h := HC.out
        rw [List.drop_eq_nil_of_le (by rw [HA.out]; omega)] at h
        rw [← h]; rfl
      subst hv
      clear HC HR
      go_wp2
      go_ret
      exact ⟨rfl, _, rfl⟩

/-- The last four bytes of a header compare as the numbers do. -/
theorem cmp_hdr (m n : Int) : cmpL [m % 4294967296 / 16777216, m % 4294967296 / 65536 % 256, m % 4294967296 / 256 % 256, m % 256] [n % 4294967296 / 16777216, n % 4294967296 / 65536 % 256, n % 4294967296 / 256 % 256, n % 256]
    = if m % 4294967296 < n % 4294967296 then -1 else if n % 4294967296 < m % 4294967296 then 1 else 0 := by
  simp only [cmpL]
  repeat' split
  all_goals omega

theorem compare_hdr (g1 g2 c1 c2 : Nat) (t m t' n : Int) (zs : List Int) (w : World) (r1 : Row w g1 (hdr t m ++ zs)) (r2 : Row w g2 (hdr t' n ++ zs)) :
    Calls Try.prog 10 #[.slice (some ⟨g1, 1, none⟩) 4 c1, .slice (some ⟨g2, 1, none⟩) 4 c2] w fun e w' => e = .returned (.int .i64 (if m % 4294967296 < n % 4294967296 then -1 else if n % 4294967296 < m % 4294967296 then 1 else 0)) ∧ ∃ q, w' = w.drewN q := by
  rw [← cmp_hdr m n]
  have l1 : 5 ≤ (hdr t m ++ zs).length := by simp [hdr]
  have l2 : 5 ≤ (hdr t' n ++ zs).length := by simp [hdr]
  refine compare_any g1 g2 c1 c2 _ _ w rfl rfl (fun j hj => ?_) (fun j hj => ?_)
  · match j, hj with
    | 0, _ => exact r1.cell (j := 1) (by omega)
    | 1, _ => exact r1.cell (j := 2) (by omega)
    | 2, _ => exact r1.cell (j := 3) (by omega)
    | 3, _ => exact r1.cell (j := 4) (by omega)
  · match j, hj with
    | 0, _ => exact r2.cell (j := 1) (by omega)
    | 1, _ => exact r2.cell (j := 2) (by omega)
    | 2, _ => exact r2.cell (j := 3) (by omega)
    | 3, _ => exact r2.cell (j := 4) (by omega)
end Go.Proofs.Qxb6614423a
