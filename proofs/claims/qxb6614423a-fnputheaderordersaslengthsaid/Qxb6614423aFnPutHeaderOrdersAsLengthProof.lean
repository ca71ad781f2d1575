/-
  PROOF OF 'Rows.FnPutHeaderOrdersAsLengthSaid'. The frame (STEP 2 on) is the seat's given shell; the walk is ours. The callees' contracts: Qxb6614423aWalks, Qxb6614423aCompare.
-/
import Derived.Test.Qxb6614423aRows
import Derived.WalkKit
import Derived.ProofKit
import Derived.OpenShut
import Derived.ShutString
import Derived.ChangeOld
import Derived.Below
import Derived.WalkSmall
import Derived.Test.Qxb6614423aWalks
import Derived.Test.Qxb6614423aCompare
namespace Go.Proofs.Qxb6614423a.fnPutHeaderOrdersAsLength
open Go.ChangeShapes Go.WideShapes Go.ChangeAt Go.RowKit
open Go.ChangeMaps (open_string shut_string)
set_option linter.unusedVariables false

theorem own : ownKnob Try.prog.godebug = none := by kernel_rfl
theorem laidOut : laidOutB Try.prog = true := by kernel_rfl

/-- WHAT THE WALK IS TOLD OF A SLICE OF INTEGERS THAT CAME IN: it is nil; or it leads to a row of 'cap' cells, the numbers 'zs' (the first 'len' are its elements, the rest its spare room), each fitting its kind. -/
def IsRow (k : IntKind) (w : World) (a : Option Addr) (len cap : Nat) (zs : List Int) : Prop :=
  (a = none ∧ len = 0 ∧ cap = 0 ∧ zs = []) ∨
  ∃ x, a = some x ∧ len ≤ cap ∧ cap ≤ maxLen ∧ zs.length = cap ∧ (∀ i, i < zs.length → w.cell? (x.add i) = some (.int k (zs.getD i 0))) ∧ ∀ n ∈ zs, (Lit.int k n).wf = true

/-! ### STEP 1: THE WALK: the Go text returns true, AND WRITES NOTHING THAT WAS THERE: 'Below w.heap.size w w'' (Derived/Below.lean: '.refl', '.alloc', '.drew', '.setCell' at a new block, '.trans'). Open each 'IsRow' by 'rcases' AHEAD of 'go_enter'; part every test ahead of the walk. -/
theorem row_drewN {w : World} {g : Nat} {zs : List Int} (h : Row w g zs) (n : Nat) : Row (w.drewN n) g zs := h

theorem hdr_tail (t m : Int) (zs : List Int) (k : Nat) (hk : 5 ≤ k) : (hdr t m ++ zs.drop 5).getD k 0 = zs.getD k 0 := by
  have h5' : (hdr t m).length = 5 := rfl
  obtain ⟨j, rfl⟩ := Nat.exists_eq_add_of_le hk
  rw [List.getD_eq_getElem?_getD, List.getD_eq_getElem?_getD, List.getElem?_append_right (by omega), h5', List.getElem?_drop, Nat.add_sub_cancel_left]

set_option maxHeartbeats 1000000 in
theorem walk (a0 : Option Addr) (len0 cap0 : Nat) (z0 : List Int) (a1 : Int) (a2 : Int) (a3 : Int) (w : World) (w0 : IsRow .u8 w a0 len0 cap0 z0) (w1 : (Lit.int .u8 a1).wf = true) (w2 : (Lit.int .i64 a2).wf = true) (w3 : (Lit.int .i64 a3).wf = true) :
    Calls Try.prog 4 #[.slice a0 len0 cap0, .int .u8 a1, .int .i64 a2, .int .i64 a3] w fun e w' => e = .returned (.bool true) ∧ Below w.heap.size w w' := by
  have b1 : 0 ≤ a1 ∧ a1 ≤ 255 := by simpa [Lit.wf, IntKind.min, IntKind.max, IntKind.bits, IntKind.signed] using w1
  have b2 : -9223372036854775808 ≤ a2 ∧ a2 ≤ 9223372036854775807 := by simpa [Lit.wf, IntKind.min, IntKind.max, IntKind.bits, IntKind.signed] using w2
  by_cases hbig : 1048576 < len0
  · go_enter Try.func4, Try.ntmps4
    go_wp2
    go_ret
    exact ⟨rfl, Below.refl _ _⟩
  by_cases hsm : len0 < 5
  · go_enter Try.func4, Try.ntmps4
    go_wp2
    go_ret
    exact ⟨rfl, Below.refl _ _⟩
  rcases w0 with ⟨rfl, rfl, rfl, rfl⟩ | ⟨x, rfl, hl, hm, hz, hcell, hwz⟩
  · omega
  obtain ⟨b, off, spot⟩ := x
  have hc := hcell 0 (by omega)
  have hspot : spot = none := by simpa [Addr.add] using World.cell?_spot hc
  subst hspot
  have hb : b < w.heap.size := World.block_lt_of_cell? (a := ⟨b, off, none⟩) (w := w) (by simpa [Addr.add] using hc)
  obtain ⟨zs, hzs⟩ : ∃ zs, zs = z0.take len0 := ⟨_, rfl⟩
  have hzl : zs.length = len0 := by rw [hzs, List.length_take]; omega
  have hcl : ∀ j, j < len0 → w.cell? ⟨b, off + j, none⟩ = some (.int .u8 (zs.getD j 0)) := by
    intro j hj
    have h1 := hcell j (by omega)
    rw [add_plain] at h1
    rw [h1, hzs, List.getD_eq_getElem?_getD, List.getD_eq_getElem?_getD, List.getElem?_take_of_lt hj]
  have C1 := hide (clone_row b off len0 cap0 zs w (by omega) hzl hb hcl)
  have HZ := hide hzl
  have n5 : 5 ≤ len0 := by omega
  have nb : len0 ≤ 1048576 := by omega
  clear hcl hzl hzs hcell hwz hz hc hm w1 w2 w3 hbig hsm
  go_enter Try.func4, Try.ntmps4
  go_wp2_with (go_at_call 9; refine (bytesO_any _ _ _ _ _ _ _ nb).mono ?_; rintro e w' ⟨rfl, rfl⟩)
  refine C1.out.mono ?_
  rintro e w1 ⟨g0, rfl, k1⟩
  obtain ⟨r0, hg0, bl1⟩ := k1
  have C2 := hide (clone_own g0 len0 zs w1 nb HZ.out r0)
  have R0 := hide r0; have BL1 := hide bl1
  clear C1 r0 bl1
  go_wp2_with fail
  refine C2.out.mono ?_
  rintro e w2 ⟨g1, rfl, k2⟩
  obtain ⟨r1, hg1, bl2⟩ := k2
  have hg0' : g0 < w1.heap.size := R0.out.1
  have C3 := hide (clone_own g0 len0 zs w2 nb HZ.out (R0.out.below bl2 hg0'))
  have R1 := hide r1; have BL2 := hide bl2
  clear C2 r1 bl2
  go_wp2_with fail
  refine C3.out.mono ?_
  rintro e w3 ⟨g2, rfl, k3⟩
  obtain ⟨r2, hg2, bl3⟩ := k3
  have hg1' : g1 < w2.heap.size := R1.out.1
  have s12 := BL2.out.size
  have s23 := bl3.size
  have R03 := hide ((R0.out.below BL2.out hg0').below bl3 (by omega))
  have R13 := hide (R1.out.below bl3 hg1')
  have R23 := hide r2
  have BW := hide ((BL1.out.trans (BL2.out.mono (by have := BL1.out.size; omega))).trans (bl3.mono (by have := BL1.out.size; omega)))
  have sw := BL1.out.size
  have P1 := hide (put_row g1 len0 a1 a2 zs w3 R13.out HZ.out n5)
  clear C3 R0 R1 r2 bl3 BL1 BL2
  go_wp2_with fail
  refine P1.out.mono ?_
  rintro e w4 ⟨rfl, k4⟩
  have R24 := hide (k4.2.1 g2 zs (by omega) R23.out)
  have R04 := hide (k4.2.1 g0 zs (by omega) R03.out)
  have R14 := hide k4.1
  have BW4 := hide (BW.out.trans (k4.2.2 w.heap.size (by omega)))
  have P2 := hide (put_row g2 len0 a1 a3 zs w4 R24.out HZ.out n5)
  clear P1 R03 R13 R23 BW k4
  go_wp2_with fail
  refine P2.out.mono ?_
  rintro e w5 ⟨rfl, k5⟩
  have R0 := hide (k5.2.1 g0 zs (by omega) R04.out)
  have R1 := hide (k5.2.1 g1 _ (by omega) R14.out)
  have R2 := hide k5.1
  have BW := hide (BW4.out.trans (k5.2.2 w.heap.size (by omega)))
  clear P2 R24 R04 R14 BW4 k5
  have c1 : w5.cell? ⟨g1, 0, none⟩ = some (.int .u8 a1) := R1.out.cell (j := 0) (by simp [hdr])
  have c2 : w5.cell? ⟨g2, 0, none⟩ = some (.int .u8 a1) := R2.out.cell (j := 0) (by simp [hdr])
  have hn1 : ¬ len0 = 1 := by omega
  go_wp2_with fail
  refine (be32_hdr g1 _ a1 a2 (zs.drop 5) _ R1.out).mono ?_
  rintro e w6 ⟨rfl, q1, rfl⟩
  go_wp2_with fail
  refine (be32_hdr g2 _ a1 a3 (zs.drop 5) _ (row_drewN R2.out _)).mono ?_
  rintro e w7 ⟨rfl, q2, rfl⟩
  clear c1 c2
  go_wp2_with fail
  go_loopw [11] (fun i wr => ∃ k : Nat, 5 ≤ k ∧ k ≤ len0 ∧ i = .int .i64 k ∧ ∃ q, wr = w5.drewN q) (fun i _ => len0 - (intOf i).toNat)
  case atStart => exact ⟨5, Nat.le_refl _, n5, rfl, _, rfl⟩
  case round =>
    obtain ⟨k', hk5, hk', rfl, q', rfl⟩ := hrel
    by_cases hlt' : k' < len0
    · have hzl := HZ.out
      have c0 := R0.out.cell (j := k') (by omega)
      have c1 := R1.out.cell (j := k') (by simp [hdr]; omega)
      have c2 := R2.out.cell (j := k') (by simp [hdr]; omega)
      rw [hdr_tail _ _ _ _ hk5] at c1 c2
      obtain ⟨y, hy⟩ : ∃ y, y = zs.getD k' 0 := ⟨_, rfl⟩
      rw [← hy] at c0 c1 c2
      clear hy hzl
      go_wp2_with fail
      go_quiet (fail)
      go_wp2
      go_roundw
      case rel => exact ⟨k' + 1, by omega, by omega, by go_num, _, rfl⟩
      case measure => simp [intOf]; omega
    · have RW1 := row_drewN R1.out q'
      have RW2 := row_drewN R2.out q'
      have BW' := below_drewN BW.out q'
      generalize w5.drewN q' = W at RW1 RW2 BW' ⊢
      have RA := hide RW1; have RB := hide RW2; have BB := hide BW'
      clear RW1 RW2 BW' R0 R1 R2 BW
      by_cases hmn : a2 % 4294967296 < a3 % 4294967296
      · have CC : Hid (∀ n, Calls Try.prog 10 #[.slice (some ⟨g1, 1, none⟩) 4 (len0 - 1), .slice (some ⟨g2, 1, none⟩) 4 (len0 - 1)] (W.drewN n) fun e w' => e = .returned (.int .i64 (-1)) ∧ ∃ m, w' = (W.drewN n).drewN m) := fun n => by
          have h := compare_hdr g1 g2 (len0 - 1) (len0 - 1) a1 a2 a1 a3 (zs.drop 5) (W.drewN n) (row_drewN RA.out n) (row_drewN RB.out n)
          rw [if_pos hmn] at h
          exact h
        go_wp2_with fail
        go_quiet ((go_at_call 10; exact Calls.quiet_of (CC.out _)))
        go_wp2
        go_ret
        exact ⟨rfl, below_drewN BB.out _⟩
      · by_cases hnm : a3 % 4294967296 < a2 % 4294967296
        · have CC : Hid (∀ n, Calls Try.prog 10 #[.slice (some ⟨g1, 1, none⟩) 4 (len0 - 1), .slice (some ⟨g2, 1, none⟩) 4 (len0 - 1)] (W.drewN n) fun e w' => e = .returned (.int .i64 1) ∧ ∃ m, w' = (W.drewN n).drewN m) := fun n => by
            have h := compare_hdr g1 g2 (len0 - 1) (len0 - 1) a1 a2 a1 a3 (zs.drop 5) (W.drewN n) (row_drewN RA.out n) (row_drewN RB.out n)
            rw [if_neg hmn, if_pos hnm] at h
            exact h
          go_wp2_with fail
          go_quiet ((go_at_call 10; exact Calls.quiet_of (CC.out _)))
          go_wp2
          go_ret
          exact ⟨rfl, below_drewN BB.out _⟩
        · have CC : Hid (∀ n, Calls Try.prog 10 #[.slice (some ⟨g1, 1, none⟩) 4 (len0 - 1), .slice (some ⟨g2, 1, none⟩) 4 (len0 - 1)] (W.drewN n) fun e w' => e = .returned (.int .i64 0) ∧ ∃ m, w' = (W.drewN n).drewN m) := fun n => by
            have h := compare_hdr g1 g2 (len0 - 1) (len0 - 1) a1 a2 a1 a3 (zs.drop 5) (W.drewN n) (row_drewN RA.out n) (row_drewN RB.out n)
            rw [if_neg hmn, if_neg hnm] at h
            exact h
          go_wp2_with fail
          go_quiet ((go_at_call 10; exact Calls.quiet_of (CC.out _)))
          go_wp2
          go_ret
          exact ⟨rfl, below_drewN BB.out _⟩

/-! ### THE ROW's STEP: WRITTEN OUT: LEAVE IT -/
set_option maxRecDepth 100000 in
theorem lifted (os : Os) (started : os.Started) (H : Type) (enc : TypeId × Value → H) :
    ReturnsInHanded {} Try.checked os 4 .any (Rows.fnPutHeaderOrdersAsLengthSpec.pre6 enc Try.prog Try.f4 Rows.fnPutHeaderOrdersAsLengthRow.domain false) (Rows.fnPutHeaderOrdersAsLengthSpec.post enc Try.prog Try.f4 false true false false) := by
  refine returnsInHanded_of_change (C := Try.checked) own started (by kernel_rfl) Try.func4
    (ChangeSpec.witness6 (enc := enc) (C := Try.checked) false ⟨#[], #[.slice none 0 0, .int .u8 0, .int .i64 0, .int .i64 0], []⟩ 8 (by kernel_rfl) (by kernel_rfl) (by kernel_rfl) (by kernel_rfl)) ?_
  intro W base args ds gs before hval0 hW hcnd _
  have hval : ∀ (j : Nat) t v, Try.f4.params[j]? = some t → args[j]? = some v → Value.okWide Try.prog W .any base t v := hval0
  have hW' := hW
  obtain ⟨p, q, hA0, hV, rfl, hfz, hnd⟩ := hW
  have hA : DataW.TrodAll enc Try.prog W 0 (fun _ => true) true Try.f4.params.toList args.toList ds p := hA0
  rw [Try.params4] at hA hval
  obtain ⟨v0, vs0, d0, ds0, p0, q0, hargs, rfl, rfl, h0, r0⟩ := trodAll_cons hA
  obtain ⟨v1, vs1, d1, ds1, p1, q1, rfl, rfl, rfl, h1, r1⟩ := trodAll_cons r0
  obtain ⟨v2, vs2, d2, ds2, p2, q2, rfl, rfl, rfl, h2, r2⟩ := trodAll_cons r1
  obtain ⟨v3, vs3, d3, ds3, p3, q3, rfl, rfl, rfl, h3, r3⟩ := trodAll_cons r2
  obtain ⟨rfl, rfl, rfl⟩ := trodAll_nil r3
  obtain rfl : args = #[v0, v1, v2, v3] := by cases args; simp_all
  obtain ⟨rfl, rfl⟩ := trodVars_none hV
  obtain ⟨a0, len0, cap0, rfl⟩ := okWide_slice Try.underlying22 (hval 0 22 v0 rfl rfl)
  have k0 := h0
  have lt0 : ∀ x ∈ p0, x.block < W.heap.size := by obtain ⟨m, hm⟩ := k0; exact DataW.trod_lt m _ _ _ hm
  obtain ⟨z0, w0⟩ : ∃ zs, IsRow .u8 W a0 len0 cap0 zs := by
    obtain ⟨fuel, hf⟩ := h0
    rcases open_ints Try.underlying22 Try.underlying5 (by kernel_rfl) hf with ⟨hcs, _⟩ | ⟨x, l, c, zs, hcs, _, hl, hm, hz, _, hcell, hwz⟩
    · simp [Value.cells] at hcs
      obtain ⟨rfl, rfl, rfl⟩ := hcs
      exact ⟨[], .inl ⟨rfl, rfl, rfl, rfl⟩⟩
    · simp [Value.cells] at hcs
      obtain ⟨rfl, rfl, rfl⟩ := hcs
      exact ⟨zs, .inr ⟨_, rfl, hl, hm, by simpa using hz, hcell, hwz⟩⟩
  obtain ⟨a1, rfl, rfl, rfl, w1⟩ := open_int Try.underlying5 (hval 1 5 v1 rfl rfl) h1
  obtain ⟨a2, rfl, rfl, rfl, w2⟩ := open_int Try.underlying3 (hval 2 3 v2 rfl rfl) h2
  obtain ⟨a3, rfl, rfl, rfl, w3⟩ := open_int Try.underlying3 (hval 3 3 v3 rfl rfl) h3
  clear hA0 hval0
  refine (walk a0 len0 cap0 z0 a1 a2 a3 W w0 w1 w2 w3).mono fun e W' ⟨he, bel⟩ => ?_
  subst he
  exact ⟨_, rfl, _, _, _, [], _, [], hW', trodAll_mk1 (shut_bool Try.underlying4 _), (trodAll_cons_mk (Below.trod laidOut (by kernel_rfl) (of_decide_eq_true (by kernel_rfl)) k0 bel lt0) (trodAll_cons_mk (shut_int Try.underlying5 w1) (trodAll_cons_mk (shut_int Try.underlying3 w2) (trodAll_cons_mk (shut_int Try.underlying3 w3) trodAll_mk0)))), rfl, bel.frame _, fun h => by cases h⟩

theorem over : Rows.fnPutHeaderOrdersAsLengthRow.holds Try.pinned (OpenSpec.ofChange Rows.fnPutHeaderOrdersAsLengthSpec) :=
  OpenClaim.holds_of_wide 4 Try.f4 rfl rfl rfl rfl rfl rfl rfl ⟨rfl, rfl, rfl, rfl, rfl⟩ rfl rfl rfl rfl rfl (by kernel_rfl) Try.func4 (by kernel_rfl)
    (of_decide_eq_true (by kernel_rfl)) (by unfold Func.isWrapper; first | (rw [if_pos (by decide +kernel)]; kernel_rfl) | (rw [if_neg (by decide +kernel)]; exact ⟨rfl, rfl⟩))
    (fun os started H enc _ => lifted os started H enc)

/-- THE STATEMENT -/
theorem proved : Rows.FnPutHeaderOrdersAsLengthSaid := over
#print axioms proved
end Go.Proofs.Qxb6614423a.fnPutHeaderOrdersAsLength
