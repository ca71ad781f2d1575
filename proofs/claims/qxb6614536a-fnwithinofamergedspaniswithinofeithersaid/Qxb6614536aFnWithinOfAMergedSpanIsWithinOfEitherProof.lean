/-
  PROOF OF 'Rows.FnWithinOfAMergedSpanIsWithinOfEitherSaid'. The frame (STEP 2 on) is the seat's given shell; the walk is ours. The callees' contracts and the plain laws on words: Qxb6614536aWalks.
-/
import Derived.Test.Qxb6614536aRows
import Derived.WalkKit
import Derived.ProofKit
import Derived.OpenShut
import Derived.ShutString
import Derived.Deep.DeepCutAuto
import Derived.Test.Qxb6614536aWalks
namespace Go.Proofs.Qxb6614536a.fnWithinOfAMergedSpanIsWithinOfEither
open Go.ChangeShapes Go.WideShapes Go.ChangeAt Go.RowKit
open Go.ChangeMaps (open_string shut_string)
set_option linter.unusedVariables false      -- a walk need not use every 'w<i>' (that an integer argument fits its kind)

theorem own : ownKnob Try.prog.godebug = none := by kernel_rfl

/-! ### STEP 1: THE WALK: the Go text returns true. 'Grown w w'': the world has at most new blocks (Derived/RowKit3.lean). Part the cases AHEAD of 'go_enter' where a test parts the walk; take each callee by a contract of your own. -/
/-- The lesser and the greater of two numbers, as the law's text picks them. -/
def lo (x y : Int) : Int := if y < x then y else x
def hi (x y : Int) : Int := if x < y then y else x
theorem lo_pos {x y : Int} (h : y < x) : lo x y = y := if_pos h
theorem lo_neg {x y : Int} (h : x ≤ y) : lo x y = x := if_neg (by omega)
theorem hi_pos {x y : Int} (h : x < y) : hi x y = y := if_pos h
theorem hi_neg {x y : Int} (h : y ≤ x) : hi x y = x := if_neg (by omega)
theorem lo_lt (x y b : Int) : decide (lo x y < b) = (decide (x < b) || decide (y < b)) := by
  rw [Bool.eq_iff_iff]; simp; unfold lo; split <;> omega
theorem lt_hi (x y a : Int) : decide (a < hi x y) = (decide (a < x) || decide (a < y)) := by
  rw [Bool.eq_iff_iff]; simp; unfold hi; split <;> omega

/-- The span that holds both. -/
theorem wi_merged (b a m e1 l1 s1 e2 l2 s2 : Int) : wi b a m (lo e1 e2) (hi l1 l2) (bits .or .u64 s1 s2) = (wi b a m e1 l1 s1 || wi b a m e2 l2 s2) := by
  unfold wi
  rw [lo_lt, lt_hi, and_union]
  cases decide (e1 < b) <;> cases decide (e2 < b) <;> cases decide (a < l1) <;> cases decide (a < l2) <;> simp

theorem wi_before (b a m e l s : Int) (h : e ≤ b - 1) : wi b a m e l s = true := by
  have h' : e < b := by omega
  simp [wi, h']

set_option maxHeartbeats 1000000 in
theorem walk (a0 : Int) (a1 : Int) (a2 : Int) (a3 : Int) (a4 : Int) (a5 : Int) (a6 : Int) (a7 : Int) (a8 : Int) (w0 : (Lit.int .i64 a0).wf = true) (w1 : (Lit.int .i64 a1).wf = true) (w2 : (Lit.int .u64 a2).wf = true) (w3 : (Lit.int .i64 a3).wf = true) (w4 : (Lit.int .i64 a4).wf = true) (w5 : (Lit.int .u64 a5).wf = true) (w6 : (Lit.int .i64 a6).wf = true) (w7 : (Lit.int .i64 a7).wf = true) (w8 : (Lit.int .u64 a8).wf = true) (w : World) :
    Calls Try.prog 4 #[.int .i64 a0, .int .i64 a1, .int .u64 a2, .int .i64 a3, .int .i64 a4, .int .u64 a5, .int .i64 a6, .int .i64 a7, .int .u64 a8] w fun e w' => e = .returned (.bool true) ∧ Grown w w' := by
  have b0 : -9223372036854775808 ≤ a0 ∧ a0 ≤ 9223372036854775807 := by simpa [Lit.wf, IntKind.min, IntKind.max, IntKind.bits, IntKind.signed] using w0
  obtain ⟨b0, b0'⟩ := b0
  clear w0 w1 w2 w3 w4 w5 w6 w7 w8
  go_enter Try.func4, Try.ntmps4
  go_upto_if 28 with fail
  go_cut [19] (fun e wx => ∃ E, e = .int .i64 E ∧ Hid (E = lo a3 a6) ∧ wx = w)
  case first =>
    by_cases h : a6 < a3
    · go_wp2_with fail
      go_meet
      case rel => exact ⟨a6, rfl, (lo_pos h).symm, rfl⟩
    · go_wp2_with fail
      go_meet
      case rel => exact ⟨a3, rfl, (lo_neg h).symm, rfl⟩
  case rest =>
    obtain ⟨E, rfl, HE, rfl⟩ := hcut
    go_upto_if 33 with fail
    go_cut [20] (fun e wx => ∃ L, e = .int .i64 L ∧ Hid (L = hi a4 a7) ∧ wx = wc)
    case first =>
      by_cases h : a4 < a7
      · go_wp2_with fail
        go_meet
        case rel => exact ⟨a7, rfl, (hi_pos h).symm, rfl⟩
      · go_wp2_with fail
        go_meet
        case rel => exact ⟨a4, rfl, (hi_neg h).symm, rfl⟩
    case rest =>
      obtain ⟨L, rfl, HL, rfl⟩ := hcut
      obtain ⟨x, hx⟩ : ∃ x, x = wi a0 a1 a2 a3 a4 a5 := ⟨_, rfl⟩
      obtain ⟨y, hy⟩ : ∃ y, y = wi a0 a1 a2 a6 a7 a8 := ⟨_, rfl⟩
      have C1 : Hid (∀ w, Calls Try.prog 5 #[.int .i64 a0, .int .i64 a1, .int .u64 a2, .int .i64 E, .int .i64 L, .int .u64 (bits .or .u64 a5 a8)] w fun e w' => e = .returned (.bool (x || y)) ∧ Grown w w') := fun w => by
        have h := zzwithin_any a0 a1 a2 E L (bits .or .u64 a5 a8) w
        rw [HE.out, HL.out, wi_merged, ← hx, ← hy, ← HE.out, ← HL.out] at h
        exact h
      have C2 : Hid (∀ w, Calls Try.prog 5 #[.int .i64 a0, .int .i64 a1, .int .u64 a2, .int .i64 a3, .int .i64 a4, .int .u64 a5] w fun e w' => e = .returned (.bool x) ∧ Grown w w') := fun w => by
        have h := zzwithin_any a0 a1 a2 a3 a4 a5 w
        rw [← hx] at h
        exact h
      have C3 : Hid (∀ w, Calls Try.prog 5 #[.int .i64 a0, .int .i64 a1, .int .u64 a2, .int .i64 a6, .int .i64 a7, .int .u64 a8] w fun e w' => e = .returned (.bool y) ∧ Grown w w') := fun w => by
        have h := zzwithin_any a0 a1 a2 a6 a7 a8 w
        rw [← hy] at h
        exact h
      clear hx hy HE HL
      go_upto_if 63 with fail
      refine (C1.out _).mono ?_
      rintro e w1 ⟨rfl, g1⟩
      go_upto_if 63 with fail
      refine (C2.out _).mono ?_
      rintro e w2 ⟨rfl, g2⟩
      go_upto_if 63 with fail
      refine (C3.out _).mono ?_
      rintro e w3 ⟨rfl, g3⟩
      have G := hide (grown_trans (grown_trans g1 g2) g3)
      clear C1 C2 C3 g1 g2 g3
      go_upto_region 10 with fail
      go_cut [63] (fun c wx => c = .bool false ∧ wx = w3)
      case first =>
        cases x
        all_goals
          go_wp2_with fail
          go_meet
          case rel => exact ⟨rfl, rfl⟩
      case rest =>
        obtain ⟨rfl, rfl⟩ := hcut
        by_cases hmin : a0 ≤ -9223372036854775808
        · obtain rfl : a0 = -9223372036854775808 := by omega
          clear hmin b0 b0'
          go_wp2_with fail
          go_ret
          exact ⟨rfl, G.out⟩
        · have h0 : -9223372036854775807 ≤ a0 := by omega
          clear hmin b0
          have hne : (a0 == -9223372036854775808) = false := by simp; omega
          go_upto_if 71 with fail
          go_cut [19] (fun e wx => ∃ E, e = .int .i64 E ∧ E ≤ a0 - 1 ∧ wx = wc)
          case first =>
            by_cases h : a0 - 1 < a3
            · go_wp2_with fail
              go_meet
              case rel => exact ⟨a0 - 1, rfl, Int.le_refl _, rfl⟩
            · go_wp2_with fail
              go_meet
              case rel => exact ⟨a3, rfl, by omega, rfl⟩
          case rest =>
            obtain ⟨E', rfl, hE', rfl⟩ := hcut
            have C4 : Hid (∀ L w, Calls Try.prog 5 #[.int .i64 a0, .int .i64 a1, .int .u64 a2, .int .i64 E', .int .i64 L, .int .u64 a5] w fun e w' => e = .returned (.bool true) ∧ Grown w w') := fun L w => by
              have h := zzwithin_any a0 a1 a2 E' L a5 w
              rw [wi_before a0 a1 a2 E' L a5 hE'] at h
              exact h
            by_cases h : a4 < a0 - 1
            all_goals
              go_wp2_with fail
              refine (C4.out _ _).mono ?_
              rintro e w5 ⟨rfl, g5⟩
              go_wp2
              go_ret
              exact ⟨rfl, grown_trans G.out g5⟩

/-! ### THE ROW's STEP: WRITTEN OUT: LEAVE IT -/
set_option maxRecDepth 100000 in
theorem lifted (os : Os) (started : os.Started) (H : Type) (enc : TypeId × Value → H) :
    ReturnsInHanded {} Try.checked os 4 .any (Rows.fnWithinOfAMergedSpanIsWithinOfEitherSpec.pre6 enc Try.prog Try.f4 Rows.fnWithinOfAMergedSpanIsWithinOfEitherRow.domain false) (Rows.fnWithinOfAMergedSpanIsWithinOfEitherSpec.post enc Try.prog Try.f4 false true false false) := by
  refine returnsInHanded_of_change (C := Try.checked) own started (by kernel_rfl) Try.func4
    (ChangeSpec.witness6 (enc := enc) (C := Try.checked) false ⟨#[], #[.int .i64 0, .int .i64 0, .int .u64 0, .int .i64 0, .int .i64 0, .int .u64 0, .int .i64 0, .int .i64 0, .int .u64 0], []⟩ 8 (by kernel_rfl) (by kernel_rfl) (by kernel_rfl) (by kernel_rfl)) ?_
  intro W base args ds gs before hval0 hW hcnd _
  have hval : ∀ (j : Nat) t v, Try.f4.params[j]? = some t → args[j]? = some v → Value.okWide Try.prog W .any base t v := hval0
  have hW' := hW
  obtain ⟨p, q, hA0, hV, rfl, hfz, hnd⟩ := hW
  have hA : DataW.TrodAll enc Try.prog W 0 (fun _ => true) true Try.f4.params.toList args.toList ds p := hA0
  rw [Try.params4] at hA hval
  obtain ⟨v0, vs0, d0, ds0, p0, q0, hargs, rfl, rfl, h0, r0⟩ := trodAll_cons hA
  obtain ⟨v1, vs1, d1, ds1, p1, q1, rfl, rfl, rfl, h1, r1⟩ := trodAll_cons r0
  obtain ⟨v2, vs2, d2, ds2, p2, q2, rfl, rfl, rfl, h2, r2⟩ := trodAll_cons r1
  obtain ⟨v3, vs3, d3, ds3, p3, q3, rfl, rfl, rfl, h3, r3⟩ := trodAll_cons r2
  obtain ⟨v4, vs4, d4, ds4, p4, q4, rfl, rfl, rfl, h4, r4⟩ := trodAll_cons r3
  obtain ⟨v5, vs5, d5, ds5, p5, q5, rfl, rfl, rfl, h5, r5⟩ := trodAll_cons r4
  obtain ⟨v6, vs6, d6, ds6, p6, q6, rfl, rfl, rfl, h6, r6⟩ := trodAll_cons r5
  obtain ⟨v7, vs7, d7, ds7, p7, q7, rfl, rfl, rfl, h7, r7⟩ := trodAll_cons r6
  obtain ⟨v8, vs8, d8, ds8, p8, q8, rfl, rfl, rfl, h8, r8⟩ := trodAll_cons r7
  obtain ⟨rfl, rfl, rfl⟩ := trodAll_nil r8
  obtain rfl : args = #[v0, v1, v2, v3, v4, v5, v6, v7, v8] := by cases args; simp_all
  obtain ⟨rfl, rfl⟩ := trodVars_none hV
  obtain ⟨a0, rfl, rfl, rfl, w0⟩ := open_int Try.underlying2 (hval 0 2 v0 rfl rfl) h0
  obtain ⟨a1, rfl, rfl, rfl, w1⟩ := open_int Try.underlying2 (hval 1 2 v1 rfl rfl) h1
  obtain ⟨a2, rfl, rfl, rfl, w2⟩ := open_int Try.underlying22 (hval 2 22 v2 rfl rfl) h2
  obtain ⟨a3, rfl, rfl, rfl, w3⟩ := open_int Try.underlying2 (hval 3 2 v3 rfl rfl) h3
  obtain ⟨a4, rfl, rfl, rfl, w4⟩ := open_int Try.underlying2 (hval 4 2 v4 rfl rfl) h4
  obtain ⟨a5, rfl, rfl, rfl, w5⟩ := open_int Try.underlying22 (hval 5 22 v5 rfl rfl) h5
  obtain ⟨a6, rfl, rfl, rfl, w6⟩ := open_int Try.underlying2 (hval 6 2 v6 rfl rfl) h6
  obtain ⟨a7, rfl, rfl, rfl, w7⟩ := open_int Try.underlying2 (hval 7 2 v7 rfl rfl) h7
  obtain ⟨a8, rfl, rfl, rfl, w8⟩ := open_int Try.underlying22 (hval 8 22 v8 rfl rfl) h8
  clear hA0 hval0
  simp only [List.append_nil] at hW'
  refine (walk a0 a1 a2 a3 a4 a5 a6 a7 a8 w0 w1 w2 w3 w4 w5 w6 w7 w8 W).mono fun e W' ⟨he, hg⟩ => ?_
  subst he
  exact ⟨_, rfl, post_of_same (pa := []) (pv := []) hW' (fun _ _ _ => (trodAll_cons_mk (shut_bool Try.underlying4 _) trodAll_mk0)) (fun sp _ => (trodAll_cons_mk (shut_int Try.underlying2 w0) (trodAll_cons_mk (shut_int Try.underlying2 w1) (trodAll_cons_mk (shut_int Try.underlying22 w2) (trodAll_cons_mk (shut_int Try.underlying2 w3) (trodAll_cons_mk (shut_int Try.underlying2 w4) (trodAll_cons_mk (shut_int Try.underlying22 w5) (trodAll_cons_mk (shut_int Try.underlying2 w6) (trodAll_cons_mk (shut_int Try.underlying2 w7) (trodAll_cons_mk (shut_int Try.underlying22 w8) trodAll_mk0)))))))))) (fun _ _ => rfl) rfl
    (hg.frame _) hg.2.1 (ok_one (by kernel_rfl) rfl (okWide_bool_mk Try.underlying4 _))⟩

theorem over : Rows.fnWithinOfAMergedSpanIsWithinOfEitherRow.holds Try.pinned (OpenSpec.ofChange Rows.fnWithinOfAMergedSpanIsWithinOfEitherSpec) :=
  OpenClaim.holds_of_wide 4 Try.f4 rfl rfl rfl rfl rfl rfl rfl ⟨rfl, rfl, rfl, rfl, rfl⟩ rfl rfl rfl rfl rfl (by kernel_rfl) Try.func4 (by kernel_rfl)
    (of_decide_eq_true (by kernel_rfl)) (by unfold Func.isWrapper; first | (rw [if_pos (by decide +kernel)]; kernel_rfl) | (rw [if_neg (by decide +kernel)]; exact ⟨rfl, rfl⟩))
    (fun os started H enc _ => lifted os started H enc)

/-- THE STATEMENT -/
theorem proved : Rows.FnWithinOfAMergedSpanIsWithinOfEitherSaid :=
  over
#print axioms proved
end Go.Proofs.Qxb6614536a.fnWithinOfAMergedSpanIsWithinOfEither
