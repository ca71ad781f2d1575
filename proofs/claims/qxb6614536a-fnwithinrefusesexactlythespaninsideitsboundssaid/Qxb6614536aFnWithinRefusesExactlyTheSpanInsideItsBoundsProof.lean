/-
  PROOF OF 'Rows.FnWithinRefusesExactlyTheSpanInsideItsBoundsSaid'. The frame (STEP 2 on) is the seat's given shell; the walk is ours. The callees' contracts and the plain laws: Qxb6614536aWalks.
-/
import Derived.Test.Qxb6614536aRows
import Derived.WalkKit
import Derived.ProofKit
import Derived.OpenShut
import Derived.ShutString
import Derived.Test.Qxb6614536aWalks
namespace Go.Proofs.Qxb6614536a.fnWithinRefusesExactlyTheSpanInsideItsBounds
open Go.ChangeShapes Go.WideShapes Go.ChangeAt Go.RowKit
open Go.ChangeMaps (open_string shut_string)
set_option linter.unusedVariables false      -- a walk need not use every 'w<i>' (that an integer argument fits its kind)

theorem own : ownKnob Try.prog.godebug = none := by kernel_rfl

/-! ### STEP 1: THE WALK: the Go text returns true. 'Grown w w'': the world has at most new blocks (Derived/RowKit3.lean). Part the cases AHEAD of 'go_enter' where a test parts the walk; take each callee by a contract of your own. -/
set_option maxHeartbeats 1000000 in
theorem walk (a0 : Int) (a1 : Int) (a2 : Int) (a3 : Int) (w0 : (Lit.int .i64 a0).wf = true) (w1 : (Lit.int .i64 a1).wf = true) (w2 : (Lit.int .u64 a2).wf = true) (w3 : (Lit.int .u8 a3).wf = true) (w : World) :
    Calls Try.prog 3 #[.int .i64 a0, .int .i64 a1, .int .u64 a2, .int .u8 a3] w fun e w' => e = .returned (.bool true) ∧ Grown w w' := by
  have b0 : -9223372036854775808 ≤ a0 ∧ a0 ≤ 9223372036854775807 := by simpa [Lit.wf, IntKind.min, IntKind.max, IntKind.bits, IntKind.signed] using w0
  have b1 : -9223372036854775808 ≤ a1 ∧ a1 ≤ 9223372036854775807 := by simpa [Lit.wf, IntKind.min, IntKind.max, IntKind.bits, IntKind.signed] using w1
  have b3 : 0 ≤ a3 ∧ a3 ≤ 255 := by simpa [Lit.wf, IntKind.min, IntKind.max, IntKind.bits, IntKind.signed] using w3
  obtain ⟨b0, b0'⟩ := b0; obtain ⟨b1, b1'⟩ := b1; obtain ⟨b3, b3'⟩ := b3
  clear w0 w1 w2 w3
  by_cases hbit : 63 < a3
  · go_enter Try.func3, Try.ntmps3
    go_wp2
    go_ret
    exact ⟨rfl, Grown.refl _⟩
  have hr0 := and_rest a2
  have hr1 := and_rest_one a2
  obtain ⟨r, hr⟩ : ∃ r, r = bits .xor .u64 IntKind.u64.max a2 := ⟨_, rfl⟩
  rw [← hr] at hr0 hr1
  have hx := hr.symm
  have C1 : Hid (∀ w, Calls Try.prog 5 #[.int .i64 a0, .int .i64 a1, .int .u64 a2, .int .i64 a0, .int .i64 a1, .int .u64 r] w fun e w' => e = .returned (.bool false) ∧ Grown w w') := fun w => by
    have h := zzwithin_any a0 a1 a2 a0 a1 r w
    rw [show wi a0 a1 a2 a0 a1 r = false from by simp [wi, hr0]] at h
    exact h
  have C2 : Hid (∀ w, Calls Try.prog 5 #[.int .i64 a0, .int .i64 a1, .int .u64 a2, .int .i64 (a0 - 1), .int .i64 a1, .int .u64 r] w fun e w' => e = .returned (.bool true) ∧ Grown w w') := fun w => by
    have h := zzwithin_any a0 a1 a2 (a0 - 1) a1 r w
    rw [show wi a0 a1 a2 (a0 - 1) a1 r = true from by simp [wi]; omega] at h
    exact h
  have C3 : Hid (∀ w, Calls Try.prog 5 #[.int .i64 a0, .int .i64 a1, .int .u64 a2, .int .i64 a0, .int .i64 (a1 + 1), .int .u64 r] w fun e w' => e = .returned (.bool true) ∧ Grown w w') := fun w => by
    have h := zzwithin_any a0 a1 a2 a0 (a1 + 1) r w
    rw [show wi a0 a1 a2 a0 (a1 + 1) r = true from by simp [wi]; omega] at h
    exact h
  have C4 : Hid (∀ o w, Calls Try.prog 5 #[.int .i64 a0, .int .i64 a1, .int .u64 a2, .int .i64 a0, .int .i64 a1, .int .u64 (bits .or .u64 r o)] w fun e w' => e = .returned (.bool (bits .and .u64 a2 o != 0)) ∧ Grown w w') := fun o w => by
    have h := zzwithin_any a0 a1 a2 a0 a1 (bits .or .u64 r o) w
    rw [show wi a0 a1 a2 a0 a1 (bits .or .u64 r o) = (bits .and .u64 a2 o != 0) from by simp [wi, hr1]] at h
    exact h
  clear hr hr0 hr1
  by_cases hb : a0 ≤ -9223372036854775808
  · obtain rfl : a0 = -9223372036854775808 := by omega
    clear hb b0 b0'
    by_cases ha : 9223372036854775807 ≤ a1
    · obtain rfl : a1 = 9223372036854775807 := by omega
      clear C2 C3 ha b1 b1'
      go_enter Try.func3, Try.ntmps3
      go_wp2_with fail
      refine (C1.out _).mono ?_
      rintro e w1 ⟨rfl, g1⟩
      go_wp2_with fail
      refine (C4.out _ _).mono ?_
      rintro e w2 ⟨rfl, g2⟩
      go_wp2
      go_ret
      exact ⟨rfl, (grown_trans g1 g2)⟩
    · have ha' : a1 ≤ 9223372036854775806 := by omega
      clear C2 ha b1'
      go_enter Try.func3, Try.ntmps3
      go_wp2_with fail
      refine (C1.out _).mono ?_
      rintro e w1 ⟨rfl, g1⟩
      go_wp2_with fail
      refine (C3.out _).mono ?_
      rintro e w2 ⟨rfl, g2⟩
      go_wp2_with fail
      refine (C4.out _ _).mono ?_
      rintro e w3 ⟨rfl, g3⟩
      go_wp2
      go_ret
      exact ⟨rfl, (grown_trans (grown_trans g1 g2) g3)⟩
  · have hb' : -9223372036854775807 ≤ a0 := by omega
    clear hb b0
    by_cases ha : 9223372036854775807 ≤ a1
    · obtain rfl : a1 = 9223372036854775807 := by omega
      clear C3 ha b1 b1'
      go_enter Try.func3, Try.ntmps3
      go_wp2_with fail
      refine (C1.out _).mono ?_
      rintro e w1 ⟨rfl, g1⟩
      go_wp2_with fail
      refine (C2.out _).mono ?_
      rintro e w2 ⟨rfl, g2⟩
      go_wp2_with fail
      refine (C4.out _ _).mono ?_
      rintro e w3 ⟨rfl, g3⟩
      go_wp2
      go_ret
      exact ⟨rfl, (grown_trans (grown_trans g1 g2) g3)⟩
    · have ha' : a1 ≤ 9223372036854775806 := by omega
      clear ha b1'
      go_enter Try.func3, Try.ntmps3
      go_wp2_with fail
      refine (C1.out _).mono ?_
      rintro e w1 ⟨rfl, g1⟩
      go_wp2_with fail
      refine (C2.out _).mono ?_
      rintro e w2 ⟨rfl, g2⟩
      go_wp2_with fail
      refine (C3.out _).mono ?_
      rintro e w3 ⟨rfl, g3⟩
      go_wp2_with fail
      refine (C4.out _ _).mono ?_
      rintro e w4 ⟨rfl, g4⟩
      go_wp2
      go_ret
      exact ⟨rfl, (grown_trans (grown_trans (grown_trans g1 g2) g3) g4)⟩

/-! ### THE ROW's STEP: WRITTEN OUT: LEAVE IT -/
set_option maxRecDepth 100000 in
theorem lifted (os : Os) (started : os.Started) (H : Type) (enc : TypeId × Value → H) :
    ReturnsInHanded {} Try.checked os 3 .any (Rows.fnWithinRefusesExactlyTheSpanInsideItsBoundsSpec.pre6 enc Try.prog Try.f3 Rows.fnWithinRefusesExactlyTheSpanInsideItsBoundsRow.domain false) (Rows.fnWithinRefusesExactlyTheSpanInsideItsBoundsSpec.post enc Try.prog Try.f3 false true false false) := by
  refine returnsInHanded_of_change (C := Try.checked) own started (by kernel_rfl) Try.func3
    (ChangeSpec.witness6 (enc := enc) (C := Try.checked) false ⟨#[], #[.int .i64 0, .int .i64 0, .int .u64 0, .int .u8 0], []⟩ 8 (by kernel_rfl) (by kernel_rfl) (by kernel_rfl) (by kernel_rfl)) ?_
  intro W base args ds gs before hval0 hW hcnd _
  have hval : ∀ (j : Nat) t v, Try.f3.params[j]? = some t → args[j]? = some v → Value.okWide Try.prog W .any base t v := hval0
  have hW' := hW
  obtain ⟨p, q, hA0, hV, rfl, hfz, hnd⟩ := hW
  have hA : DataW.TrodAll enc Try.prog W 0 (fun _ => true) true Try.f3.params.toList args.toList ds p := hA0
  rw [Try.params3] at hA hval
  obtain ⟨v0, vs0, d0, ds0, p0, q0, hargs, rfl, rfl, h0, r0⟩ := trodAll_cons hA
  obtain ⟨v1, vs1, d1, ds1, p1, q1, rfl, rfl, rfl, h1, r1⟩ := trodAll_cons r0
  obtain ⟨v2, vs2, d2, ds2, p2, q2, rfl, rfl, rfl, h2, r2⟩ := trodAll_cons r1
  obtain ⟨v3, vs3, d3, ds3, p3, q3, rfl, rfl, rfl, h3, r3⟩ := trodAll_cons r2
  obtain ⟨rfl, rfl, rfl⟩ := trodAll_nil r3
  obtain rfl : args = #[v0, v1, v2, v3] := by cases args; simp_all
  obtain ⟨rfl, rfl⟩ := trodVars_none hV
  obtain ⟨a0, rfl, rfl, rfl, w0⟩ := open_int Try.underlying2 (hval 0 2 v0 rfl rfl) h0
  obtain ⟨a1, rfl, rfl, rfl, w1⟩ := open_int Try.underlying2 (hval 1 2 v1 rfl rfl) h1
  obtain ⟨a2, rfl, rfl, rfl, w2⟩ := open_int Try.underlying22 (hval 2 22 v2 rfl rfl) h2
  obtain ⟨a3, rfl, rfl, rfl, w3⟩ := open_int Try.underlying5 (hval 3 5 v3 rfl rfl) h3
  clear hA0 hval0
  simp only [List.append_nil] at hW'
  refine (walk a0 a1 a2 a3 w0 w1 w2 w3 W).mono fun e W' ⟨he, hg⟩ => ?_
  subst he
  exact ⟨_, rfl, post_of_same (pa := []) (pv := []) hW' (fun _ _ _ => (trodAll_cons_mk (shut_bool Try.underlying4 _) trodAll_mk0)) (fun sp _ => (trodAll_cons_mk (shut_int Try.underlying2 w0) (trodAll_cons_mk (shut_int Try.underlying2 w1) (trodAll_cons_mk (shut_int Try.underlying22 w2) (trodAll_cons_mk (shut_int Try.underlying5 w3) trodAll_mk0))))) (fun _ _ => rfl) rfl
    (hg.frame _) hg.2.1 (ok_one (by kernel_rfl) rfl (okWide_bool_mk Try.underlying4 _))⟩

theorem over : Rows.fnWithinRefusesExactlyTheSpanInsideItsBoundsRow.holds Try.pinned (OpenSpec.ofChange Rows.fnWithinRefusesExactlyTheSpanInsideItsBoundsSpec) :=
  OpenClaim.holds_of_wide 3 Try.f3 rfl rfl rfl rfl rfl rfl rfl ⟨rfl, rfl, rfl, rfl, rfl⟩ rfl rfl rfl rfl rfl (by kernel_rfl) Try.func3 (by kernel_rfl)
    (of_decide_eq_true (by kernel_rfl)) (by unfold Func.isWrapper; first | (rw [if_pos (by decide +kernel)]; kernel_rfl) | (rw [if_neg (by decide +kernel)]; exact ⟨rfl, rfl⟩))
    (fun os started H enc _ => lifted os started H enc)

/-- THE STATEMENT -/
theorem proved : Rows.FnWithinRefusesExactlyTheSpanInsideItsBoundsSaid :=
  over
#print axioms proved
end Go.Proofs.Qxb6614536a.fnWithinRefusesExactlyTheSpanInsideItsBounds
