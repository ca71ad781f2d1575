/-
  PROOF OF 'Rows.FnSQLTokenIsNameFirstByteSaid'. The frame (STEP 2 on) is the seat's given shell; the walk is ours. The callees' contracts and the plain laws: Qxb6605766aWalks.
-/
import Derived.Test.Qxb6605766aRows
import Derived.WalkKit
import Derived.ProofKit
import Derived.OpenShut
import Derived.ShutString
import Derived.Test.Qxb6605766aWalks
namespace Go.Proofs.Qxb6605766a.fnSQLTokenIsNameFirstByte
open Go.ChangeShapes Go.WideShapes Go.ChangeAt Go.RowKit
open Go.ChangeMaps (open_string shut_string)
set_option linter.unusedVariables false      -- a walk need not use every 'w<i>' (that an integer argument fits its kind)

theorem own : ownKnob Try.prog.godebug = none := by kernel_rfl

/-! ### STEP 1: THE WALK: the Go text returns true. 'Grown w w'': the world has at most new blocks (Derived/RowKit3.lean). Part the cases AHEAD of 'go_enter' where a test parts the walk; take each callee by a contract of your own. -/
set_option maxHeartbeats 1000000 in
theorem walk (a0 : Int) (a1 : Int) (a2 : ByteArray) (w0 : (Lit.int .i64 a0).wf = true) (w1 : (Lit.int .i64 a1).wf = true) (w2 : a2.size ≤ maxLen) (w : World) :
    Calls Try.prog 3 #[.int .i64 a0, .int .i64 a1, .string a2] w fun e w' => e = .returned (.bool true) ∧ Grown w w' := by
  clear w0 w1
  by_cases hbig : 1048576 < a2.size
  · go_enter Try.func3, Try.ntmps3
    go_wp2
    go_ret
    exact ⟨rfl, Grown.refl _⟩
  have nb : a2.size ≤ 1048576 := by omega
  have C1 := hide (zz_word a0 a1 (ByteArray.mk #[117] ++ a2) (size_head _ _) true (by rw [head_append]; decide))
  have C2 := hide (zz_word a0 a1 (ByteArray.mk #[55] ++ a2) (size_head _ _) false (by rw [head_append]; decide))
  have C3 := hide (zz_name a0 a1 a2)
  clear hbig
  by_cases h0 : 0 < a2.size
  · have C4 := hide (zz_word a0 a1 a2 h0 _ rfl)
    have C5 := hide (zz_word a0 a1 (a2.extract 0 1) (size_extract_one a2 h0) (nm a2[0].toNat) (by rw [head_extract a2 h0]))
    generalize nm a2[0].toNat = y at C4 C5
    go_enter Try.func3, Try.ntmps3
    go_wp2_with (go_at_call 4; refine (bytes_any _ _ _ _ nb).mono ?_; rintro e w' ⟨rfl, rfl⟩)
    refine (C1.out _).mono ?_
    rintro e w1 ⟨rfl, g1⟩
    go_wp2_with fail
    refine (C2.out _).mono ?_
    rintro e w2 ⟨rfl, g2⟩
    go_wp2_with fail
    refine (C3.out _).mono ?_
    rintro e w3 ⟨rfl, g3⟩
    go_wp2_with fail
    refine (C4.out _).mono ?_
    rintro e w4 ⟨rfl, g4⟩
    go_wp2_with fail
    refine (C5.out _).mono ?_
    rintro e w5 ⟨rfl, g5⟩
    go_wp2
    go_ret
    exact ⟨rfl, grown_trans (grown_trans (grown_trans (grown_trans g1 g2) g3) g4) g5⟩
  · go_enter Try.func3, Try.ntmps3
    go_wp2_with (go_at_call 4; refine (bytes_any _ _ _ _ nb).mono ?_; rintro e w' ⟨rfl, rfl⟩)
    refine (C1.out _).mono ?_
    rintro e w1 ⟨rfl, g1⟩
    go_wp2_with fail
    refine (C2.out _).mono ?_
    rintro e w2 ⟨rfl, g2⟩
    go_wp2_with fail
    refine (C3.out _).mono ?_
    rintro e w3 ⟨rfl, g3⟩
    go_wp2
    go_ret
    exact ⟨rfl, grown_trans (grown_trans g1 g2) g3⟩

/-! ### THE ROW's STEP: WRITTEN OUT: LEAVE IT -/
set_option maxRecDepth 100000 in
theorem lifted (os : Os) (started : os.Started) (H : Type) (enc : TypeId × Value → H) :
    ReturnsInHanded {} Try.checked os 3 .any (Rows.fnSQLTokenIsNameFirstByteSpec.pre6 enc Try.prog Try.f3 Rows.fnSQLTokenIsNameFirstByteRow.domain false) (Rows.fnSQLTokenIsNameFirstByteSpec.post enc Try.prog Try.f3 false true false false) := by
  refine returnsInHanded_of_change (C := Try.checked) own started (by kernel_rfl) Try.func3
    (ChangeSpec.witness6 (enc := enc) (C := Try.checked) false ⟨#[], #[.int .i64 0, .int .i64 0, .string ByteArray.empty], []⟩ 8 (by kernel_rfl) (by kernel_rfl) (by kernel_rfl) (by kernel_rfl)) ?_
  intro W base args ds gs before hval0 hW hcnd _
  have hval : ∀ (j : Nat) t v, Try.f3.params[j]? = some t → args[j]? = some v → Value.okWide Try.prog W .any base t v := hval0
  have hW' := hW
  obtain ⟨p, q, hA0, hV, rfl, hfz, hnd⟩ := hW
  have hA : DataW.TrodAll enc Try.prog W 0 (fun _ => true) true Try.f3.params.toList args.toList ds p := hA0
  rw [Try.params3] at hA hval
  obtain ⟨v0, vs0, d0, ds0, p0, q0, hargs, rfl, rfl, h0, r0⟩ := trodAll_cons hA
  obtain ⟨v1, vs1, d1, ds1, p1, q1, rfl, rfl, rfl, h1, r1⟩ := trodAll_cons r0
  obtain ⟨v2, vs2, d2, ds2, p2, q2, rfl, rfl, rfl, h2, r2⟩ := trodAll_cons r1
  obtain ⟨rfl, rfl, rfl⟩ := trodAll_nil r2
  obtain rfl : args = #[v0, v1, v2] := by cases args; simp_all
  obtain ⟨rfl, rfl⟩ := trodVars_none hV
  obtain ⟨a0, rfl, rfl, rfl, w0⟩ := open_int Try.underlying3 (hval 0 3 v0 rfl rfl) h0
  obtain ⟨a1, rfl, rfl, rfl, w1⟩ := open_int Try.underlying3 (hval 1 3 v1 rfl rfl) h1
  obtain ⟨a2, rfl, rfl, rfl, w2⟩ := open_string Try.underlying9 (hval 2 9 v2 rfl rfl) h2
  clear hA0 hval0
  simp only [List.append_nil] at hW'
  refine (walk a0 a1 a2 w0 w1 w2 W).mono fun e W' ⟨he, hg⟩ => ?_
  subst he
  exact ⟨_, rfl, post_of_same (pa := []) (pv := []) hW' (fun _ _ _ => (trodAll_cons_mk (shut_bool Try.underlying4 _) trodAll_mk0)) (fun sp _ => (trodAll_cons_mk (shut_int Try.underlying3 w0) (trodAll_cons_mk (shut_int Try.underlying3 w1) (trodAll_cons_mk (shut_string Try.underlying9 w2) trodAll_mk0)))) (fun _ _ => rfl) rfl
    (hg.frame _) hg.2.1 (ok_one (by kernel_rfl) rfl (okWide_bool_mk Try.underlying4 _))⟩

theorem over : Rows.fnSQLTokenIsNameFirstByteRow.holds Try.pinned (OpenSpec.ofChange Rows.fnSQLTokenIsNameFirstByteSpec) :=
  OpenClaim.holds_of_wide 3 Try.f3 rfl rfl rfl rfl rfl rfl rfl ⟨rfl, rfl, rfl, rfl, rfl⟩ rfl rfl rfl rfl rfl (by kernel_rfl) Try.func3 (by kernel_rfl)
    (of_decide_eq_true (by kernel_rfl)) (by unfold Func.isWrapper; first | (rw [if_pos (by decide +kernel)]; kernel_rfl) | (rw [if_neg (by decide +kernel)]; exact ⟨rfl, rfl⟩))
    (fun os started H enc _ => lifted os started H enc)

/-- THE STATEMENT -/
theorem proved : Rows.FnSQLTokenIsNameFirstByteSaid :=
  over
#print axioms proved
end Go.Proofs.Qxb6605766a.fnSQLTokenIsNameFirstByte
