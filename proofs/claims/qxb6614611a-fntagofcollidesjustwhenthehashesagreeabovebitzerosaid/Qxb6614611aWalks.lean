import Derived.Test.Qxb6614611aRows
import Derived.WalkKit
import Derived.WalkSpells
import Derived.ProofKit
import Derived.RowKit3
import Derived.Below
import Derived.Laws.BitsAllLaws
import Derived.Laws.BitsLemmas
namespace Go.Proofs.Qxb6614611a
open Go.RowKit

/-- A fact kept from the walk's simp. -/
theorem hide {p : Prop} (h : p) : Hid p := h

theorem ret_bool {a b : Bool} (h : a = b) : Ending.returned (.bool a) = .returned (.bool b) := by rw [h]

/-- The tag of a hash: the least odd number at or above its low 32 bits. -/
def tag (h : Int) : Int := h % 4294967296 / 2 * 2 + 1

theorem nat_or_one (x : Nat) : x ||| 1 = x / 2 * 2 + 1 := by
  apply Nat.eq_of_testBit_eq
  intro i
  cases i with
  | zero => simp
  | succ i => rw [Nat.testBit_or, Nat.testBit_succ, Nat.testBit_succ, Nat.testBit_succ, show (x / 2 * 2 + 1) / 2 = x / 2 from by omega, show 1 / 2 = 0 from rfl, Nat.zero_testBit, Bool.or_false]
theorem or_one (h : Int) : bits .or .u32 (h % 4294967296) 1 = tag h := by
  rw [u32_or (h % 4294967296) 1 (by omega) (by omega) (by omega) (by omega)]
  unfold tag
  rw [show (1 : Int).toNat = 1 from rfl, nat_or_one]
  omega
theorem tag_and (h : Int) : bits .and .u32 (tag h) 1 = 1 := by
  unfold tag
  rw [u32_and _ 1 (by omega) (by omega) (by omega) (by omega), show (1 : Int).toNat = 1 from rfl, Nat.and_one_is_mod]
  omega

theorem tagOf_any (h : Int) (w : World) : Calls Try.prog 13 #[.int .u64 h] w fun e w' => e = .returned (.int .u32 (tag h)) ∧ w = w' := by
  have hx := or_one h
  go_enter Try.func13, Try.ntmps13
  go_wp2
  go_ret
  exact ⟨rfl, rfl⟩
theorem zztagOf_any (h : Int) (w : World) : Calls Try.prog 7 #[.int .u64 h] w fun e w' => e = .returned (.int .u32 (tag h)) ∧ w = w' := by
  go_enter Try.func7, Try.ntmps7
  go_wp2_with (go_at_call 13; refine (tagOf_any _ _).mono ?_; rintro e w' ⟨rfl, rfl⟩)
  go_ret
  exact ⟨rfl, rfl⟩

theorem tag_eq (h g : Int) : (tag h == tag g) = (h % 4294967296 / 2 == g % 4294967296 / 2) := by
  unfold tag
  rw [Bool.eq_iff_iff]
  simp
  omega
theorem tag_lo (h : Int) : h % 4294967296 ≤ tag h ∧ tag h ≤ h % 4294967296 + 1 ∧ 0 ≤ tag h ∧ tag h < 4294967296 := by unfold tag; omega
theorem tag_tag (h : Int) : tag (tag h) = tag h := by unfold tag; omega
theorem wrapsU64 (n : Int) (h₀ : 0 ≤ n) (h₁ : n < 2 ^ 64) : IntKind.u64.wrap n = n := by
  simp [IntKind.wrap, IntKind.bits, IntKind.signed]
  omega
/-- The high half is not looked at. -/
theorem tag_high (h g : Int) (h0 : 0 ≤ g) (h1 : g ≤ 4294967295) : tag (bits .or .u64 (g * 4294967296) (h % 4294967296)) = tag h := by
  rw [bits_join .u64 64 (by decide) wrapsU64 32 (g * 4294967296) (h % 4294967296) (by omega) (by omega) (by omega) (by omega) (by omega) (by omega)]
  unfold tag
  omega
end Go.Proofs.Qxb6614611a
