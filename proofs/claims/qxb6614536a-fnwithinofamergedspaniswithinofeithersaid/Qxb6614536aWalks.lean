import Derived.Test.Qxb6614536aRows
import Derived.WalkKit
import Derived.WalkSpells
import Derived.ProofKit
import Derived.RowKit3
import Derived.Below
import Derived.Deep.QuietTactic
import Derived.BigQuiet
import Derived.Laws.Pointers
namespace Go.Proofs.Qxb6614536a
open Go.RowKit

/-- A fact kept from the walk's simp. -/
theorem hide {p : Prop} (h : p) : Hid p := h

theorem grown_trans {a b c : World} (h : Grown a b) (k : Grown b c) : Grown a c :=
  ⟨World.keptBut_trans h.1 k.1, fun x => (k.2.1 x).trans (h.2.1 x), Nat.le_trans h.2.2 k.2.2⟩
theorem grown_drewN {a b : World} (h : Grown a b) (n : Nat) : Grown a (b.drewN n) := h

/-- What 'within' answers. -/
def wi (b a m e l s : Int) : Bool := decide (e < b) || decide (a < l) || (bits .and .u64 m s != 0)

theorem ret_bool {a b : Bool} (h : a = b) : Ending.returned (.bool a) = .returned (.bool b) := by rw [h]

set_option maxHeartbeats 1000000 in
theorem within_any (g : Nat) (b a m e l s : Int) (w : World) (h0 : w.cell? ⟨g, 0, none⟩ = some (.int .i64 b)) (h1 : w.cell? ⟨g, 1, none⟩ = some (.int .i64 a)) (h2 : w.cell? ⟨g, 2, none⟩ = some (.int .u64 m)) :
    Calls Try.prog 6 #[.pointer (some ⟨g, 0, none⟩), .agg #[.int .i64 e, .int .i64 l, .int .u64 s]] w fun r w' => r = .returned (.bool (wi b a m e l s)) ∧ Grown w w' := by
  have hg : g < w.heap.size := World.block_lt_of_cell? (a := ⟨g, 0, none⟩) (w := w) h0
  by_cases c1 : e < b
  · have hd : decide (e < b) = true := decide_eq_true c1
    have hv : wi b a m e l s = true := by simp [wi, c1]
    rw [hv]
    go_enter Try.func6, Try.ntmps6
    go_wp2
    go_quiet (fail)
    go_wp2
    go_ret
    exact ⟨rfl, grown_drewN ((Grown.refl _).alloc _ _) _⟩
  · have hd : decide (e < b) = false := decide_eq_false c1
    by_cases c2 : a < l
    · have hd2 : decide (a < l) = true := decide_eq_true c2
      have hv : wi b a m e l s = true := by simp [wi, c2]
      rw [hv]
      go_enter Try.func6, Try.ntmps6
      go_wp2
      go_quiet (fail)
      go_wp2
      go_ret
      exact ⟨rfl, grown_drewN ((Grown.refl _).alloc _ _) _⟩
    · have hd2 : decide (a < l) = false := decide_eq_false c2
      have hv : wi b a m e l s = (bits .and .u64 m s != 0) := by simp [wi, c1, c2]
      rw [hv]
      go_enter Try.func6, Try.ntmps6
      go_wp2
      go_quiet (fail)
      go_wp2
      go_ret
      exact ⟨rfl, grown_drewN ((Grown.refl _).alloc _ _) _⟩

set_option maxHeartbeats 1000000 in
theorem zzwithin_any (b a m e l s : Int) (w : World) :
    Calls Try.prog 5 #[.int .i64 b, .int .i64 a, .int .u64 m, .int .i64 e, .int .i64 l, .int .u64 s] w fun r w' => r = .returned (.bool (wi b a m e l s)) ∧ Grown w w' := by
  go_enter Try.func5, Try.ntmps5
  go_wp2_with (go_at_call 6; refine (within_any _ b a m e l s _ (by simp [go_sem]) (by simp [go_sem]) (by simp [go_sem])).mono ?_; rintro r w' ⟨rfl, hg⟩)
  go_ret
  exact ⟨rfl, grown_trans ((Grown.refl _).alloc _ _) (by assumption)⟩

/-! ### The plain laws on 64 bits -/
theorem wrap_toNat (v : BitVec 64) : IntKind.u64.wrap (v.toNat : Int) = v.toNat := by
  have := v.isLt
  simp [IntKind.wrap, IntKind.bits, IntKind.signed]
  omega
theorem ofInt_back (v : BitVec 64) : BitVec.ofInt 64 (v.toNat : Int) = v := by simp
theorem and_u64 (x y : Int) : bits .and .u64 x y = ((BitVec.ofInt 64 x &&& BitVec.ofInt 64 y).toNat : Int) := wrap_toNat _
theorem or_u64 (x y : Int) : bits .or .u64 x y = ((BitVec.ofInt 64 x ||| BitVec.ofInt 64 y).toNat : Int) := wrap_toNat _
theorem xor_u64 (x y : Int) : bits .xor .u64 x y = ((BitVec.ofInt 64 x ^^^ BitVec.ofInt 64 y).toNat : Int) := wrap_toNat _
theorem max_u64 : BitVec.ofInt 64 IntKind.u64.max = BitVec.allOnes 64 := by decide

/-- What the among does not ask about meets none of its modes. -/
theorem and_rest (m : Int) : bits .and .u64 m (bits .xor .u64 IntKind.u64.max m) = 0 := by
  rw [and_u64, xor_u64, ofInt_back, max_u64, BitVec.allOnes_xor]
  generalize BitVec.ofInt 64 m = M
  have h : M &&& ~~~M = 0#64 := by ext i hi; simp
  rw [h]; rfl

/-- With one mode more, it meets just that. -/
theorem and_rest_one (m o : Int) : bits .and .u64 m (bits .or .u64 (bits .xor .u64 IntKind.u64.max m) o) = bits .and .u64 m o := by
  rw [and_u64, or_u64, xor_u64, ofInt_back, ofInt_back, max_u64, BitVec.allOnes_xor, and_u64]
  generalize BitVec.ofInt 64 m = M
  generalize BitVec.ofInt 64 o = O
  have h : M &&& (~~~M ||| O) = M &&& O := by
    ext i hi
    simp
    cases M[i] <;> simp
  rw [h]

/-- The union of two sets of modes meets m just when one of the two does. -/
theorem and_union (m s t : Int) : (bits .and .u64 m (bits .or .u64 s t) != 0) = ((bits .and .u64 m s != 0) || (bits .and .u64 m t != 0)) := by
  rw [and_u64, or_u64, ofInt_back, and_u64, and_u64]
  generalize BitVec.ofInt 64 m = M
  generalize BitVec.ofInt 64 s = S
  generalize BitVec.ofInt 64 t = T
  have z : ∀ X : BitVec 64, ((X.toNat : Int) != 0) = (X != 0#64) := by
    intro X
    rw [Bool.eq_iff_iff]
    simp [BitVec.toNat_eq]
  have h : M &&& (S ||| T) = (M &&& S) ||| (M &&& T) := by
    ext i hi
    simp
    cases M[i] <;> simp
  rw [z, z, z, h]
  generalize M &&& S = A
  generalize M &&& T = B
  rw [Bool.eq_iff_iff]
  by_cases hA : A = 0#64 <;> simp [hA]
end Go.Proofs.Qxb6614536a
