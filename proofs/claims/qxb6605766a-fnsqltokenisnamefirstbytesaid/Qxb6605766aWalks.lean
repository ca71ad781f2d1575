import Derived.Test.Qxb6605766aRows
import Derived.WalkKit
import Derived.WalkSpells
import Derived.WalkLawsBesides
import Derived.ProofKit
import Derived.RowKit3
import Derived.Below
namespace Go.Proofs.Qxb6605766a
open Go.RowKit

/-- A fact kept from the walk's simp. -/
theorem hide {p : Prop} (h : p) : Hid p := h
theorem grown_trans {a b c : World} (h : Grown a b) (k : Grown b c) : Grown a c :=
  ⟨World.keptBut_trans h.1 k.1, fun x => (k.2.1 x).trans (h.2.1 x), Nat.le_trans h.2.2 k.2.2⟩

/-- Is the byte no digit? -/
def nm (c : Nat) : Bool := decide (c < 48) || decide (57 < c)

set_option maxHeartbeats 400000 in
theorem isName_name (s e : Int) (t : ByteArray) (w : World) :
    Calls Try.prog 6 #[.agg #[.int .i64 2, .int .i64 s, .int .i64 e, .string t]] w fun r w' => r = .returned (.bool true) ∧ Grown w w' := by
  go_enter Try.func6, Try.ntmps6
  go_wp2
  go_ret
  exact ⟨rfl, (Grown.refl _).alloc _ _⟩

theorem nm_int (c : Nat) : (decide ((c : Int) < 48) || decide ((57 : Int) < (c : Int))) = nm c := by
  rw [Bool.eq_iff_iff]
  simp [nm]
  omega
theorem ret_bool {a b : Bool} (h : a = b) : Ending.returned (.bool a) = .returned (.bool b) := by rw [h]

set_option maxHeartbeats 400000 in
theorem isName_word (s e : Int) (t : ByteArray) (ht : 0 < t.size) (w : World) :
    Calls Try.prog 6 #[.agg #[.int .i64 1, .int .i64 s, .int .i64 e, .string t]] w fun r w' => r = .returned (.bool (nm t[0].toNat)) ∧ Grown w w' := by
  by_cases h1 : t[0].toNat < 48
  · have hv : nm t[0].toNat = true := by simp [nm, h1]
    rw [hv]
    go_enter Try.func6, Try.ntmps6
    go_wp2
    go_ret
    exact ⟨rfl, (Grown.refl _).alloc _ _⟩
  · go_enter Try.func6, Try.ntmps6
    go_wp2
    go_ret
    exact ⟨ret_bool (nm_int _), (Grown.refl _).alloc _ _⟩

theorem zz_name (s e : Int) (t : ByteArray) (w : World) :
    Calls Try.prog 5 #[.int .i64 2, .int .i64 s, .int .i64 e, .string t] w fun r w' => r = .returned (.bool true) ∧ Grown w w' := by
  go_enter Try.func5, Try.ntmps5
  go_wp2_with (go_at_call 6; refine (isName_name _ _ _ _).mono ?_; rintro r w' ⟨rfl, hg⟩)
  go_ret
  exact ⟨rfl, by assumption⟩
theorem zz_word (s e : Int) (t : ByteArray) (ht : 0 < t.size) (b : Bool) (hb : nm t[0].toNat = b) (w : World) :
    Calls Try.prog 5 #[.int .i64 1, .int .i64 s, .int .i64 e, .string t] w fun r w' => r = .returned (.bool b) ∧ Grown w w' := by
  have C := isName_word s e t ht
  rw [hb] at C
  have D := hide C
  clear C hb
  go_enter Try.func5, Try.ntmps5
  go_wp2_with (go_at_call 6; refine (D.out _).mono ?_; rintro r w' ⟨rfl, hg⟩)
  go_ret
  exact ⟨rfl, by assumption⟩

theorem head_append (x : UInt8) (t : ByteArray) (h : 0 < ((ByteArray.mk #[x]) ++ t).size) : ((ByteArray.mk #[x]) ++ t)[0] = x := by
  rw [ByteArray.getElem_append_left (show 0 < (ByteArray.mk #[x]).size from Nat.zero_lt_one)]
  rfl
theorem size_head (x : UInt8) (t : ByteArray) : 0 < ((ByteArray.mk #[x]) ++ t).size := by
  rw [ByteArray.size_append]
  exact Nat.lt_of_lt_of_le Nat.zero_lt_one (Nat.le_add_right 1 t.size)
theorem head_extract (t : ByteArray) (ht : 0 < t.size) (h : 0 < (t.extract 0 1).size) : (t.extract 0 1)[0] = t[0] := by
  rw [ByteArray.getElem_extract]
theorem size_extract_one (t : ByteArray) (ht : 0 < t.size) : 0 < (t.extract 0 1).size := by
  rw [ByteArray.size_extract]; omega

theorem bytes_any (s e : Int) (t : ByteArray) (w : World) (ht : t.size ≤ 1048576) :
    Calls Try.prog 4 #[.int .i64 s, .int .i64 e, .string t] w fun r w' => r = .returned (.bool true) ∧ w = w' := by
  go_enter Try.func4, Try.ntmps4
  go_wp2
  go_ret
  exact ⟨rfl, rfl⟩
end Go.Proofs.Qxb6605766a
