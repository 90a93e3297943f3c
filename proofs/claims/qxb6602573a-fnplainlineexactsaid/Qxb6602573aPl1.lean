import Derived.Test.Qxb6602573aRows
import Derived.WalkKit
import Derived.WalkSpells
import Derived.WalkLawsBesides
import Derived.RowKit3
import Derived.BigQuiet
namespace Go.Proofs.Qxb6602573a.Pl
open Go.RowKit

theorem ret_bool {a b : Bool} (h : a = b) : Ending.returned (.bool a) = .returned (.bool b) := by rw [h]
theorem ret_int {k : IntKind} {a b : Int} (h : a = b) : Ending.returned (.int k a) = .returned (.int k b) := by rw [h]

/-- What stands at place k of s, as a number; past the end: 0. -/
def ch (s : ByteArray) (k : Nat) : Int := (s[k]?).elim 0 fun b => (b.toNat : Int)
theorem ch_at (s : ByteArray) : ∀ (n : Nat) (h : n < s.size), ((s[n]'h).toNat : Int) = ch s n := fun n h => by simp [ch, ByteArray.getElem?_lt' s n h]
theorem ch_end (s : ByteArray) {k : Nat} (h : s.size ≤ k) : ch s k = 0 := by simp [ch, ByteArray.getElem?_ge' s k (by omega)]

def brk (c : Int) : Bool := c == 10 || c == 13
def blk (c : Int) : Bool := c == 32 || c == 9
def spc (c : Int) : Bool := c == 0 || blk c || brk c
def fli (c : Int) : Bool := c == 44 || c == 91 || c == 93 || c == 123 || c == 125

theorem isBreak_any (c : Int) (w : World) : Calls Try.prog 16 #[.int .u8 c] w fun e w' => e = .returned (.bool (brk c)) ∧ w' = w := by
  unfold brk
  go_enter Try.func16, Try.ntmps16
  go_wp2
  all_goals go_ret
  all_goals exact ⟨ret_bool (by simp_all), rfl⟩
theorem isBlank_any (c : Int) (w : World) : Calls Try.prog 20 #[.int .u8 c] w fun e w' => e = .returned (.bool (blk c)) ∧ w' = w := by
  unfold blk
  go_enter Try.func20, Try.ntmps20
  go_wp2
  all_goals go_ret
  all_goals exact ⟨ret_bool (by simp_all), rfl⟩
theorem zzIsBlank_any (c : Int) (w : World) : Calls Try.prog 9 #[.int .u8 c] w fun e w' => e = .returned (.bool (blk c)) ∧ w' = w := by
  unfold blk
  go_enter Try.func9, Try.ntmps9
  go_wp2
  all_goals go_ret
  all_goals exact ⟨ret_bool (by simp_all), rfl⟩
theorem isFlow_any (c : Int) (w : World) : Calls Try.prog 19 #[.int .u8 c] w fun e w' => e = .returned (.bool (fli c)) ∧ w' = w := by
  unfold fli
  go_enter Try.func19, Try.ntmps19
  go_wp2
  all_goals go_ret
  all_goals exact ⟨ret_bool (by simp_all), rfl⟩
theorem zzIsFlow_any (c : Int) (w : World) : Calls Try.prog 12 #[.int .u8 c] w fun e w' => e = .returned (.bool (fli c)) ∧ w' = w := by
  unfold fli
  go_enter Try.func12, Try.ntmps12
  go_wp2
  all_goals go_ret
  all_goals exact ⟨ret_bool (by simp_all), rfl⟩
theorem isSpace_any (c : Int) (w : World) : Calls Try.prog 17 #[.int .u8 c] w fun e w' => e = .returned (.bool (spc c)) ∧ w' = w := by
  unfold spc
  go_enter Try.func17, Try.ntmps17
  go_wp2_with (first | (go_at_call 20; refine (isBlank_any c _).mono ?_; rintro e w' ⟨rfl, rfl⟩) | (go_at_call 16; refine (isBreak_any c _).mono ?_; rintro e w' ⟨rfl, rfl⟩))
  all_goals go_ret
  all_goals exact ⟨ret_bool (by simp_all), rfl⟩
theorem bytes6 (s : ByteArray) (p l q : Int) (f : Bool) (h : s.size ≤ maxLen) (w : World) : Calls Try.prog 6 #[.string s, .int .i64 p, .int .i64 l, .int .i64 q, .bool f] w fun e w' => e = .returned (.bool (decide (s.size ≤ 1048576))) ∧ w' = w := by
  unfold maxLen at h
  go_enter Try.func6, Try.ntmps6
  go_wp2
  all_goals go_ret
  · exact ⟨ret_bool (by simp; omega), rfl⟩
  · exact ⟨ret_bool (by simp; omega), rfl⟩
end Go.Proofs.Qxb6602573a.Pl
