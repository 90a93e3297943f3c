import Derived.Test.Qxb6602573aPl1
namespace Go.Proofs.Qxb6602573a.Pl
open Go.RowKit

/-- A plain scalar that began at st stops at i. -/
def ends (s : ByteArray) (i st : Nat) (fl : Bool) : Bool :=
  (brk (ch s i) || (ch s i == 58 && (spc (ch s (i + 1)) || (fl && fli (ch s (i + 1)))))) || ((ch s i == 35 && decide (st < i) && blk (ch s (i - 1))) || (fl && fli (ch s i)))

set_option maxHeartbeats 4000000 in
theorem zzEnds_any (s : ByteArray) (i st : Nat) (fl : Bool) (hs : s.size ≤ 1048576) (hi : i < s.size) (hst : st ≤ 1048576) (w : World) :
    Calls Try.prog 8 #[.string s, .int .i64 i, .int .i64 st, .bool fl] w fun e w' => e = .returned (.bool (ends s i st fl)) ∧ w' = w := by
  have hb := ch_at s
  by_cases h1 : i + 1 < s.size
  · go_enter Try.func8, Try.ntmps8
    go_wp2_with (first | (go_at_call 12; refine (zzIsFlow_any _ _).mono ?_; rintro e w' ⟨rfl, rfl⟩) | (go_at_call 9; refine (zzIsBlank_any _ _).mono ?_; rintro e w' ⟨rfl, rfl⟩))
    all_goals go_ret
    all_goals (refine ⟨ret_bool ?_, rfl⟩; clear hb; first | (simp_all [ends, spc, brk, blk]; done) | (simp_all [ends, spc, brk, blk]; omega))
  · have hn : ch s (i + 1) = 0 := ch_end s (by omega)
    go_enter Try.func8, Try.ntmps8
    go_wp2_with (first | (go_at_call 12; refine (zzIsFlow_any _ _).mono ?_; rintro e w' ⟨rfl, rfl⟩) | (go_at_call 9; refine (zzIsBlank_any _ _).mono ?_; rintro e w' ⟨rfl, rfl⟩))
    all_goals go_ret
    all_goals (refine ⟨ret_bool ?_, rfl⟩; clear hb; first | (simp_all [ends, spc, brk, blk]; done) | (simp_all [ends, spc, brk, blk]; omega))
end Go.Proofs.Qxb6602573a.Pl
