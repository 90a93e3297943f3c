import Derived.Test.Qxb6003459aDg1
namespace Go.Proofs.Qxb6003459a.Dg
open Go.RowKit

theorem law_match (c : Int) (h0 : 0 ≤ c) (h1 : c ≤ 255) (w : World) : Calls Try.prog 3 #[.int .u8 c] w fun e w' => e = .returned (.bool true) ∧ w' = w := by
  go_enter Try.func3, Try.ntmps3
  go_wp2_with (first | (go_at_call 6; refine (zz_any c h0 h1 _).mono ?_; rintro e w' ⟨rfl, rfl⟩) | (go_at_call 7; refine (alpha_any c h0 h1 _).mono ?_; rintro e w' ⟨rfl, rfl⟩))
  go_ret
  exact ⟨ret_bool (by simp), rfl⟩

theorem law_writer_out (d : Int) (u : Bool) (h : d < 0 ∨ 35 < d) (w : World) : Calls Try.prog 4 #[.int .i64 d, .bool u] w fun e w' => e = .returned (.bool true) ∧ w' = w := by
  rcases h with h | h
  · go_enter Try.func4, Try.ntmps4
    go_wp2
    go_ret
    exact ⟨rfl, rfl⟩
  · have h' : ¬ d < 0 := by omega
    go_enter Try.func4, Try.ntmps4
    go_wp2
    go_ret
    exact ⟨rfl, rfl⟩

theorem lo_bound (k : Nat) (h : k < 36) : 0 ≤ lo k ∧ lo k ≤ 255 := by unfold lo; split <;> omega
theorem up_bound (k : Nat) (h : k < 36) : 0 ≤ up k ∧ up k ≤ 255 := by unfold up; split <;> omega

theorem law_writer (k : Nat) (u : Bool) (h : k < 36) (w : World) : Calls Try.prog 4 #[.int .i64 k, .bool u] w fun e w' => e = .returned (.bool true) ∧ w' = w := by
  have e1 := low_at k h
  have e2 := up_at k h
  have h35 : (k : Int) < 36 := by omega
  have hl := lo_bound k h
  have hu := up_bound k h
  have dl := dv_lo k h
  have du := dv_up k h
  cases u
  · go_enter Try.func4, Try.ntmps4
    go_wp2_with (go_at_call 6; refine (zz_any (lo k) hl.1 hl.2 _).mono ?_; rintro e w' ⟨rfl, rfl⟩)
    go_ret
    exact ⟨ret_bool (by simp), rfl⟩
  · go_enter Try.func4, Try.ntmps4
    go_wp2_with (go_at_call 6; refine (zz_any (up k) hu.1 hu.2 _).mono ?_; rintro e w' ⟨rfl, rfl⟩)
    go_ret
    exact ⟨ret_bool (by simp), rfl⟩

/-! ### counting -/
def dvN (c : Nat) : Nat := if 48 ≤ c ∧ c ≤ 57 then c - 48 else if 97 ≤ c ∧ c ≤ 122 then c - 97 + 10 else if 65 ≤ c ∧ c ≤ 90 then c - 65 + 10 else 36
theorem dvN_eq (c : Nat) : dv (c : Int) = (dvN c : Int) := by
  unfold dv dvN
  by_cases a : 48 ≤ c ∧ c ≤ 57
  · rw [if_pos (by omega), if_pos a]; omega
  rw [if_neg (by omega), if_neg a]
  by_cases b : 97 ≤ c ∧ c ≤ 122
  · rw [if_pos (by omega), if_pos b]; omega
  rw [if_neg (by omega), if_neg b]
  by_cases d : 65 ≤ c ∧ c ≤ 90
  · rw [if_pos (by omega), if_pos d]; omega
  rw [if_neg (by omega), if_neg d]; rfl
/-- How many of the first k bytes are digits below b. -/
def cnt (b : Nat) : Nat → Nat
  | 0 => 0
  | k + 1 => cnt b k + (if dvN k < b then 1 else 0)
theorem cnt_le (b k : Nat) : cnt b k ≤ k := by
  induction k with
  | zero => simp [cnt]
  | succ k ih => unfold cnt; split <;> omega
theorem cnt_all : ∀ b : Fin 37, cnt b.val 256 = if 10 < b.val then 10 + 2 * (b.val - 10) else b.val := by decide +kernel

theorem law_base_out (b : Int) (h : b < 0 ∨ 36 < b) (w : World) : Calls Try.prog 5 #[.int .i64 b] w fun e w' => e = .returned (.bool true) ∧ w' = w := by
  rcases h with h | h
  · go_enter Try.func5, Try.ntmps5
    go_wp2
    go_ret
    exact ⟨rfl, rfl⟩
  · have h' : ¬ b < 0 := by omega
    go_enter Try.func5, Try.ntmps5
    go_wp2
    go_ret
    exact ⟨rfl, rfl⟩

set_option maxHeartbeats 1000000 in
set_option maxRecDepth 100000 in
theorem law_base (b : Nat) (h : b ≤ 36) (w : World) : Calls Try.prog 5 #[.int .i64 b] w fun e w' => e = .returned (.bool true) ∧ w' = w := by
  have h36 : (b : Int) ≤ 36 := by omega
  go_enter Try.func5, Try.ntmps5
  go_wp2
  go_loop [3, 4, 5] (fun n i _ => ∃ k : Nat, k ≤ 256 ∧ i = .int .i64 k ∧ n = .int .i64 (cnt b k : Nat)) (fun _ i _ => 256 - (intOf i).toNat)
  case atStart => exact ⟨0, by omega, rfl, rfl⟩
  case round =>
    obtain ⟨k, hk, rfl, rfl⟩ := hrel
    have hc := cnt_le b k
    by_cases hlt : k < 256
    · have hd := dvN_eq k
      have hb := dv_bound (k : Int)
      have HS : Hid (cnt b (k + 1) = cnt b k + (if dvN k < b then 1 else 0)) := rfl
      have hz := zz_any (k : Int) (by omega) (by omega)
      rw [hd] at hz hb
      have hd1 : dvN k ≤ 36 := by omega
      clear hd hb
      have hkI : (k : Int) < 256 := by omega
      by_cases hv : dvN k < b
      · have HS2 : Hid (cnt b (k + 1) = cnt b k + 1) := by have := HS.out; rw [if_pos hv] at this; exact this
        go_wp2_with (go_at_call 6; refine (hz _).mono ?_; rintro e w' ⟨rfl, rfl⟩)
        go_round
        case rel => exact ⟨k + 1, by omega, by go_num, by rw [HS2.out]; go_num⟩
        case measure => simp [intOf]; omega
      · have HS2 : Hid (cnt b (k + 1) = cnt b k) := by have := HS.out; rw [if_neg hv] at this; exact this
        go_wp2_with (go_at_call 6; refine (hz _).mono ?_; rintro e w' ⟨rfl, rfl⟩)
        go_round
        case rel => exact ⟨k + 1, by omega, by go_num, by rw [HS2.out]⟩
        case measure => simp [intOf]; omega
    · obtain rfl : k = 256 := by omega
      have HC : Hid (cnt b 256 = if 10 < b then 10 + 2 * (b - 10) else b) := cnt_all ⟨b, by omega⟩
      generalize cnt b 256 = q at *
      by_cases h10 : 10 < b
      · have hq : (q : Int) = 10 + 2 * ((b : Int) - 10) := by have := HC.out; rw [if_pos h10] at this; omega
        have h10' : (10 : Int) < b := by omega
        go_wp2
        go_ret
        exact ⟨ret_bool (by simp), rfl⟩
      · have hq : (q : Int) = b := by have := HC.out; rw [if_neg h10] at this; omega
        have h10' : ¬ (10 : Int) < b := by omega
        go_wp2
        go_ret
        exact ⟨ret_bool (by simp), rfl⟩
end Go.Proofs.Qxb6003459a.Dg
