import Derived.Test.Qxb6003459aRows
import Derived.WalkKit
import Derived.WalkSpells
import Derived.WalkLawsBesides
import Derived.RowKit3
namespace Go.Proofs.Qxb6003459a.Dg
open Go.RowKit

/-- The value of c as a digit. -/
def dv (c : Int) : Int := if 48 ≤ c ∧ c ≤ 57 then c - 48 else if 97 ≤ c ∧ c ≤ 122 then c - 97 + 10 else if 65 ≤ c ∧ c ≤ 90 then c - 65 + 10 else 36
theorem dv_bound (c : Int) : 0 ≤ dv c ∧ dv c ≤ 36 := by unfold dv; split <;> (try split) <;> (try split) <;> omega

theorem ret_int {k : IntKind} {a b : Int} (h : a = b) : Ending.returned (.int k a) = .returned (.int k b) := by rw [h]
theorem ret_bool {a b : Bool} (h : a = b) : Ending.returned (.bool a) = .returned (.bool b) := by rw [h]

theorem dig_any (c : Int) (h0 : 0 ≤ c) (h1 : c ≤ 255) (w : World) : Calls Try.prog 8 #[.int .u8 c] w fun e w' => e = .returned (.int .i64 (dv c)) ∧ w' = w := by
  by_cases a : 48 ≤ c ∧ c ≤ 57
  · obtain ⟨a1, a2⟩ := a
    have hv : dv c = c - 48 := by unfold dv; rw [if_pos ⟨a1, a2⟩]
    rw [hv]
    clear hv
    go_enter Try.func8, Try.ntmps8
    go_wp2
    go_ret
    exact ⟨rfl, rfl⟩
  by_cases b : 97 ≤ c ∧ c ≤ 122
  · obtain ⟨b1, b2⟩ := b
    have hv : dv c = c - 97 + 10 := by unfold dv; rw [if_neg a, if_pos ⟨b1, b2⟩]
    rw [hv]
    clear hv a
    have z : ¬ c ≤ 57 := by omega
    have z2 : 48 ≤ c := by omega
    go_enter Try.func8, Try.ntmps8
    go_wp2
    go_ret
    exact ⟨rfl, rfl⟩
  by_cases d : 65 ≤ c ∧ c ≤ 90
  · obtain ⟨d1, d2⟩ := d
    have hv : dv c = c - 65 + 10 := by unfold dv; rw [if_neg a, if_neg b, if_pos ⟨d1, d2⟩]
    rw [hv]
    clear hv a b
    have z : ¬ c ≤ 57 := by omega
    have z2 : 48 ≤ c := by omega
    have z3 : ¬ 97 ≤ c := by omega
    go_enter Try.func8, Try.ntmps8
    go_wp2
    go_ret
    exact ⟨rfl, rfl⟩
  have hv : dv c = 36 := by unfold dv; rw [if_neg a, if_neg b, if_neg d]
  rw [hv]
  clear hv
  have A : Hid (¬ (48 ≤ c ∧ c ≤ 57)) := a
  have B : Hid (¬ (97 ≤ c ∧ c ≤ 122)) := b
  have D : Hid (¬ (65 ≤ c ∧ c ≤ 90)) := d
  have parts : c < 48 ∨ (58 ≤ c ∧ c < 65) ∨ (91 ≤ c ∧ c < 97) ∨ 123 ≤ c := by omega
  clear a b d
  rcases parts with p | ⟨p, p2⟩ | ⟨p, p2⟩ | p
  all_goals
    go_enter Try.func8, Try.ntmps8
    go_wp2
    go_ret
    exact ⟨rfl, rfl⟩

theorem zz_any (c : Int) (h0 : 0 ≤ c) (h1 : c ≤ 255) (w : World) : Calls Try.prog 6 #[.int .u8 c] w fun e w' => e = .returned (.int .i64 (dv c)) ∧ w' = w := by
  go_enter Try.func6, Try.ntmps6
  go_wp2_with (go_at_call 8; refine (dig_any c h0 h1 _).mono ?_; rintro e w' ⟨rfl, rfl⟩)
  go_ret
  exact ⟨rfl, rfl⟩

/-! ### the two alphabets -/
def lo (k : Nat) : Int := if k < 10 then 48 + k else 87 + k
def up (k : Nat) : Int := if k < 10 then 48 + k else 55 + k
theorem dv_lo (k : Nat) (h : k < 36) : dv (lo k) = k := by
  unfold lo dv; split
  · rw [if_pos (by omega)]; omega
  · rw [if_neg (by omega), if_pos (by omega)]; omega
theorem dv_up (k : Nat) (h : k < 36) : dv (up k) = k := by
  unfold up dv; split
  · rw [if_pos (by omega)]; omega
  · rw [if_neg (by omega), if_neg (by omega), if_pos (by omega)]; omega
theorem dv_none (c : Int) (h : ∀ j : Nat, j < 36 → lo j ≠ c ∧ up j ≠ c) : dv c = 36 := by
  unfold dv
  rw [if_neg, if_neg, if_neg]
  · intro hc
    have := (h (c - 55).toNat (by omega)).2
    unfold up at this; rw [if_neg (by omega)] at this; omega
  · intro hc
    have := (h (c - 87).toNat (by omega)).1
    unfold lo at this; rw [if_neg (by omega)] at this; omega
  · intro hc
    have := (h (c - 48).toNat (by omega)).1
    unfold lo at this; rw [if_pos (by omega)] at this; omega

theorem low_at (k : Nat) (h : k < 36) : (((({ data := #[48, 49, 50, 51, 52, 53, 54, 55, 56, 57, 97, 98, 99, 100, 101, 102, 103, 104, 105, 106, 107, 108, 109, 110, 111, 112, 113, 114, 115, 116, 117, 118, 119, 120, 121, 122] } : ByteArray)[k]'h).toNat : Nat) : Int) = lo k := by
  have : ∀ k : Fin 36, (((({ data := #[48, 49, 50, 51, 52, 53, 54, 55, 56, 57, 97, 98, 99, 100, 101, 102, 103, 104, 105, 106, 107, 108, 109, 110, 111, 112, 113, 114, 115, 116, 117, 118, 119, 120, 121, 122] } : ByteArray)[k.val]'k.isLt).toNat : Nat) : Int) = lo k.val := by decide
  exact this ⟨k, h⟩
theorem up_at (k : Nat) (h : k < 36) : (((({ data := #[48, 49, 50, 51, 52, 53, 54, 55, 56, 57, 65, 66, 67, 68, 69, 70, 71, 72, 73, 74, 75, 76, 77, 78, 79, 80, 81, 82, 83, 84, 85, 86, 87, 88, 89, 90] } : ByteArray)[k]'h).toNat : Nat) : Int) = up k := by
  have : ∀ k : Fin 36, (((({ data := #[48, 49, 50, 51, 52, 53, 54, 55, 56, 57, 65, 66, 67, 68, 69, 70, 71, 72, 73, 74, 75, 76, 77, 78, 79, 80, 81, 82, 83, 84, 85, 86, 87, 88, 89, 90] } : ByteArray)[k.val]'k.isLt).toNat : Nat) : Int) = up k.val := by decide
  exact this ⟨k, h⟩

theorem alpha_any (c : Int) (h0 : 0 ≤ c) (h1 : c ≤ 255) (w : World) : Calls Try.prog 7 #[.int .u8 c] w fun e w' => e = .returned (.int .i64 (dv c)) ∧ w' = w := by
  go_enter Try.func7, Try.ntmps7
  go_wp2
  go_loop [3] (fun i => ∃ k : Nat, k ≤ 36 ∧ i = .int .i64 k ∧ ∀ j : Nat, j < k → lo j ≠ c ∧ up j ≠ c) (fun i => 36 - (intOf i).toNat)
  case atStart => exact ⟨0, by omega, rfl, fun j hj => by omega⟩
  case round =>
    obtain ⟨k, hk, rfl, hall⟩ := hrel
    have HA : Hid (∀ j : Nat, j < k → lo j ≠ c ∧ up j ≠ c) := hall
    clear hall
    by_cases hlt : k < 36
    · have e1 := low_at k hlt
      have e2 := up_at k hlt
      by_cases c1 : lo k = c
      · subst c1
        have HD : Hid (dv (lo k) = k) := dv_lo k hlt
        clear e2
        go_wp2
        go_ret
        exact ⟨ret_int HD.out.symm, rfl⟩
      · by_cases c2 : up k = c
        · subst c2
          have HD : Hid (dv (up k) = k) := dv_up k hlt
          have c1' : (lo k == up k) = false := by simpa using c1
          go_wp2
          go_ret
          exact ⟨ret_int HD.out.symm, rfl⟩
        · have c1' : (lo k == c) = false := by simpa using c1
          have c2' : (up k == c) = false := by simpa using c2
          go_wp2
          go_round
          case rel => exact ⟨k + 1, by omega, by go_num, fun j hj => by
            rcases Nat.lt_or_ge j k with h | h
            · exact HA.out j h
            · have : j = k := by omega
              subst this; exact ⟨c1, c2⟩⟩
          case measure => simp [intOf]; omega
    · have HD : Hid (dv c = 36) := dv_none c (fun j hj => HA.out j (by omega))
      go_wp2
      go_ret
      exact ⟨ret_int HD.out.symm, rfl⟩
end Go.Proofs.Qxb6003459a.Dg
