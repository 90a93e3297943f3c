import Derived.Test.Qxb6003230aHp4
import Derived.Test.Qxb6003230aHpL1
namespace Go.Proofs.Qxb6003230a.Hp
open Go.RowKit

set_option maxHeartbeats 1000000 in
/-- zzSameList of two rows that hold the same events. -/
theorem same_any (g1 g2 n c1 c2 : Nat) (l : List E) (w : World) (hn : n ≤ 8192) (hl : l.length = n) (h1 : Row w 35 g1 c1 l) (h2 : Row w 35 g2 c2 l) :
    Calls Try.prog 14 #[.slice (some ⟨g1, 0, none⟩) n c1, .slice (some ⟨g2, 0, none⟩) n c2] w fun e w' => e = .returned (.bool true) ∧ Below w.heap.size w w' := by
  have HL : Hid (l.length = n) := hl
  clear hl
  go_enter Try.func14, Try.ntmps14
  go_wp2
  go_loopw [5] (fun i wr => ∃ k : Nat, k ≤ n ∧ i = .int .i64 k ∧ Below w.heap.size w wr) (fun i _ => n - (intOf i).toNat)
  case atStart => exact ⟨0, Nat.zero_le _, rfl, Below.refl _ _⟩
  case round =>
    obtain ⟨k, hk, rfl, hnx⟩ := hrel
    by_cases hlt : k < n
    · have hkl : k < l.length := by rw [HL.out]; exact hlt
      obtain ⟨p0, p1, p2, p3, p4, p5, p6⟩ := (h1.later hnx).at k hkl
      obtain ⟨q0, q1, q2, q3, q4, q5, q6⟩ := (h2.later hnx).at k hkl
      have b1 : (k : Int) < (n : Int) := by omega
      generalize l[k] = e at *
      go_wp2
      go_quiet (fail)
      have hnx2 : Below w.heap.size w (wr.drewN nq) := below_drewN hnx nq
      go_wp2
      go_roundw
      case rel => exact ⟨k + 1, by omega, by go_num, hnx2⟩
      case measure => simp [intOf]; omega
    · go_wp2
      go_ret
      exact ⟨rfl, hnx⟩
end Go.Proofs.Qxb6003230a.Hp
