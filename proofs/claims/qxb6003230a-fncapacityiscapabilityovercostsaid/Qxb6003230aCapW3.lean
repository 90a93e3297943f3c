import Derived.Test.Qxb6003230aCapW2
namespace Go.Proofs.Qxb6003230a.Cap
open Go.RowKit

/-- The sum. -/
def sm : List Int → Int
  | [] => 0
  | x :: l => x + sm l
theorem sm_app (l m : List Int) : sm (l ++ m) = sm l + sm m := by
  induction l with
  | nil => simp [sm]
  | cons x l ih => rw [List.cons_append]; simp only [sm]; omega
theorem sm_snoc (l : List Int) (x : Int) : sm (l ++ [x]) = sm l + x := by rw [sm_app]; simp [sm]
theorem sm_nonneg (l : List Int) (h : ∀ x ∈ l, 1 ≤ x) : (l.length : Int) ≤ sm l := by
  induction l with
  | nil => simp [sm]
  | cons x l ih =>
    have := ih (fun y hy => h y (by simp [hy]))
    have hx := h x (by simp)
    simp only [sm, List.length_cons]; omega
theorem sm_le (l : List Int) (h : ∀ x ∈ l, x ≤ 1099511627776) : sm l ≤ 1099511627776 * l.length := by
  induction l with
  | nil => simp [sm]
  | cons x l ih =>
    have := ih (fun y hy => h y (by simp [hy]))
    have hx := h x (by simp)
    simp only [sm, List.length_cons]; omega
theorem sm_take (l : List Int) (k : Nat) (h : k < l.length) : sm (l.take (k + 1)) = sm (l.take k) + l.getD k 0 := by
  rw [List.take_succ_eq_append_getElem h, sm_snoc]; simp [List.getD, h]
theorem sm_prefix (l : List Int) (k : Nat) (h : ∀ x ∈ l, 1 ≤ x) : 0 ≤ sm (l.take k) ∧ sm (l.take k) ≤ sm l := by
  have a := sm_nonneg (l.take k) (fun x hx => h x (List.mem_of_mem_take hx))
  have b := sm_nonneg (l.drop k) (fun x hx => h x (List.mem_of_mem_drop hx))
  have c := sm_app (l.take k) (l.drop k)
  rw [List.take_append_drop] at c
  omega
theorem getD_mem (l : List Int) (k : Nat) (h : k < l.length) : l.getD k 0 ∈ l := by
  simp [List.getD, h]

/-- One round of a sum: what the walk is told. -/
theorem round_sum (l : List Int) (k : Nat) (hk : k < l.length) (h : ∀ x ∈ l, 1 ≤ x) (hs : sm l ≤ 9007199254740992) :
    ∃ s x : Int, sm (l.take k) = s ∧ l.getD k 0 = x ∧ 0 ≤ s ∧ 1 ≤ x ∧ s + x ≤ 9007199254740992 ∧ sm (l.take (k + 1)) = s + x := by
  have a := sm_prefix l k h
  have b := sm_prefix l (k + 1) h
  have c := sm_take l k hk
  have d := h _ (getD_mem l k hk)
  exact ⟨_, _, rfl, rfl, by omega, d, by omega, c⟩

set_option maxHeartbeats 1000000 in
theorem capacity_some (pb : Nat) (g n c2 : Nat) (ks zs : List Int) (b off len cap : Nat) (w : World) (r : Nat)
    (hp : w.cell? ⟨pb, 2, none⟩ = some (.slice (some ⟨b, off, none⟩) len cap)) (hlen : len ≤ 8192) (hn : n ≤ 4097) (hzl : len = zs.length) (hkl : n = ks.length)
    (hcs : ∀ i, i < zs.length → w.cell? ⟨b, off + i, none⟩ = some (.int .i64 (zs.getD i 0)))
    (hck : ∀ i j, i < ks.length → j < 4 → w.cell? ⟨g, i * 4 + j, none⟩ = (conC (ks.getD i 0))[j]?)
    (hk1 : ∀ x ∈ ks, 1 ≤ x) (hz1 : ∀ x ∈ zs, 1 ≤ x) (hks : sm ks ≤ 9007199254740992) (hzs : sm zs ≤ 9007199254740992)
    (hdiv : floatBits .quo .f64 (floatOfInt .f64 (sm ks)) (floatOfInt .f64 (sm zs)) = some r) :
    Calls Try.prog 31 #[.pointer (some ⟨pb, 0, none⟩), .slice (some ⟨g, 0, none⟩) n c2] w fun e w' => e = .returned (.float .f64 r) ∧ Below w.heap.size w w' := by
  have HKL : Hid (n = ks.length) := hkl
  have HZL : Hid (len = zs.length) := hzl
  clear hkl hzl
  have hfl := fun w => run_float_arith (P := Try.prog) w .quo 53 .f64 _ _ r hdiv
  clear hdiv
  go_enter Try.func31, Try.ntmps31
  go_wp2
  go_loopw [5, 13] (fun s i wr => ∃ k : Nat, k ≤ n ∧ i = .int .i64 k ∧ s = .int .i64 (sm (ks.take k)) ∧ Below w.heap.size w wr) (fun _ i _ => n - (intOf i).toNat)
  case atStart => exact ⟨0, Nat.zero_le _, rfl, rfl, Below.refl _ _⟩
  case round =>
    obtain ⟨k, hk, rfl, rfl, hnx⟩ := hrel
    by_cases hlt : k < n
    · have h0 : wr.cell? ⟨g, k * 4, none⟩ = some (.string ByteArray.empty) := cell_later hnx (hck k 0 (by rw [← HKL.out]; omega) (by omega))
      have h1 : wr.cell? ⟨g, k * 4 + 1, none⟩ = some (.int .i64 0) := cell_later hnx (hck k 1 (by rw [← HKL.out]; omega) (by omega))
      have h2 : wr.cell? ⟨g, k * 4 + 2, none⟩ = some (.int .i64 0) := cell_later hnx (hck k 2 (by rw [← HKL.out]; omega) (by omega))
      have h3 : wr.cell? ⟨g, k * 4 + 3, none⟩ = some (.int .i64 (ks.getD k 0)) := cell_later hnx (hck k 3 (by rw [← HKL.out]; omega) (by omega))
      obtain ⟨s, x, es, ex, s0, x1, sx, ss⟩ := round_sum ks k (by rw [← HKL.out]; omega) hk1 hks
      rw [es]; rw [ex] at h3
      have HS : Hid (sm (ks.take (k + 1)) = s + x) := ss
      clear es ex ss
      go_wp2
      go_roundw
      case rel => exact ⟨k + 1, by omega, by go_num, by rw [HS.out], hnx.alloc hnx.size _⟩
      case measure => simp [intOf]; omega
    · have : k = n := by omega
      subst this
      rw [show ks.take k = ks from List.take_of_length_le (by rw [HKL.out]; omega)]
      have hpx := cell_later hnx hp
      go_wp2
      go_loop [6, 10, 27] (fun s _ i => ∃ j : Nat, j ≤ len ∧ i = .int .i64 j ∧ s = .int .i64 (sm (zs.take j))) (fun _ _ i => len - (intOf i).toNat)
      case atStart => exact ⟨0, Nat.zero_le _, rfl, rfl⟩
      case round =>
        obtain ⟨j, hj, rfl, rfl⟩ := hrel
        by_cases hlt : j < len
        · have hcx : wr.cell? ⟨b, off + j, none⟩ = some (.int .i64 (zs.getD j 0)) := cell_later hnx (hcs j (by rw [← HZL.out]; omega))
          obtain ⟨s, x, es, ex, s0, x1, sx, ss⟩ := round_sum zs j (by rw [← HZL.out]; omega) hz1 hzs
          rw [es]; rw [ex] at hcx
          have HS : Hid (sm (zs.take (j + 1)) = s + x) := ss
          clear es ex ss
          go_wp2
          go_round
          case rel => exact ⟨j + 1, by omega, by go_num, by rw [HS.out]⟩
          case measure => simp [intOf]; omega
        · have : j = len := by omega
          subst this
          rw [show zs.take j = zs from List.take_of_length_le (by rw [HZL.out]; omega)]
          go_wp2
          go_ret
          exact ⟨rfl, hnx⟩

set_option maxHeartbeats 1000000 in
theorem capacity_bare (pb : Nat) (g n c2 : Nat) (ks : List Int) (sa : Option Addr) (cap : Nat) (w : World) (r : Nat)
    (hp : w.cell? ⟨pb, 2, none⟩ = some (.slice sa 0 cap)) (hn : n ≤ 4097) (hkl : n = ks.length)
    (hck : ∀ i j, i < ks.length → j < 4 → w.cell? ⟨g, i * 4 + j, none⟩ = (conC (ks.getD i 0))[j]?)
    (hk1 : ∀ x ∈ ks, 1 ≤ x) (hks : sm ks ≤ 9007199254740992)
    (hdiv : floatBits .quo .f64 (floatOfInt .f64 (sm ks)) (floatOfInt .f64 0) = some r) :
    Calls Try.prog 31 #[.pointer (some ⟨pb, 0, none⟩), .slice (some ⟨g, 0, none⟩) n c2] w fun e w' => e = .returned (.float .f64 r) ∧ Below w.heap.size w w' := by
  have HKL : Hid (n = ks.length) := hkl
  clear hkl
  have hfl := fun w => run_float_arith (P := Try.prog) w .quo 53 .f64 _ _ r hdiv
  clear hdiv
  go_enter Try.func31, Try.ntmps31
  go_wp2
  go_loopw [5, 13] (fun s i wr => ∃ k : Nat, k ≤ n ∧ i = .int .i64 k ∧ s = .int .i64 (sm (ks.take k)) ∧ Below w.heap.size w wr) (fun _ i _ => n - (intOf i).toNat)
  case atStart => exact ⟨0, Nat.zero_le _, rfl, rfl, Below.refl _ _⟩
  case round =>
    obtain ⟨k, hk, rfl, rfl, hnx⟩ := hrel
    by_cases hlt : k < n
    · have h0 : wr.cell? ⟨g, k * 4, none⟩ = some (.string ByteArray.empty) := cell_later hnx (hck k 0 (by rw [← HKL.out]; omega) (by omega))
      have h1 : wr.cell? ⟨g, k * 4 + 1, none⟩ = some (.int .i64 0) := cell_later hnx (hck k 1 (by rw [← HKL.out]; omega) (by omega))
      have h2 : wr.cell? ⟨g, k * 4 + 2, none⟩ = some (.int .i64 0) := cell_later hnx (hck k 2 (by rw [← HKL.out]; omega) (by omega))
      have h3 : wr.cell? ⟨g, k * 4 + 3, none⟩ = some (.int .i64 (ks.getD k 0)) := cell_later hnx (hck k 3 (by rw [← HKL.out]; omega) (by omega))
      obtain ⟨s, x, es, ex, s0, x1, sx, ss⟩ := round_sum ks k (by rw [← HKL.out]; omega) hk1 hks
      rw [es]; rw [ex] at h3
      have HS : Hid (sm (ks.take (k + 1)) = s + x) := ss
      clear es ex ss
      go_wp2
      go_roundw
      case rel => exact ⟨k + 1, by omega, by go_num, by rw [HS.out], hnx.alloc hnx.size _⟩
      case measure => simp [intOf]; omega
    · have : k = n := by omega
      subst this
      rw [show ks.take k = ks from List.take_of_length_le (by rw [HKL.out]; omega)]
      have hpx := cell_later hnx hp
      go_wp2
      refine wp_loop_rounds 1 ?_; rw [rounds_succ]
      go_wp2
      go_ret
      exact ⟨rfl, hnx⟩

theorem run_nan (x y : Nat) (h : Ieee.double.div x y = none) (w : World) : ∃ b, (binOp .quo 53 (.float .f64 x) (.float .f64 y)).run Try.prog w = .ok (.float .f64 b) w.drew ∧ (Ieee.double.order b b != some .eq) = true := by
  refine ⟨_, ?_, Fl.nan_order (w.tape w.drawn (.nanBits .f64 x y))⟩
  have h' : FloatKind.f64.format.div x y = none := h
  simp [binOp, Op.floatArith, h', Question.forced, Question.cut]

theorem capacity_nan (pb : Nat) (g c2 : Nat) (sa : Option Addr) (cap : Nat) (w : World) (hp : w.cell? ⟨pb, 2, none⟩ = some (.slice sa 0 cap)) :
    Calls Try.prog 31 #[.pointer (some ⟨pb, 0, none⟩), .slice (some ⟨g, 0, none⟩) 0 c2] w fun e w' => ∃ r, e = .returned (.float .f64 r) ∧ (Ieee.double.order r r != some .eq) = true ∧ Below w.heap.size w w' := by
  obtain ⟨r, hr, hn⟩ := run_nan 0 0 Fl.zero_zero w
  have hz := Fl.fZero
  go_enter Try.func31, Try.ntmps31
  go_wp2
  refine wp_loop_rounds 1 ?_; rw [rounds_succ]
  go_wp2
  refine wp_loop_rounds 1 ?_; rw [rounds_succ]
  go_wp2
  go_ret
  exact ⟨r, rfl, hn, (Below.refl _ _).drew⟩
end Go.Proofs.Qxb6003230a.Cap
