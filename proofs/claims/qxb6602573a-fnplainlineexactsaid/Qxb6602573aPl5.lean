import Derived.Test.Qxb6602573aPl4
import Derived.Deep.DeepCutAuto
set_option linter.unusedVariables false
namespace Go.Proofs.Qxb6602573a.Pl
open Go.RowKit

theorem plain_any (W : World) (b : Nat) (hWb : W.heap.size ≤ b) (s : ByteArray) (st : Nat) (line ls : Int) (fl : Bool) (hs : s.size ≤ 1048576) (hst : st ≤ s.size) (w : World) (hps : Ps w b s (st : Int) line ls) (hg : Grown W w) :
    Calls Try.prog 13 #[.pointer (some ⟨b, 0, none⟩), .bool fl] w fun r w' => ∃ i e : Nat, r = .returned (.string (s.extract st e)) ∧ Inv s st i e fl ∧ (i < s.size → ends s i st fl = true) ∧ Ps w' b s (i : Int) line ls ∧ Grown W w' := by
  cases fl
  · exact plain_off W b hWb s st line ls hs hst w hps hg
  · exact plain_on W b hWb s st line ls hs hst w hps hg

set_option maxHeartbeats 1000000 in
theorem zzplain_any (s : ByteArray) (st : Nat) (line ls : Int) (fl : Bool) (hs : s.size ≤ 1048576) (hst : st ≤ s.size) (w : World) :
    Calls Try.prog 7 #[.string s, .int .i64 (st : Int), .int .i64 line, .int .i64 ls, .bool fl] w fun r w' => ∃ i e : Nat, r = .returned (.tuple #[.string (s.extract st e), .int .i64 (i : Int), .int .i64 line, .int .i64 ls]) ∧ Inv s st i e fl ∧ (i < s.size → ends s i st fl = true) ∧ Grown w w' := by
  go_enter Try.func7, Try.ntmps7
  go_wp2_with fail
  refine (plain_any w w.heap.size (Nat.le_refl _) s st line ls fl hs hst _ ⟨?_, ?_, ?_, ?_, ?_⟩ (Grown.alloc (Grown.refl _) _ _)).mono ?_
  · simp [go_sem]
  · simp [go_sem]
  · simp [go_sem]
  · simp [go_sem]
  · simp [go_sem]
  rintro r wA ⟨i, e, rfl, inv, hend, hps, hg⟩
  have c0 := hps.c0
  have c1 := hps.c1
  have c2 := hps.c2
  have c3 := hps.c3
  go_wp2_with fail
  go_quiet (fail)
  go_wp2_with fail
  exact bodyPost_ret (v := .tuple #[.string (s.extract st e), .int .i64 (i : Int), .int .i64 line, .int .i64 ls]) (by simp [results, Try.results7, go_sem]) rfl ⟨i, e, rfl, inv, hend, Grown.drewN hg nq⟩

theorem law_bytes (s : ByteArray) (p l q : Int) (f : Bool) (h : s.size ≤ maxLen) (hb : ¬ s.size ≤ 1048576) (w : World) : Calls Try.prog 3 #[.string s, .int .i64 p, .int .i64 l, .int .i64 q, .bool f] w fun e w' => e = .returned (.bool true) ∧ w' = w := by
  have hd : decide (s.size ≤ 1048576) = false := by simp; omega
  go_enter Try.func3, Try.ntmps3
  go_wp2_with (go_at_call 6; refine (bytes6 s p l q f h _).mono ?_; rintro e w' ⟨rfl, rfl⟩)
  go_ret
  exact ⟨rfl, rfl⟩

set_option maxHeartbeats 2000000 in
theorem law_neg (s : ByteArray) (p l q : Int) (f : Bool) (hb : s.size ≤ 1048576) (hp : p < 0) (w : World) : Calls Try.prog 3 #[.string s, .int .i64 p, .int .i64 l, .int .i64 q, .bool f] w fun e w' => e = .returned (.bool true) ∧ w' = w := by
  have hd : decide (s.size ≤ 1048576) = true := by simp; omega
  have hm : s.size ≤ maxLen := by unfold maxLen; omega
  have hdp : decide (p < 0) = true := by simpa using hp
  go_enter Try.func3, Try.ntmps3
  go_wp2_with (go_at_call 6; refine (bytes6 s p l q f hm _).mono ?_; rintro e w' ⟨rfl, rfl⟩)
  go_ret
  exact ⟨rfl, rfl⟩

set_option maxHeartbeats 2000000 in
theorem law_past (s : ByteArray) (p l q : Int) (f : Bool) (hb : s.size ≤ 1048576) (hp0 : ¬ p < 0) (hp : (s.size : Int) < p) (w : World) : Calls Try.prog 3 #[.string s, .int .i64 p, .int .i64 l, .int .i64 q, .bool f] w fun e w' => e = .returned (.bool true) ∧ w' = w := by
  have hd : decide (s.size ≤ 1048576) = true := by simp; omega
  have hm : s.size ≤ maxLen := by unfold maxLen; omega
  have hdp : decide (p < 0) = false := by simpa using hp0
  go_enter Try.func3, Try.ntmps3
  go_wp2_with (go_at_call 6; refine (bytes6 s p l q f hm _).mono ?_; rintro e w' ⟨rfl, rfl⟩)
  go_ret
  exact ⟨rfl, rfl⟩

theorem ch_extract (s : ByteArray) (a n k : Nat) (hk : k < n) (hn : a + n ≤ s.size) : ch (s.extract a (a + n)) k = ch s (a + k) := by
  have h1 : k < (s.extract a (a + n)).size := by rw [ByteArray.size_extract]; omega
  rw [← ch_at _ k h1, ← ch_at s (a + k) (by omega)]
  congr 2
  exact ByteArray.getElem_extract h1

set_option maxHeartbeats 4000000 in
set_option maxRecDepth 100000 in
theorem law_main (s : ByteArray) (st : Nat) (line ls : Int) (fl : Bool) (hs : s.size ≤ 1048576) (hst : st ≤ s.size) (w : World) :
    Calls Try.prog 3 #[.string s, .int .i64 (st : Int), .int .i64 line, .int .i64 ls, .bool fl] w fun r w' => r = .returned (.bool true) ∧ Grown w w' := by
  have hd : decide (s.size ≤ 1048576) = true := by simp; omega
  have hm : s.size ≤ maxLen := by unfold maxLen; omega
  have hq0 : decide ((st : Int) < 0) = false := decide_eq_false (by omega)
  have hq3 : decide (1048576 < (s.size : Int)) = false := decide_eq_false (by omega)
  go_enter Try.func3, Try.ntmps3
  go_wp2_with fail
  refine (bytes6 s _ _ _ _ hm _).mono ?_
  rintro r w1 ⟨rfl, hw1⟩
  obtain rfl : w = w1 := hw1.symm
  clear hw1
  go_wp2_with fail
  refine (zzplain_any s st line ls fl hs hst _).mono ?_
  rintro r wA ⟨i, e, rfl, inv, hend, hg⟩
  have h1 := inv.h1
  obtain ⟨n, rfl⟩ : ∃ n, e = st + n := ⟨e - st, by omega⟩
  have h2 := inv.h2
  have h3 := inv.h3
  have HEND : Hid (i < s.size → ends s i st fl = true) := hend
  have HSZ : Hid ((s.extract st (st + n)).size = n) := by unfold Hid; rw [ByteArray.size_extract]; omega
  clear h1 hend
  have hq1 : decide (i < st) = false := by simp; omega
  have hq2 : decide (s.size < i) = false := by simp; omega
  go_wp2_with fail
  go_loopw [15] (fun v15 wr => ∃ k : Nat, v15 = .int .i64 k ∧ st ≤ k ∧ k ≤ i ∧ Grown w wr) (fun v15 _ => i - (intOf v15).toNat)
  case atStart => exact ⟨st, rfl, by omega, by omega, hg⟩
  case round =>
    clear hg
    obtain ⟨k, rfl, hk1, hk2, hg⟩ := hrel
    by_cases hlt : k < i
    · have c8 := zzEnds_any s k st fl hs (by omega) (by omega)
      rw [inv.no k hk1 hlt] at c8
      go_wp2_with (go_at_call 8; refine (c8 _).mono ?_; rintro e w' ⟨rfl, rfl⟩)
      go_roundw
      case rel => first | exact ⟨k + 1, by go_num, by omega, by omega, hg⟩ | ((repeat apply Exists.intro); refine And.intro ?_ rfl; exact ⟨k + 1, by go_num, by omega, by omega, hg⟩)
      case measure => (simp [intOf] <;> omega)
    · obtain rfl : k = i := by omega
      go_upto_region 17 with fail
      go_cut [86] (fun v86 wc => v86 = .bool false ∧ Grown w wc)
      case first =>
        by_cases hlt2 : k < s.size
        · have c8 := zzEnds_any s k st fl hs hlt2 (by omega)
          rw [HEND.out hlt2] at c8
          go_wp2_with (go_at_call 8; refine (c8 _).mono ?_; rintro e w' ⟨rfl, rfl⟩)
          go_meet
          case rel => exact ⟨by simp, hg⟩
        · go_wp2_with fail
          go_meet
          case rel => exact ⟨by simp, hg⟩
      case rest =>
        obtain ⟨rfl, hgc⟩ := hcut
        clear hg
        have hsz := HSZ.out
        have hb := ch_at s
        go_wp2_with fail
        go_loopw [17] (fun v17 wr => ∃ j : Nat, v17 = .int .i64 j ∧ st + n ≤ j ∧ j ≤ k ∧ Grown w wr) (fun v17 _ => k - (intOf v17).toNat)
        case atStart => exact ⟨st + n, by go_num, by omega, by omega, hgc⟩
        case round =>
          clear hgc
          obtain ⟨j, rfl, hj1, hj2, hg⟩ := hrel
          by_cases hlt3 : j < k
          · have c9 := zzIsBlank_any (ch s j)
            rw [inv.bl j hj1 hlt3] at c9
            have b1 : (j : Int) < (s.size : Int) := by omega
            go_wp2_with (go_at_call 9; refine (c9 _).mono ?_; rintro e w' ⟨rfl, rfl⟩)
            go_roundw
            case rel => first | exact ⟨j + 1, by go_num, by omega, by omega, hg⟩ | ((repeat apply Exists.intro); refine And.intro ?_ rfl; exact ⟨j + 1, by go_num, by omega, by omega, hg⟩)
            case measure => (simp [intOf] <;> omega)
          · clear hb
            by_cases hn0 : n = 0
            · have hdn : decide ((0 : Int) < (n : Int)) = false := decide_eq_false (by omega)
              go_wp2_with fail
              go_ret
              exact ⟨rfl, hg⟩
            · have hdn : decide ((0 : Int) < (n : Int)) = true := decide_eq_true (by omega)
              have hb := ch_at (s.extract st (st + n))
              have hx : ch (s.extract st (st + n)) (n - 1) = ch s (st + n - 1) := by
                rw [ch_extract s st n (n - 1) (by omega) (by omega)]; congr 1; omega
              have hbk : blk (ch (s.extract st (st + n)) (n - 1)) = false := by
                rw [hx]; rcases inv.nb with h | h
                · omega
                · exact h
              have c9 := zzIsBlank_any (ch (s.extract st (st + n)) (n - 1))
              rw [hbk] at c9
              clear hx hbk
              have b1 : (0 : Int) ≤ (n : Int) - 1 := by omega
              have b2 : ((n : Int) - 1).toNat = n - 1 := by omega
              go_wp2_with (go_at_call 9; refine (c9 _).mono ?_; rintro e w' ⟨rfl, rfl⟩)
              go_ret
              exact ⟨rfl, hg⟩
end Go.Proofs.Qxb6602573a.Pl
