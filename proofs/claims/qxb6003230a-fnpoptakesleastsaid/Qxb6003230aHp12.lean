import Derived.Test.Qxb6003230aHp11
namespace Go.Proofs.Qxb6003230a.Hp
open Go.RowKit Go.Sort

theorem one_cell (e : E) : ∀ u ∈ e.cells, u.oneCell' = true := by
  intro u hu
  simp [E.cells] at hu
  rcases hu with rfl | rfl | rfl | rfl | rfl | rfl | rfl <;> rfl
theorem new_cells (e : E) (T : TypeId) (w : World) : ∀ j u, e.cells[j]? = some u → (w.alloc (.cells #[.int .i64 e.tick, .int .u64 e.seq, .int .i64 e.bid, .int .i32 e.task, .int .i32 e.con, .int .u8 e.kind, .int .i64 e.perf] T)).cell? ((⟨w.heap.size, 0, none⟩ : Addr).add j) = some u := by
  intro j u hj
  have hjl : j < 7 := by have := (List.getElem?_eq_some_iff.1 hj).1; rw [cells_len] at this; exact this
  have : j = 0 ∨ j = 1 ∨ j = 2 ∨ j = 3 ∨ j = 4 ∨ j = 5 ∨ j = 6 := by omega
  rcases this with rfl | rfl | rfl | rfl | rfl | rfl | rfl <;> (simp [E.cells] at hj; subst hj; simp [go_sem])
theorem cells_snoc (l : List E) (k : Nat) (hk : k < l.length) : evCells (l.take k) ++ (l[k]).cells = evCells (l.take (k + 1)) := by
  rw [List.take_succ_eq_append_getElem hk, ev_app]; simp [evCells]

set_option maxHeartbeats 1000000 in
/-- zzQueueOf: the events, one for one, in a fresh row with room for one more. -/
theorem queueOf_any (a : Option Addr) (n c : Nat) (l : List E) (w : World) (hn : n ≤ 4096) (hs : Sl w 35 a n c l) :
    Calls Try.prog 18 #[.slice a n c] w fun e w' => e = .returned (.slice (some ⟨w.heap.size, 0, none⟩) n (n + 1)) ∧ w'.ownsRow w.heap.size 32 7 (.slice (some ⟨w.heap.size, 0, none⟩) n (n + 1)) n (evCells l) ∧ Below w.heap.size w w' := by
  obtain ⟨i0, hi, hz0, hz1, hz2⟩ := info_parts Try.info32
  have HL : Hid (l.length = n) := hs.1
  go_enter Try.func18, Try.ntmps18
  go_wp2_with (at_make; refine wpList_make_own _ rfl _ _ 26 rfl w.heap.size 32 i0 _ 7 Try.underlying26 hi hz0 hz1 _ _ _ (n + 1) rfl rfl (by omega) (by rw [hz2]; omega) (by unfold maxLen; omega) (Nat.le_refl _) ?_)
  intro w1 hown hgrow
  have hb1 : Below w.heap.size w w1 := (Below.refl _ _).grown hgrow (Nat.le_refl _) (by simp)
  clear hgrow
  go_wp2
  go_loopw [3, 4] (fun v3 v4 wr => ∃ k : Nat, k ≤ n ∧ v4 = .int .i64 k ∧ v3 = .slice (some ⟨w.heap.size, 0, none⟩) k (n + 1) ∧ wr.ownsRow w.heap.size 32 7 (.slice (some ⟨w.heap.size, 0, none⟩) k (n + 1)) k (evCells (l.take k)) ∧ Below w.heap.size w wr) (fun _ v4 _ => n - (intOf v4).toNat)
  case atStart => exact ⟨0, Nat.zero_le _, rfl, rfl, by simpa [evCells] using hown, hb1⟩
  case round =>
    clear hown hb1
    obtain ⟨k, hk, rfl, rfl, hown, hnx⟩ := hrel
    by_cases hlt : k < n
    · have hlk : k < l.length := by rw [HL.out]; exact hlt
      obtain ⟨g, rfl, hsr⟩ := hs.row (by omega)
      obtain ⟨p0, p1, p2, p3, p4, p5, p6⟩ := (hsr.later hnx).at k hlk
      have HS : Hid (evCells (l.take k) ++ (l[k]).cells = evCells (l.take (k + 1))) := cells_snoc l k hlk
      generalize hX : evCells (l.take k) = X at *
      generalize l[k] = e at *
      clear hX
      go_wp2_with fail
      refine (toSim_any e wr).mono ?_
      rintro r w2 ⟨rfl, hb2⟩
      unfold E.val
      have hown2 : w2.ownsRow w.heap.size 32 7 (.slice (some ⟨w.heap.size, 0, none⟩) k (n + 1)) k X := by
        have hg : wr.grownBy w2 none := ⟨hb2.os, hb2.tape, hb2.output, hb2.size, fun j hj _ => hb2.block j hj⟩
        exact hown.kept hg (.inr (by simp [Value.ownBlock]))
      have hnx2 := hnx.trans (hb2.mono hnx.size)
      clear p0 p1 p2 p3 p4 p5 p6 hown hnx hb2
      go_wp2_with (at_builtin; refine wpList_append_fits _ rfl _ _ 26 rfl w.heap.size 32 i0 7 Try.underlying26 hi hz1 w.heap.size k (n + 1) X rfl (hown2.alloc _) ⟨w2.heap.size, 0, none⟩ 1 1 e.cells rfl rfl (new_cells e 32 w2) (one_cell e) (by omega) ?_)
      intro w3 hown3 hgrow3
      have hnx3 : Below w.heap.size w w3 := (hnx2.alloc hnx2.size _).grown hgrow3 (by have := hnx2.size; simp; omega) (by intro y hy; cases hy; exact Nat.le_refl _)
      rw [HS.out] at hown3
      clear hgrow3 hown2 hnx2
      go_wp2
      go_roundw
      case rel => first | exact ⟨k + 1, by omega, by go_num, rfl, hown3, hnx3⟩ | ((repeat apply Exists.intro); refine And.intro ?_ rfl; exact ⟨k + 1, by omega, by go_num, rfl, hown3, hnx3⟩)
      case measure => (simp [intOf] <;> omega)
    · obtain rfl : n = k := by omega
      have hown' : wr.ownsRow w.heap.size 32 7 (.slice (some ⟨w.heap.size, 0, none⟩) n (n + 1)) n (evCells l) := by have h := hown; rw [List.take_of_length_le (by rw [HL.out]; exact Nat.le_refl _)] at h; exact h
      clear hown
      go_wp2
      go_ret
      exact ⟨rfl, hown', hnx⟩

set_option maxHeartbeats 1000000 in
/-- zzListOf: the queue's events, one for one, in a fresh row. -/
theorem listOf_any (a : Option Addr) (n c : Nat) (l : List E) (w : World) (hn : n ≤ 8192) (hs : Sl w 32 a n c l) :
    Calls Try.prog 20 #[.slice a n c] w fun e w' => e = .returned (.slice (some ⟨w.heap.size, 0, none⟩) n n) ∧ Row w' 35 w.heap.size n l ∧ Below w.heap.size w w' := by
  obtain ⟨i0, hi, hz0, hz1, hz2⟩ := info_parts Try.info35
  have HL : Hid (n = l.length) := hs.1.symm
  go_enter Try.func20, Try.ntmps20
  go_wp2_with (first | (at_make; refine wpList_make_full _ rfl _ _ 22 rfl w.heap.size 35 i0 _ 7 Try.underlying22 hi hz0 hz1 _ _ _ _ n rfl rfl rfl rfl (by rw [hz2]; omega) (by unfold maxLen; omega) (Nat.le_refl _) ?_))
  intro w1 hown hgrow
  rw [ev_made] at hown
  have hrow : Row w1 35 w.heap.size n (cp l 0) := by rw [cp_zero, ← HL.out]; exact row_made (by simp) hown
  have hb1 : Below w.heap.size w w1 := (Below.refl _ _).grown hgrow (Nat.le_refl _) (by simp)
  clear hgrow hown hz0 hz1 hz2 hi
  go_wp2
  go_loopw [4] (fun i wr => ∃ k : Nat, k ≤ n ∧ i = .int .i64 k ∧ Row wr 35 w.heap.size n (cp l k) ∧ Below w.heap.size w wr) (fun i _ => n - (intOf i).toNat)
  case atStart => exact ⟨0, Nat.zero_le _, rfl, hrow, hb1⟩
  case round =>
    clear hrow hb1
    obtain ⟨k, hk, rfl, hrow, hnx⟩ := hrel
    by_cases hlt : k < n
    · have hlk : k < l.length := by rw [← HL.out]; exact hlt
      obtain ⟨g, rfl, hsr⟩ := hs.row (by omega)
      obtain ⟨p0, p1, p2, p3, p4, p5, p6⟩ := (hsr.later hnx).at k hlk
      go_wp2_with fail
      refine (fromSim_any l[k] wr).mono ?_
      rintro r w2 ⟨rfl, hb2⟩
      unfold E.val
      clear p0 p1 p2 p3 p4 p5 p6
      have hrow2 := hrow.later hb2
      have hnx2 := hnx.trans (hb2.mono hnx.size)
      have hle : k < (cp l k).length := by rw [cp_len _ _ (by omega)]; exact hlk
      have hst := hrow2.store k hle l[k]
      rw [cp_set _ _ hlk] at hst
      have hkp : Below w.heap.size w (put7 w2 w.heap.size (k * 7) l[k]) := hnx2.trans ((Keep.put7 (S := fun j => j = w.heap.size) (.refl _ w2) _ _ _ rfl).below hnx2.size (fun j hj => by omega))
      obtain ⟨t0, t1, t2, t3, t4, t5, t6⟩ := hrow2.at k hle
      have hf := hrow2.free
      generalize l[k] = e at *
      clear hrow hnx hb2
      go_wp2
      go_roundw
      case rel => exact ⟨k + 1, by omega, by go_num, hst, hkp⟩
      case measure => (simp [intOf] <;> omega)
    · obtain rfl : n = k := by omega
      have hrow' : Row wr 35 w.heap.size n l := by have h := hrow; rw [HL.out, cp_end, ← HL.out] at h; exact h
      clear hrow
      go_wp2
      go_ret
      exact ⟨rfl, hrow', hnx⟩

/-- zzFromSim in a region that draws. -/
theorem fromSim_re (e : E) (w : World) : ∀ d os, Calls Try.prog 11 #[.agg #[.int .i64 e.tick, .int .u64 e.seq, .int .i64 e.bid, .int .i32 e.task, .int .i32 e.con, .int .u8 e.kind, .int .i64 e.perf]] (grow (redrawn w d) os)
    fun r w'' => r = .returned (.agg #[.int .i64 e.tick, .int .u64 e.seq, .int .i64 e.bid, .int .i32 e.task, .int .i32 e.con, .int .u8 e.kind, .int .i64 e.perf]) ∧ ∃ p : Regrown, w'' = grow (redrawn w p.d) p.os := fun _ _ => Calls.regrown_of (fromSim_any e _)

set_option maxHeartbeats 1000000 in
/-- zzIsHeap of a heap. -/
theorem isHeap_any (a : Option Addr) (n c : Nat) (l : List E) (w : World) (hn : n ≤ 8192) (hs : Sl w 32 a n c l) (hh : Heap l) :
    Calls Try.prog 19 #[.slice a n c] w fun e w' => e = .returned (.bool true) ∧ Below w.heap.size w w' := by
  have HL : Hid (l.length = n) := hs.1
  have HH : Hid (Heap l) := hh
  clear hh
  go_enter Try.func19, Try.ntmps19
  go_wp2
  go_loopw [3] (fun v3 wr => ∃ k : Nat, v3 = .int .i64 k ∧ 1 ≤ k ∧ k ≤ n + 1 ∧ Below w.heap.size w wr) (fun v3 _ => n - (intOf v3).toNat)
  case atStart => exact ⟨1, rfl, by omega, by omega, Below.refl _ _⟩
  case round =>
    obtain ⟨k, rfl, hk1, hk2, hnx⟩ := hrel
    by_cases hlt : k < n
    · obtain ⟨m, hm⟩ : ∃ m, (k - 1) / 2 = m := ⟨_, rfl⟩
      have hmI : ((k : Int) - 1) / 2 = (m : Int) := by omega
      have hml : m < l.length := by rw [HL.out]; omega
      have hkl : k < l.length := by rw [HL.out]; omega
      have hbef : bef l[k] l[m] = false := by
        have := HH.out k (by omega) hkl
        rw [hm, gt_eq l k hkl, gt_eq l m hml] at this; exact this
      obtain ⟨g, rfl, hsr⟩ := hs.row (by omega)
      obtain ⟨ky0, ky1, ky2, ky3, ky4, ky5, ky6⟩ := ((hsr.later hnx).at k hkl).re
      obtain ⟨kz0, kz1, kz2, kz3, kz4, kz5, kz6⟩ := ((hsr.later hnx).at m hml).re
      have cL := zzBefore_re l[k] l[m] wr
      rw [hbef] at cL
      have b1 : (k : Int) < (n : Int) := by omega
      have b2 : (m : Int) < (n : Int) := by omega
      clear hm
      go_wp2
      refine wp_region_quiet_below (by kernel_rfl) (by kernel_rfl) ?_
      repeat (first | go_big_quiet_step (first | (go_at_call 11; exact fromSim_re _ _ _ _) | (go_at_call 13; exact cL _ _)) | quiet_step (first | (go_at_call 11; exact fromSim_re _ _ _ _) | (go_at_call 13; exact cL _ _)))
      refine wpQuiet_nil ?_
      intro _ hw'
      obtain ⟨⟨dq, osq⟩, hw''⟩ := hw'
      subst hw''
      have hbq : Below wr.heap.size wr (grow (redrawn wr dq) osq) := below_regrown wr dq osq
      clear ky0 ky1 ky2 ky3 ky4 ky5 ky6 kz0 kz1 kz2 kz3 kz4 kz5 kz6 cL
      have hnx2 := hnx.trans (hbq.mono hnx.size)
      generalize grow (redrawn wr dq) osq = wq at *
      clear hbq hnx
      go_wp2
      go_roundw
      case rel => exact ⟨k + 1, by go_num, by omega, by omega, hnx2⟩
      case measure => (simp [intOf] <;> omega)
    · go_wp2
      go_ret
      exact ⟨rfl, hnx⟩
end Go.Proofs.Qxb6003230a.Hp
