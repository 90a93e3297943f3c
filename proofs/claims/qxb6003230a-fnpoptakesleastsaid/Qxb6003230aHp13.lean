import Derived.Test.Qxb6003230aHp12
import Derived.Test.Qxb6003230aHp10
namespace Go.Proofs.Qxb6003230a.Hp
open Go.RowKit Go.Sort

/-- An event in a box of its own. -/
structure Box (w : World) (b : Nat) (e : E) : Prop where
  c0 : w.cell? ⟨b, 0, none⟩ = some (.int .i64 e.tick)
  c1 : w.cell? ⟨b, 1, none⟩ = some (.int .u64 e.seq)
  c2 : w.cell? ⟨b, 2, none⟩ = some (.int .i64 e.bid)
  c3 : w.cell? ⟨b, 3, none⟩ = some (.int .i32 e.task)
  c4 : w.cell? ⟨b, 4, none⟩ = some (.int .i32 e.con)
  c5 : w.cell? ⟨b, 5, none⟩ = some (.int .u8 e.kind)
  c6 : w.cell? ⟨b, 6, none⟩ = some (.int .i64 e.perf)
theorem Box.later {w w' : World} {b : Nat} {e : E} (h : Box w b e) (hb : Below w.heap.size w w') : Box w' b e :=
  ⟨cell_later hb h.c0, cell_later hb h.c1, cell_later hb h.c2, cell_later hb h.c3, cell_later hb h.c4, cell_later hb h.c5, cell_later hb h.c6⟩
theorem Box.keep {S : Nat → Prop} {w w' : World} {b : Nat} {e : E} (h : Box w b e) (hk : Keep S w w') (hn : ¬ S b) : Box w' b e :=
  ⟨cell_keep hk h.c0 hn, cell_keep hk h.c1 hn, cell_keep hk h.c2 hn, cell_keep hk h.c3 hn, cell_keep hk h.c4 hn, cell_keep hk h.c5 hn, cell_keep hk h.c6 hn⟩
theorem Box.lt {w : World} {b : Nat} {e : E} (h : Box w b e) : b < w.heap.size := World.block_lt_of_cell? _ _ h.c0
theorem box_new (w : World) (e : E) (T : TypeId) : Box (w.alloc (.cells #[.int .i64 e.tick, .int .u64 e.seq, .int .i64 e.bid, .int .i32 e.task, .int .i32 e.con, .int .u8 e.kind, .int .i64 e.perf] T)) w.heap.size e :=
  ⟨by simp [go_sem], by simp [go_sem], by simp [go_sem], by simp [go_sem], by simp [go_sem], by simp [go_sem], by simp [go_sem]⟩

theorem bytes16 (a : Option Addr) (n c : Nat) (e : E) (h : n ≤ maxLen) (w : World) : Calls Try.prog 16 #[.slice a n c, e.val] w fun r w' => r = .returned (.bool (decide (n ≤ 1048576))) ∧ Below w.heap.size w w' := by
  unfold maxLen at h
  unfold E.val
  go_enter Try.func16, Try.ntmps16
  go_wp2
  all_goals go_ret
  · exact ⟨ret_bool (by simp; omega), (Below.refl _ _).alloc (Nat.le_refl _) _⟩
  · exact ⟨ret_bool (by simp; omega), (Below.refl _ _).alloc (Nat.le_refl _) _⟩

theorem push_bytes (a : Option Addr) (n c : Nat) (e : E) (h : n ≤ maxLen) (hb : ¬ n ≤ 1048576) (w : World) : Calls Try.prog 4 #[.slice a n c, e.val] w fun r w' => r = .returned (.bool true) ∧ Below w.heap.size w w' := by
  have hd : decide (n ≤ 1048576) = false := by simp; omega
  have hc := bytes16 a n c e h
  unfold E.val at hc ⊢
  go_enter Try.func4, Try.ntmps4
  go_wp2_with (go_at_call 16; refine (hc _).mono ?_; rintro e w' ⟨rfl, hbb⟩)
  go_ret
  exact ⟨rfl, bstep ((Below.refl _ _).alloc (Nat.le_refl _) _) hbb⟩

theorem push_long (a : Option Addr) (n c : Nat) (e : E) (hb : n ≤ 1048576) (h4 : 4096 < n) (w : World) : Calls Try.prog 4 #[.slice a n c, e.val] w fun r w' => r = .returned (.bool true) ∧ Below w.heap.size w w' := by
  have hd : decide (n ≤ 1048576) = true := by simp; omega
  have hc := bytes16 a n c e (by unfold maxLen; omega)
  unfold E.val at hc ⊢
  go_enter Try.func4, Try.ntmps4
  go_wp2_with (go_at_call 16; refine (hc _).mono ?_; rintro e w' ⟨rfl, hbb⟩)
  go_ret
  exact ⟨rfl, bstep ((Below.refl _ _).alloc (Nat.le_refl _) _) hbb⟩

theorem addr_eq {g g' : Nat} (h : some (⟨g, 0, none⟩ : Addr) = some ⟨g', 0, none⟩) : g = g' := by injection h with h; injection h

theorem Qu.below {w w' : World} {B bq : Nat} {ao : Option Addr} {n cap : Nat} {h : List E} (q : Qu w bq ao n cap h) (hb : Below B w w') (h1 : bq < B) (h2 : ∀ g, ao = some ⟨g, 0, none⟩ → g < B) : Qu w' bq ao n cap h := by
  refine ⟨(hb.cell (p := ⟨bq, 0, none⟩) h1).trans q.cell, (hb.frozen (p := ⟨bq, 0, none⟩) h1).trans q.free, ?_, q.ne⟩
  obtain ⟨h0, h | ⟨g, hg, hr⟩⟩ := q.sl
  · exact ⟨h0, .inl h⟩
  · exact ⟨h0, .inr ⟨g, hg, hr.of_block (hb.block g (h2 g hg))⟩⟩

theorem In.later {w w' : World} {a : Option Addr} {l : List E} (h : In w a l) (hb : Below w.heap.size w w') : In w' a l := fun i hi => by
  obtain ⟨b, off, h1, h2⟩ := h i hi
  exact ⟨b, off, h1, h2.later hb⟩

/-- Where e comes before the old root, it is the new one. -/
theorem root_is {lh L : List E} {e : E} (hL : Heap L) (hp : L.Perm (lh ++ [e])) (hlh : Heap lh) (hc : lh.length = 0 ∨ bef e (gt lh 0) = true) : gt L 0 = e := by
  have hlen : 0 < L.length := by rw [hp.length_eq]; simp
  have hm := hp.subset (gt_mem L 0 hlen)
  rcases List.mem_append.1 hm with h | h
  · exfalso
    rcases hc with h0 | hb
    · rw [List.eq_nil_of_length_eq_zero h0] at h; simp at h
    · have h1 := heap_min hlh h
      have h2 : bef e (gt L 0) = false := heap_min hL (hp.symm.subset (by simp))
      have := bef_trans h1 h2
      rw [hb] at this; cases this
  · simpa using h

set_option maxHeartbeats 4000000 in
set_option maxRecDepth 100000 in
theorem push_main (a : Option Addr) (n c : Nat) (l : List E) (e : E) (w : World) (hn : n ≤ 4096) (hl : l.length = n) (hnil : a = none → n = 0 ∧ c = 0) (hin : In w a l) :
    Calls Try.prog 4 #[.slice a n c, e.val] w fun r w' => r = .returned (.bool true) ∧ Below w.heap.size w w' := by
  have hd : decide (n ≤ 1048576) = true := by simp; omega
  have hc16 := bytes16 a n c e (by unfold maxLen; omega)
  unfold E.val at hc16 ⊢
  go_enter Try.func4, Try.ntmps4
  go_wp2_with fail
  refine (hc16 _).mono ?_
  rintro r wA ⟨rfl, hbA⟩
  have hb0 := (Below.refl w.heap.size w).alloc (Nat.le_refl _) (.cells #[.int .i64 e.tick, .int .u64 e.seq, .int .i64 e.bid, .int .i32 e.task, .int .i32 e.con, .int .u8 e.kind, .int .i64 e.perf] 35)
  have xA : Box wA w.heap.size e := (box_new w e 35).later hbA
  have hbA2 := bstep hb0 hbA
  have hin2 := hin.later hbA2
  clear hbA hb0 hin hc16
  go_wp2_with fail
  refine (clone_any a n c l wA hn hl hnil hin2).mono ?_
  rintro r wB ⟨a', rfl, hsl, hbB, -⟩
  have xB := xA.later hbB
  have hbB2 := bstep hbA2 hbB
  clear hin2 hnil hbA2 xA hbB
  go_wp2_with fail
  refine (heapify_any a' n n l wB hn hsl).mono ?_
  rintro r wC ⟨lh, rfl, hrh, hph, hhh, hbC⟩
  have hghx : w.heap.size < wB.heap.size := xB.lt
  have xC := xB.later hbC
  have hbC2 := bstep hbB2 hbC
  have hlh : lh.length = n := hph.length_eq.trans hl
  have HLH : Hid (lh.length = n) := hlh
  have HPH : Hid (lh.Perm l) := hph
  have HHH : Hid (Heap lh) := hhh
  have hghC : wB.heap.size < wC.heap.size := hrh.lt
  clear hsl hbC xB hl hlh hph hhh hbB2
  generalize wB.heap.size = gh at *
  go_wp2_with fail
  refine (queueOf_any (some ⟨gh, 0, none⟩) n n lh wC hn (.mk hrh HLH.out)).mono ?_
  rintro r wD ⟨rfl, hown, hbD⟩
  have xD := xC.later hbD
  have hrhD := hrh.later hbD
  have hbD2 := bstep hbC2 hbD
  have hgqD : wC.heap.size < wD.heap.size := (hown.lt _ rfl).2
  have hslq : Sl wD 32 (some ⟨wC.heap.size, 0, none⟩) n (n + 1) lh := ⟨HLH.out, .inr ⟨_, rfl, by
    rcases hown.2 with ⟨h', _⟩ | ⟨g', cap', cur, h', _, hg, hle, hmx, hcs, htake⟩
    · simp at h'
    · simp only [Value.slice.injEq, Option.some.injEq, Addr.mk.injEq, and_true, true_and] at h'
      obtain ⟨rfl, rfl⟩ := h'
      exact ⟨⟨cur, hg, hcs, by rw [HLH.out]; exact htake⟩, by rw [HLH.out]; omega, hmx⟩⟩⟩
  clear hown hbD xC hrh hbC2
  have hghq : gh ≠ wC.heap.size := by omega
  have hxq : w.heap.size ≠ wC.heap.size := by omega
  have hq0 : w.heap.size ≤ wC.heap.size := by omega
  generalize wC.heap.size = gq at *
  have hxlt := xD.lt
  have hbE := (Below.refl wD.heap.size wD).alloc (Nat.le_refl _) (.cells #[.slice (some ⟨gq, 0, none⟩) n (n + 1)] 26)
  have xE := xD.later hbE
  have hquE : Qu (wD.alloc (.cells #[.slice (some ⟨gq, 0, none⟩) n (n + 1)] 26)) wD.heap.size (some ⟨gq, 0, none⟩) n (n + 1) lh := ⟨by simp [go_sem], by simp [go_sem], hslq.later hbE, by intro h; injection h with h; injection h with h; omega⟩
  have hrhE := hrhD.later hbE
  have hbE2 := bstep hbD2 hbE
  obtain ⟨e0, e1, e2, e3, e4, e5, e6⟩ := xD
  have hbq0 : w.heap.size < wD.heap.size := hxlt
  have hbqh : gh < wD.heap.size := by omega
  clear hslq hrhD hbD2 hbE
  go_wp2_with fail
  refine (toSim_any e _).mono ?_
  rintro r wF ⟨rfl, hbF⟩
  have xF := xE.later hbF
  have hquF := hquE.later hbF
  have hrhF := hrhE.later hbF
  have hbF2 := bstep hbE2 hbF
  have hghF : gh < wF.heap.size := hrhF.lt
  clear xE hquE hrhE hbE2 hbF e0 e1 e2 e3 e4 e5 e6 hxlt
  generalize wD.heap.size = bq at *
  go_wp2_with fail
  refine (zzpush_any bq (some ⟨gq, 0, none⟩) n (n + 1) lh e wF (by omega) hquF HHH.out).mono ?_
  rintro r wG ⟨rfl, g, cap, L, hor, hquG, hpL, hhL, hkG⟩
  have hbqF : bq < wF.heap.size := World.block_lt_of_cell? _ _ hquF.cell
  have xG : Box wG w.heap.size e := xF.keep hkG (fun h => h.elim (fun h => by omega) (fun h => by have := addr_eq h; omega))
  have hrhG : Row wG 35 gh n lh := hrhF.keep hkG (fun h => h.elim (fun h => by omega) (fun h => by have := addr_eq h; omega))
  have hbG2 : Below w.heap.size w wG := hbF2.trans (hkG.below hbF2.size (fun k hk => hk.elim (fun h => by omega) (fun h => by have := addr_eq h; omega)))
  have hgg : w.heap.size ≤ g := hor.elim (fun h => by have := addr_eq h; omega) (fun h => by have := hbF2.size; omega)
  have hghg : gh ≠ g := hor.elim (fun h => by have := addr_eq h; omega) (fun h => by omega)
  have HPL : Hid (L.Perm (lh ++ [e])) := hpL
  have HHL : Hid (Heap L) := hhL
  clear hquF xF hrhF hbF2 hkG hor hpL hhL hghF hbqF
  have cG := hquG.cell
  go_wp2_with fail
  refine (isHeap_any (some ⟨g, 0, none⟩) (n + 1) cap L wG (by omega) hquG.sl HHL.out).mono ?_
  rintro r wH ⟨rfl, hbH⟩
  have xH := xG.later hbH
  have hrhH := hrhG.later hbH
  have hquH := hquG.later hbH
  have hbH2 := bstep hbG2 hbH
  clear xG hrhG hquG hbG2 hbH cG
  obtain ⟨bb, hbb⟩ : ∃ bb, bb = (decide (n = 0) || bef e (gt lh 0)) := ⟨_, rfl⟩
  have HBB : Hid (bb = (decide (n = 0) || bef e (gt lh 0))) := hbb
  clear hbb
  go_upto_region 13 with fail
  go_cut [43] (fun v43 wc => v43 = .bool bb ∧ Below wH.heap.size wH wc)
  case first =>
    obtain ⟨e0, e1, e2, e3, e4, e5, e6⟩ := xH
    by_cases h0 : n = 0
    · have hz : ((n : Int) == 0) = true := by simp; omega
      have hz2 : decide (n = 0) = true := decide_eq_true h0
      go_quiet (fail)
      have hb : Below wH.heap.size wH (wH.drewN nq) := below_drewN (Below.refl _ _) nq
      go_wp2_with fail
      go_meet
      case rel => exact ⟨by rw [HBB.out, hz2]; rfl, hb⟩
    · have hz : ((n : Int) == 0) = false := by simp; omega
      have hz2 : decide (n = 0) = false := decide_eq_false h0
      have hl0 : 0 < lh.length := by rw [HLH.out]; omega
      have b1 : (0 : Int) < (n : Int) := by omega
      have ah := hrhH.at 0 hl0
      rw [← gt_eq lh 0 hl0, Nat.zero_mul] at ah
      obtain ⟨ky0, ky1, ky2, ky3, ky4, ky5, ky6⟩ := ah.re
      simp only [Nat.zero_add] at ky1 ky2 ky3 ky4 ky5 ky6
      have kz0 := cell_regrown e0
      have kz1 := cell_regrown e1
      have kz2 := cell_regrown e2
      have kz3 := cell_regrown e3
      have kz4 := cell_regrown e4
      have kz5 := cell_regrown e5
      have kz6 := cell_regrown e6
      have cL := zzBefore_re e (gt lh 0) wH
      refine wp_region_quiet_below (by kernel_rfl) (by kernel_rfl) ?_
      repeat (first | go_big_quiet_step (exact cL _ _) | quiet_step (exact cL _ _))
      refine wpQuiet_nil ?_
      intro _ hw'
      obtain ⟨⟨dq, osq⟩, hw''⟩ := hw'
      subst hw''
      have hb : Below wH.heap.size wH (grow (redrawn wH dq) osq) := below_regrown wH dq osq
      go_wp2_with fail
      go_meet
      case rel => exact ⟨by rw [HBB.out, hz2]; rfl, hb⟩
  case rest =>
    obtain ⟨rfl, hbc⟩ := hcut
    have xI := xH.later hbc
    have hrhI := hrhH.later hbc
    have hquI := hquH.later hbc
    have hbI2 := bstep hbH2 hbc
    clear xH hrhH hquH hbH2 hbc
    have hLl : L.length = n + 1 := hquI.sl.1
    obtain ⟨g2, hg2, hrL⟩ := hquI.sl.row (by omega)
    obtain rfl : g = g2 := addr_eq hg2
    clear hg2
    go_upto_if 43 with fail
    go_cut [] (fun wd => Below wc.heap.size wc wd)
    case first =>
      cases bb
      case' false =>
        go_wp2_with fail
        go_meet
        case rel => exact Below.refl _ _
      case' true =>
        have hroot : gt L 0 = e := root_is HHL.out HPL.out HHH.out (by
          have hb2 := HBB.out.symm
          simp only [Bool.or_eq_true, decide_eq_true_eq] at hb2
          rw [HLH.out]; exact hb2)
        have al := hrL.at 0 (by omega)
        rw [← gt_eq L 0 (by omega), hroot, Nat.zero_mul] at al
        obtain ⟨ky0, ky1, ky2, ky3, ky4, ky5, ky6⟩ := al.re
        simp only [Nat.zero_add] at ky1 ky2 ky3 ky4 ky5 ky6
        obtain ⟨e0, e1, e2, e3, e4, e5, e6⟩ := xI
        have kz0 := cell_regrown e0
        have kz1 := cell_regrown e1
        have kz2 := cell_regrown e2
        have kz3 := cell_regrown e3
        have kz4 := cell_regrown e4
        have kz5 := cell_regrown e5
        have kz6 := cell_regrown e6
        have kq := cell_regrown hquI.cell
        have b1 : (0 : Int) < (n : Int) + 1 := by omega
        have cL := fromSim_re e wc
        clear e0 e1 e2 e3 e4 e5 e6 hroot
        go_wp2_with fail
        refine wp_region_quiet_below (by kernel_rfl) (by kernel_rfl) ?_
        repeat (first | go_big_quiet_step (exact cL _ _) | quiet_step (exact cL _ _))
        refine wpQuiet_nil ?_
        intro _ hw'
        obtain ⟨⟨dq, osq⟩, hw''⟩ := hw'
        subst hw''
        have hbd : Below wc.heap.size wc (grow (redrawn wc dq) osq) := below_regrown wc dq osq
        go_wp2_with fail
        go_meet
        case rel => exact hbd
    case rest =>
      have xJ := xI.later hcut
      have hrhJ := hrhI.later hcut
      have hquJ := hquI.later hcut
      have hbJ2 := bstep hbI2 hcut
      clear xI hrhI hquI hbI2 hrL hcut
      have hbqc : bq < wc.heap.size := World.block_lt_of_cell? _ _ hquJ.cell
      have hgc : ∀ g', (some ⟨g, 0, none⟩ : Option Addr) = some ⟨g', 0, none⟩ → g' < wc.heap.size := fun g' hg' => by
        obtain ⟨g2, hg2, hr2⟩ := hquJ.sl.row (by omega)
        have h1 := addr_eq hg2
        have h2 := addr_eq hg'
        have := hr2.lt
        omega
      have HGC : Hid (∀ g', (some ⟨g, 0, none⟩ : Option Addr) = some ⟨g', 0, none⟩ → g' < wc.heap.size) := hgc
      clear hgc
      obtain ⟨i0, hi, hz0, hz1, hz2⟩ := info_parts Try.info35
      go_wp2_with (at_make; refine wpList_make_own _ rfl _ _ 22 rfl wc.heap.size 35 i0 _ 7 Try.underlying22 hi hz0 hz1 _ _ _ (n + 1) rfl rfl (by omega) (by rw [hz2]; omega) (by unfold maxLen; omega) (Nat.le_refl _) ?_)
      intro wK hown hgrow
      have hbK : Below wc.heap.size wc wK := (Below.refl _ _).grown hgrow (Nat.le_refl _) (by simp)
      clear hgrow
      go_wp2
      go_loopw [7, 8] (fun v7 v8 wr => ∃ k : Nat, k ≤ n ∧ v8 = .int .i64 k ∧ v7 = .slice (some ⟨wc.heap.size, 0, none⟩) k (n + 1) ∧ wr.ownsRow wc.heap.size 35 7 (.slice (some ⟨wc.heap.size, 0, none⟩) k (n + 1)) k (evCells (lh.take k)) ∧ Below wc.heap.size wc wr) (fun _ v8 _ => n - (intOf v8).toNat)
      case atStart => exact ⟨0, Nat.zero_le _, rfl, rfl, by simpa [evCells] using hown, hbK⟩
      case round =>
        clear hown hbK
        obtain ⟨k, hk, rfl, rfl, hown, hnx⟩ := hrel
        by_cases hlt : k < n
        · have hlk : k < lh.length := by rw [HLH.out]; exact hlt
          obtain ⟨p0, p1, p2, p3, p4, p5, p6⟩ := (hrhJ.later hnx).at k hlk
          have HS : Hid (evCells (lh.take k) ++ (lh[k]).cells = evCells (lh.take (k + 1))) := cells_snoc lh k hlk
          generalize hX : evCells (lh.take k) = X at *
          generalize lh[k] = ek at *
          clear hX
          go_wp2_with (at_builtin; refine wpList_append_fits _ rfl _ _ 22 rfl wc.heap.size 35 i0 7 Try.underlying22 hi hz1 wc.heap.size k (n + 1) X rfl (hown.alloc _) ⟨wr.heap.size, 0, none⟩ 1 1 ek.cells rfl rfl (new_cells ek 35 wr) (one_cell ek) (by omega) ?_)
          intro w3 hown3 hgrow3
          have hnx3 : Below wc.heap.size wc w3 := (hnx.alloc hnx.size _).grown hgrow3 (by have := hnx.size; simp; omega) (by intro y hy; cases hy; exact Nat.le_refl _)
          rw [HS.out] at hown3
          clear hgrow3 hown hnx p0 p1 p2 p3 p4 p5 p6
          go_wp2
          go_roundw
          case rel => first | exact ⟨k + 1, by omega, by go_num, rfl, hown3, hnx3⟩ | ((repeat apply Exists.intro); refine And.intro ?_ rfl; exact ⟨k + 1, by omega, by go_num, rfl, hown3, hnx3⟩)
          case measure => (simp [intOf] <;> omega)
        · obtain rfl : n = k := by omega
          have hown2 : wr.ownsRow wc.heap.size 35 7 (.slice (some ⟨wc.heap.size, 0, none⟩) n (n + 1)) n (evCells lh) := by have h := hown; rw [List.take_of_length_le (by rw [HLH.out]; exact Nat.le_refl _)] at h; exact h
          obtain ⟨e0, e1, e2, e3, e4, e5, e6⟩ := xJ.later hnx
          have hquK := hquJ.later hnx
          have hbK2 := bstep hbJ2 hnx
          have HS : Hid (evCells lh ++ e.cells = evCells (lh ++ [e])) := by unfold Hid; rw [ev_app]; simp [evCells]
          generalize hX : evCells lh = X at *
          clear hown hX hlt hk xJ hrhJ hquJ hbJ2
          go_wp2_with (at_builtin; refine wpList_append_fits _ rfl _ _ 22 rfl wc.heap.size 35 i0 7 Try.underlying22 hi hz1 wc.heap.size n (n + 1) X rfl (hown2.alloc _) ⟨wr.heap.size, 0, none⟩ 1 1 e.cells rfl rfl (new_cells e 35 wr) (one_cell e) (by omega) ?_)
          intro wM hownM hgrowM
          rw [HS.out] at hownM
          have hsz : wc.heap.size < wr.heap.size := (hown2.lt _ rfl).2
          have hbM : Below wc.heap.size wr wM := ((Below.refl _ wr).alloc hnx.size _).grown hgrowM (by simp; omega) (by intro y hy; cases hy; exact Nat.le_refl _)
          have hquM := hquK.below hbM hbqc HGC.out
          have hbM2 : Below w.heap.size w wM := hbK2.trans (hbM.mono (by omega))
          obtain ⟨ga, ca, hva, -, hra⟩ := owns_row (n := n + 1) (by rw [List.length_append, HLH.out]; rfl) (by omega) hownM
          simp only [Value.slice.injEq, Option.some.injEq, Addr.mk.injEq, and_true, true_and] at hva
          obtain ⟨rfl, rfl⟩ := hva
          have cM := hquM.cell
          clear hquK hbK2 hbM hownM hgrowM hown2 e0 e1 e2 e3 e4 e5 e6 hnx HS
          go_wp2_with fail
          refine (listOf_any (some ⟨g, 0, none⟩) (n + 1) cap L wM (by omega) hquM.sl).mono ?_
          rintro r wN ⟨rfl, hrN, hbN⟩
          have hraN := hra.later hbN
          have hbN2 := bstep hbM2 hbN
          clear hra hbN hbM2 cM
          go_wp2_with fail
          refine (sort_any (some ⟨wM.heap.size, 0, none⟩) (n + 1) (n + 1) L wN (by omega) (.mk hrN hLl)).mono ?_
          rintro r wO ⟨gO, lO, rfl, rO, pO, sO, bO⟩
          have hraO := hraN.later bO
          have hbO2 := bstep hbN2 bO
          go_wp2_with fail
          refine (sort_any _ (n + 1) (n + 1) (lh ++ [e]) wO (by omega) (.mk hraO (by rw [List.length_append, HLH.out]; rfl))).mono ?_
          rintro r wP ⟨gP, lP, rfl, rP, pP, sP, bP⟩
          have elP : lO = lP := sorted_unique sO sP ((pO.trans HPL.out).trans pP.symm)
          subst elP
          go_wp2_with fail
          refine (same_any gO gP (n + 1) (n + 1) (n + 1) lO wP (by omega) (by rw [pO.length_eq]; exact hLl) (rO.later bP) rP).mono ?_
          rintro r wQ ⟨rfl, bQ⟩
          go_wp2
          go_ret
          exact ⟨rfl, bstep (bstep hbO2 bP) bQ⟩
end Go.Proofs.Qxb6003230a.Hp
