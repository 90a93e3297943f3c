import Derived.Test.Qxb6003230aHp13
namespace Go.Proofs.Qxb6003230a.Hp
open Go.RowKit Go.Sort

theorem bytes21 (a : Option Addr) (n c : Nat) (h : n ≤ maxLen) (w : World) : Calls Try.prog 21 #[.slice a n c] w fun e w' => e = .returned (.bool (decide (n ≤ 1048576))) ∧ w' = w := by
  unfold maxLen at h
  go_enter Try.func21, Try.ntmps21
  go_wp2
  all_goals go_ret
  · exact ⟨ret_bool (by simp; omega), rfl⟩
  · exact ⟨ret_bool (by simp; omega), rfl⟩

theorem pop_bytes (a : Option Addr) (n c : Nat) (h : n ≤ maxLen) (hb : ¬ n ≤ 1048576) (w : World) : Calls Try.prog 5 #[.slice a n c] w fun e w' => e = .returned (.bool true) ∧ w' = w := by
  have hd : decide (n ≤ 1048576) = false := by simp; omega
  go_enter Try.func5, Try.ntmps5
  go_wp2_with (go_at_call 21; refine (bytes21 a n c h _).mono ?_; rintro e w' ⟨rfl, rfl⟩)
  go_ret
  exact ⟨rfl, rfl⟩

set_option maxHeartbeats 2000000 in
theorem pop_zero (a : Option Addr) (c : Nat) (w : World) : Calls Try.prog 5 #[.slice a 0 c] w fun e w' => e = .returned (.bool true) ∧ w' = w := by
  go_enter Try.func5, Try.ntmps5
  go_wp2_with (go_at_call 21; refine (bytes21 a 0 c (by unfold maxLen; omega) _).mono ?_; rintro e w' ⟨rfl, rfl⟩)
  go_ret
  exact ⟨rfl, rfl⟩

set_option maxHeartbeats 2000000 in
theorem pop_long (a : Option Addr) (n c : Nat) (hb : n ≤ 1048576) (h4 : 4096 < n) (w : World) : Calls Try.prog 5 #[.slice a n c] w fun e w' => e = .returned (.bool true) ∧ w' = w := by
  have hd : decide (n ≤ 1048576) = true := by simp; omega
  have hz : ((n : Int) == 0) = false := by simp; omega
  have hm : n ≤ maxLen := by unfold maxLen; omega
  go_enter Try.func5, Try.ntmps5
  go_wp2_with (go_at_call 21; refine (bytes21 a n c hm _).mono ?_; rintro e w' ⟨rfl, rfl⟩)
  go_ret
  exact ⟨rfl, rfl⟩

set_option maxHeartbeats 4000000 in
set_option maxRecDepth 100000 in
theorem pop_main (a : Option Addr) (n c : Nat) (l : List E) (w : World) (hn : n + 1 ≤ 4096) (hl : l.length = n + 1) (hnil : a = none → n + 1 = 0 ∧ c = 0) (hin : In w a l) :
    Calls Try.prog 5 #[.slice a (n + 1) c] w fun e w' => e = .returned (.bool true) ∧ Below w.heap.size w w' := by
  have hd : decide (n ≤ 1048575) = true := by simp; omega
  have hc21 := bytes21 a (n + 1) c (by unfold maxLen; omega)
  have HL : Hid (l.length = n + 1) := hl
  have hz : ((n : Int) + 1 == 0) = false := by simp; omega
  go_enter Try.func5, Try.ntmps5
  go_wp2_with fail
  refine (hc21 _).mono ?_
  rintro r wA ⟨rfl, hwA⟩
  obtain rfl : w = wA := hwA.symm
  clear hc21
  go_wp2_with fail
  refine (clone_any a (n + 1) c l w hn hl hnil hin).mono ?_
  rintro r wB ⟨a', rfl, hsl, hbB, hga⟩
  obtain ⟨ge, rfl, hre⟩ := hsl.row (by omega)
  have hge0 : w.heap.size ≤ ge := hga ge rfl
  clear hin hnil hsl hga hl
  go_wp2_with fail
  refine (heapify_any (some ⟨ge, 0, none⟩) (n + 1) (n + 1) l wB hn (.mk hre HL.out)).mono ?_
  rintro r wC ⟨lh, rfl, hrh, hph, hhh, hbC⟩
  have hreC := hre.later hbC
  have hgeB := hre.lt
  have hghC := hrh.lt
  have hbC2 := bstep hbB hbC
  have HLH : Hid (lh.length = n + 1) := hph.length_eq.trans HL.out
  have HPH : Hid (lh.Perm l) := hph
  have HHH : Hid (Heap lh) := hhh
  clear hph hhh hre hbC hbB
  generalize wB.heap.size = gh at *
  go_wp2_with fail
  refine (queueOf_any (some ⟨gh, 0, none⟩) (n + 1) (n + 1) lh wC hn (.mk hrh HLH.out)).mono ?_
  rintro r wD ⟨rfl, hown, hbD⟩
  have hreD := hreC.later hbD
  have hrhD := hrh.later hbD
  have hbD2 := bstep hbC2 hbD
  have hgqD : wC.heap.size < wD.heap.size := (hown.lt _ rfl).2
  have hslq : Sl wD 32 (some ⟨wC.heap.size, 0, none⟩) (n + 1) (n + 1 + 1) lh := ⟨HLH.out, .inr ⟨_, rfl, by
    rcases hown.2 with ⟨h', _⟩ | ⟨g', cap', cur, h', _, hg, hle, hmx, hcs, htake⟩
    · simp at h'
    · simp only [Value.slice.injEq, Option.some.injEq, Addr.mk.injEq, and_true, true_and] at h'
      obtain ⟨rfl, rfl⟩ := h'
      exact ⟨⟨cur, hg, hcs, by rw [HLH.out]; exact htake⟩, by rw [HLH.out]; omega, hmx⟩⟩⟩
  clear hown hbD hreC hrh hbC2
  generalize wC.heap.size = gq at *
  have hbE := (Below.refl wD.heap.size wD).alloc (Nat.le_refl _) (.cells #[.slice (some ⟨gq, 0, none⟩) (n + 1) (n + 1 + 1)] 26)
  have hquE : Qu (wD.alloc (.cells #[.slice (some ⟨gq, 0, none⟩) (n + 1) (n + 1 + 1)] 26)) wD.heap.size (some ⟨gq, 0, none⟩) (n + 1) (n + 1 + 1) lh := ⟨by simp [go_sem], by simp [go_sem], hslq.later hbE, by intro h; injection h with h; injection h with h; omega⟩
  have hreE := hreD.later hbE
  have hrhE := hrhD.later hbE
  have hbE2 := bstep hbD2 hbE
  have hszE : wD.heap.size < (wD.alloc (.cells #[.slice (some ⟨gq, 0, none⟩) (n + 1) (n + 1 + 1)] 26)).heap.size := by simp
  clear hslq hreD hrhD hbD2 hbE
  go_wp2_with fail
  generalize wD.heap.size = bq at *
  refine (zzpop_any bq gq n (n + 1 + 1) lh _ (by omega) hquE HHH.out).mono ?_
  rintro r wF ⟨rfl, L, hquF, hpL, hhL, hkF⟩
  have hreF := hreE.keep hkF (fun h => h.elim (fun h => by omega) (fun h => by omega))
  have hrhF := hrhE.keep hkF (fun h => h.elim (fun h => by omega) (fun h => by omega))
  have hbF2 : Below w.heap.size w wF := hbE2.trans (hkF.below hbE2.size (fun k hk => hk.elim (fun h => by omega) (fun h => by omega)))
  have HPL : Hid ((gt lh 0 :: L).Perm lh) := hpL
  have HHL : Hid (Heap L) := hhL
  clear hquE hreE hrhE hbE2 hkF hpL hhL
  go_wp2_with fail
  refine (fromSim_any (gt lh 0) wF).mono ?_
  rintro r wG ⟨rfl, hbG⟩
  have hreG := hreF.later hbG
  have hrhG := hrhF.later hbG
  have hquG := hquF.later hbG
  have hbG2 := bstep hbF2 hbG
  clear hreF hrhF hquF hbF2 hbG
  unfold E.val
  -- the top lies in a box of its own
  have hbH := (Below.refl wG.heap.size wG).alloc (Nat.le_refl _) (.cells #[.int .i64 (gt lh 0).tick, .int .u64 (gt lh 0).seq, .int .i64 (gt lh 0).bid, .int .i32 (gt lh 0).task, .int .i32 (gt lh 0).con, .int .u8 (gt lh 0).kind, .int .i64 (gt lh 0).perf] 35)
  have xH := box_new wG (gt lh 0) 35
  have hreH := hreG.later hbH
  have hrhH := hrhG.later hbH
  have hquH := hquG.later hbH
  have hbH2 := bstep hbG2 hbH
  have hl0 : 0 < lh.length := by rw [HLH.out]; omega
  have ah := hrhH.at 0 hl0
  rw [← gt_eq lh 0 hl0, Nat.zero_mul] at ah
  clear hreG hrhG hquG hbG2
  go_upto_region 9 with fail
  generalize wG.alloc (.cells #[.int .i64 (gt lh 0).tick, .int .u64 (gt lh 0).seq, .int .i64 (gt lh 0).bid, .int .i32 (gt lh 0).task, .int .i32 (gt lh 0).con, .int .u8 (gt lh 0).kind, .int .i64 (gt lh 0).perf] 35) = wH at *
  clear hbH
  generalize wG.heap.size = bt at *
  generalize htop : gt lh 0 = top at *
  have HTOP : Hid (gt lh 0 = top) := htop
  clear htop
  go_cut [31] (fun v31 wc => v31 = .bool false ∧ Below wH.heap.size wH wc)
  case first =>
    obtain ⟨e0, e1, e2, e3, e4, e5, e6⟩ := xH
    obtain ⟨p0, p1, p2, p3, p4, p5, p6⟩ := ah
    simp only [Nat.zero_add] at p1 p2 p3 p4 p5 p6
    have b1 : (0 : Int) < (n : Int) + 1 := by omega
    go_quiet (fail)
    have hb : Below wH.heap.size wH (wH.drewN nq) := below_drewN (Below.refl _ _) nq
    go_wp2_with fail
    go_meet
    case rel => exact ⟨by simp, hb⟩
  case rest =>
    obtain ⟨rfl, hbc⟩ := hcut
    have xI := xH.later hbc
    have hreI := hreH.later hbc
    have hquI := hquH.later hbc
    have hbI2 := bstep hbH2 hbc
    clear xH hreH hrhH hquH hbH2 hbc ah hl0
    go_wp2
    go_loopw [6] (fun v6 wr => ∃ k : Nat, v6 = .int .i64 k ∧ k ≤ n + 1 ∧ Below wc.heap.size wc wr) (fun v6 _ => n + 1 - (intOf v6).toNat)
    case atStart => exact ⟨0, rfl, by omega, Below.refl _ _⟩
    case round =>
      obtain ⟨k, rfl, hk, hnx⟩ := hrel
      have hreJ := hreI.later hnx
      have xJ := xI.later hnx
      have hquJ := hquI.later hnx
      have hbJ2 := bstep hbI2 hnx
      clear hreI xI hquI hbI2
      by_cases hlt : k < n + 1
      · have hkl : k < l.length := by rw [HL.out]; exact hlt
        have hbef : bef l[k] top = false := by
          have := heap_min HHH.out (HPH.out.symm.subset (List.getElem_mem hkl))
          rw [HTOP.out] at this; exact this
        have b1 : (k : Int) < (n : Int) + 1 := by omega
        have cL := zzBefore_re l[k] top wr
        rw [hbef] at cL
        obtain ⟨ky0, ky1, ky2, ky3, ky4, ky5, ky6⟩ := (hreJ.at k hkl).re
        obtain ⟨e0, e1, e2, e3, e4, e5, e6⟩ := xJ
        have kz0 := cell_regrown e0
        have kz1 := cell_regrown e1
        have kz2 := cell_regrown e2
        have kz3 := cell_regrown e3
        have kz4 := cell_regrown e4
        have kz5 := cell_regrown e5
        have kz6 := cell_regrown e6
        clear e0 e1 e2 e3 e4 e5 e6 hbef
        go_wp2
        refine wp_region_quiet_below (by kernel_rfl) (by kernel_rfl) ?_
        repeat (first | go_big_quiet_step (exact cL _ _) | quiet_step (exact cL _ _))
        refine wpQuiet_nil ?_
        intro _ hw'
        obtain ⟨⟨dq, osq⟩, hw''⟩ := hw'
        subst hw''
        have hbq : Below wr.heap.size wr (grow (redrawn wr dq) osq) := below_regrown wr dq osq
        have hnx2 := hnx.trans (hbq.mono hnx.size)
        clear ky0 ky1 ky2 ky3 ky4 ky5 ky6 kz0 kz1 kz2 kz3 kz4 kz5 kz6 cL
        generalize grow (redrawn wr dq) osq = wq at *
        clear hbq hnx
        go_wp2
        go_roundw
        case rel => exact ⟨k + 1, by go_num, by omega, hnx2⟩
        case measure => (simp [intOf] <;> omega)
      · clear hnx
        have cq := hquJ.cell
        have hLl : L.length = n := hquJ.sl.1
        have HLL : Hid (L.length = n) := hLl
        clear hLl
        go_wp2_with fail
        refine (isHeap_any (some ⟨gq, 0, none⟩) n (n + 1 + 1) L wr (by omega) hquJ.sl HHL.out).mono ?_
        rintro r wK ⟨rfl, hbK⟩
        have hreK := hreJ.later hbK
        have xK := xJ.later hbK
        have hquK := hquJ.later hbK
        have hbK2 := bstep hbJ2 hbK
        clear hreJ xJ hquJ hbJ2 hbK cq
        have cq := hquK.cell
        go_wp2_with fail
        refine (listOf_any (some ⟨gq, 0, none⟩) n (n + 1 + 1) L wK (by omega) hquK.sl).mono ?_
        rintro r wM ⟨rfl, hrM, hbM⟩
        have hreM := hreK.later hbM
        have hgeK := hreK.lt
        have hMs := hrM.lt
        have hwK : w.heap.size ≤ wK.heap.size := hbK2.size
        obtain ⟨e0, e1, e2, e3, e4, e5, e6⟩ := xK.later hbM
        have hbM2 := bstep hbK2 hbM
        have hown := row_owns hrM (B := wK.heap.size) (Nat.le_refl _)
        rw [HLL.out] at hown
        clear hreK xK hquK hbK2 hbM cq
        generalize wK.heap.size = gr at *
        obtain ⟨i0, hi, hz0, hz1, hz2⟩ := info_parts Try.info35
        have HS : Hid (evCells L ++ top.cells = evCells (L ++ [top])) := by unfold Hid; rw [ev_app]; simp [evCells]
        generalize hX : evCells L = X at *
        clear hX
        go_wp2_with (at_builtin; refine wpList_append_own _ rfl _ _ 22 rfl gr 35 i0 _ 7 48 Try.underlying22 hi hz0 hz1 hz2 rfl (by omega) (.slice (some ⟨gr, 0, none⟩) n n) n X rfl (hown.alloc _) ⟨wM.heap.size, 0, none⟩ 1 1 top.cells rfl rfl (new_cells top 35 wM) (one_cell top) (by unfold maxLen; omega) (by omega) (by simp; omega) ?_)
        intro v' wN hownN hgrowN _
        rw [HS.out] at hownN
        have hbN : Below gr wM wN := ((Below.refl gr wM).alloc (by omega) _).grown hgrowN (by simp; omega) (by intro y hy; cases hy; exact Nat.le_refl _)
        have hreN := hreM.of_block (hbN.block ge hgeK)
        have hbN2 : Below w.heap.size w wN := hbM2.trans (hbN.mono hwK)
        obtain ⟨ga, ca, rfl, -, hra⟩ := owns_row (n := n + 1) (by rw [List.length_append, HLL.out]; rfl) (by omega) hownN
        clear hownN hgrowN hown e0 e1 e2 e3 e4 e5 e6 hreM hbM2 hbN hrM HS
        go_wp2_with fail
        refine (sort_any (some ⟨ga, 0, none⟩) (n + 1) ca (L ++ [top]) wN (by omega) (.mk hra (by rw [List.length_append, HLL.out]; rfl))).mono ?_
        rintro r wO ⟨gO, lO, rfl, rO, pO, sO, bO⟩
        have hreO := hreN.later bO
        have hbO2 := bstep hbN2 bO
        go_wp2_with fail
        refine (sort_any (some ⟨ge, 0, none⟩) (n + 1) (n + 1) l wO (by omega) (.mk hreO HL.out)).mono ?_
        rintro r wP ⟨gP, lP, rfl, rP, pP, sP, bP⟩
        have hpp : (L ++ [top]).Perm l := by
          have h1 := HPL.out
          exact (List.perm_append_singleton top L).trans (h1.trans HPH.out)
        have elP : lO = lP := sorted_unique sO sP ((pO.trans hpp).trans pP.symm)
        subst elP
        go_wp2_with fail
        refine (same_any gO gP (n + 1) (n + 1) (n + 1) lO wP (by omega) (by rw [pP.length_eq]; exact HL.out) (rO.later bP) rP).mono ?_
        rintro r wQ ⟨rfl, bQ⟩
        go_wp2
        go_ret
        exact ⟨rfl, bstep (bstep hbO2 bP) bQ⟩
end Go.Proofs.Qxb6003230a.Hp
