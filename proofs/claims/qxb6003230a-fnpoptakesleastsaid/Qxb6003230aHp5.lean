import Derived.Test.Qxb6003230aHp4
import Derived.Test.Qxb6003230aHpL1
import Derived.Lib.QuietBelow
import Derived.Deep.DeepCutAuto
namespace Go.Proofs.Qxb6003230a.Hp
open Go.RowKit Go.Sort

theorem put_snoc (d M : List E) (lo k n : Nat) (x : E) (hd : d.length = n) (hM : lo + M.length = k) (hk : k < n) : (d.take lo ++ M ++ d.drop k).set k x = d.take lo ++ (M ++ [x]) ++ d.drop (k + 1) := by
  have hl : (d.take lo ++ M).length = k := by simp; omega
  rw [List.set_append_right _ _ (by omega), hl, Nat.sub_self, List.drop_eq_getElem_cons (show k < d.length by omega), List.set_cons_zero]
  simp
theorem put_len (d M : List E) (lo k n : Nat) (hd : d.length = n) (hM : lo + M.length = k) (hk : k ≤ n) : (d.take lo ++ M ++ d.drop k).length = n := by
  simp; omega

set_option maxHeartbeats 4000000 in
set_option maxRecDepth 100000 in
theorem sort_any (a : Option Addr) (n c : Nat) (l : List E) (w : World) (hn : n ≤ 8192) (hs : Sl w 35 a n c l) :
    Calls Try.prog 15 #[.slice a n c] w fun e w' => ∃ g l', e = .returned (.slice (some ⟨g, 0, none⟩) n n) ∧ Row w' 35 g n l' ∧ l'.Perm l ∧ Sorted l' ∧ Below w.heap.size w w' := by
  obtain ⟨i0, hi, hz0, hz1, hz2⟩ := info_parts Try.info35
  have HL : Hid (n = l.length) := hs.1.symm
  go_enter Try.func15, Try.ntmps15
  go_wp2_with (first | (at_make; refine wpList_make_full _ rfl _ _ 22 rfl w.heap.size 35 i0 _ 7 Try.underlying22 hi hz0 hz1 _ _ _ _ n rfl rfl rfl rfl (by rw [hz2]; omega) (by unfold maxLen; omega) (Nat.le_refl _) ?_))
  intro w1 hown hgrow
  rw [ev_made] at hown
  have hrow : Row w1 35 w.heap.size n (cp l 0) := by rw [cp_zero, ← HL.out]; exact row_made (by simp) hown
  have hb1 : Below w.heap.size w w1 := (Below.refl _ _).grown hgrow (Nat.le_refl _) (by simp)
  clear hgrow hown
  go_wp2
  go_loopw [5] (fun i wr => ∃ k : Nat, k ≤ n ∧ i = .int .i64 k ∧ Row wr 35 w.heap.size n (cp l k) ∧ Below w.heap.size w wr) (fun i _ => n - (intOf i).toNat)
  case atStart => exact ⟨0, Nat.zero_le _, rfl, hrow, hb1⟩
  case round =>
    clear hrow hb1
    obtain ⟨k, hk, rfl, hrow, hnx⟩ := hrel
    by_cases hlt : k < n
    · have hlk : k < l.length := by rw [← HL.out]; exact hlt
      obtain ⟨g, rfl, hsr⟩ := hs.row (by omega)
      obtain ⟨p0, p1, p2, p3, p4, p5, p6⟩ := (hsr.later hnx).at k hlk
      have hle : k < (cp l k).length := by rw [cp_len _ _ (by omega)]; exact hlk
      have hst := hrow.store k hle l[k]
      rw [cp_set _ _ hlk] at hst
      have hkp : Below w.heap.size w (put7 wr w.heap.size (k * 7) l[k]) := hnx.trans ((Keep.put7 (S := fun j => j = w.heap.size) (.refl _ wr) _ _ _ rfl).below hnx.size (fun j hj => by omega))
      obtain ⟨t0, t1, t2, t3, t4, t5, t6⟩ := hrow.at k hle
      have hf := hrow.free
      generalize l[k] = e at *
      go_wp2
      go_roundw
      case rel => exact ⟨k + 1, by omega, by go_num, hst, hkp⟩
      case measure => simp [intOf]; omega
    · obtain rfl : n = k := by omega
      have hrow' : Row wr 35 w.heap.size n l := by have h := hrow; rw [HL.out, cp_end, ← HL.out] at h; exact h
      clear hrow hlt hk
      have hsz : w.heap.size < wr.heap.size := hrow'.lt
      go_wp2_with (first | (at_make; refine wpList_make_full _ rfl _ _ 22 rfl wr.heap.size 35 i0 _ 7 Try.underlying22 hi hz0 hz1 _ _ _ _ n rfl rfl rfl rfl (by rw [hz2]; omega) (by unfold maxLen; omega) (Nat.le_refl _) ?_))
      intro w2 hown hgrow
      rw [ev_made] at hown
      have hrd : Row w2 35 wr.heap.size n (List.replicate n E0) := row_made (by simp) hown
      have hb2 : Below wr.heap.size wr w2 := (Below.refl _ _).grown hgrow (Nat.le_refl _) (by simp)
      have hrs := hrow'.later hb2
      have hb3 : Below w.heap.size w w2 := hnx.trans (hb2.mono (by omega))
      clear hgrow hown hrow' hnx hb2 hz0 hz1 hz2 hi
      have hgg : w.heap.size < wr.heap.size := hsz
      generalize wr.heap.size = g0 at *
      clear hs hsz
      go_wp2
      go_loopw [4, 6, 7] (fun v4 v6 v7 ws => ∃ (q ga gb : Nat) (s d : List E), v4 = .slice (some ⟨ga, 0, none⟩) n n ∧ v6 = .slice (some ⟨gb, 0, none⟩) n n ∧ v7 = .int .i64 q ∧ 1 ≤ q ∧ q ≤ 16384 ∧ ga ≠ gb ∧ w.heap.size ≤ ga ∧ w.heap.size ≤ gb ∧
        Row ws 35 ga n s ∧ Row ws 35 gb n d ∧ s.length = n ∧ d.length = n ∧ s.Perm l ∧ Runs q s s.length ∧ Below w.heap.size w ws) (fun _ _ v7 _ => n - (intOf v7).toNat)
      case atStart => exact ⟨1, w.heap.size, g0, l, List.replicate n E0, rfl, rfl, rfl, by omega, by omega, by omega, Nat.le_refl _, by omega, hrs, hrd, HL.out.symm, by simp, List.Perm.refl _, runs_one _ _, hb3⟩
      case round =>
        clear hrs hrd hb3 hgg
        obtain ⟨q, ga, gb, s, d, rfl, rfl, rfl, hq1, hq2, hgab, hga, hgb, hrs, hrd, hsl, hdl, hperm, hruns, hnx⟩ := hrel
        have HSL : Hid (s.length = n) := hsl
        have HDL : Hid (d.length = n) := hdl
        clear hsl hdl
        by_cases hqn : q < n
        · go_wp2
          go_loopw [8] (fun v8 wt => ∃ (lo : Nat) (d : List E), v8 = .int .i64 lo ∧ lo % (2 * q) = 0 ∧ lo ≤ n + 2 * q ∧ Row wt 35 ga n s ∧ Row wt 35 gb n d ∧ Pass q s d lo ∧ Below w.heap.size w wt) (fun v8 _ => n - (intOf v8).toNat)
          case atStart => exact ⟨0, d, rfl, by simp, by omega, hrs, hrd, pass_start q s d (HDL.out.trans HSL.out.symm), hnx⟩
          case round =>
            clear hrs hrd hnx
            obtain ⟨lo, d, rfl, hmod, hlo, hrs, hrd, hpass, hnx⟩ := hrel
            have HDL : Hid (d.length = n) := hpass.len.trans HSL.out
            have HMOD : Hid (lo % (2 * q) = 0) := hmod
            clear hmod
            by_cases hln : lo < n
            · have comb : (lo + q ≤ n ∧ lo + 2 * q ≤ n) ∨ (lo + q ≤ n ∧ n < lo + 2 * q) ∨ (n < lo + q ∧ n < lo + 2 * q) := by omega
              obtain ⟨m, t, hm, ht⟩ : ∃ m t, m = min (lo + q) n ∧ t = min (lo + 2 * q) n := ⟨_, _, rfl, rfl⟩
              have f1 : lo ≤ m := by omega
              have f2 : m ≤ t := by omega
              have f3 : t ≤ n := by omega
              have f4 : lo < t := by omega
              have HM : Hid (m = min (lo + q) n) := hm
              have HT : Hid (t = min (lo + 2 * q) n) := ht
              clear hm ht
              clear comb
              go_upto_if 49 with fail
              go_cut [9] (fun v9 wc => v9 = .int .i64 m ∧ wc = wr)
              case first =>
                by_cases c1 : lo + q ≤ n
                · go_wp2
                  go_meet
                  case rel => exact ⟨congrArg (Value.int .i64) (by have := HM.out; omega), rfl⟩
                · go_wp2
                  go_meet
                  case rel => exact ⟨congrArg (Value.int .i64) (by have := HM.out; omega), rfl⟩
              case rest =>
                obtain ⟨rfl, hwc⟩ := hcut
                subst hwc
                go_upto_if 57 with fail
                go_cut [10] (fun v10 wd => v10 = .int .i64 t ∧ wd = wc)
                case first =>
                  by_cases c1 : lo + 2 * q ≤ n
                  · go_wp2
                    go_meet
                    case rel => exact ⟨congrArg (Value.int .i64) (by have := HT.out; omega), rfl⟩
                  · go_wp2
                    go_meet
                    case rel => exact ⟨congrArg (Value.int .i64) (by have := HT.out; omega), rfl⟩
                case rest =>
                  obtain ⟨rfl, hwc⟩ := hcut
                  subst hwc
                  go_wp2
                  go_loopw [11, 12, 13] (fun v11 v12 v13 wu => ∃ (i j k : Nat) (M : List E), v11 = .int .i64 i ∧ v12 = .int .i64 j ∧ v13 = .int .i64 k ∧ lo ≤ i ∧ i ≤ m ∧ m ≤ j ∧ j ≤ t ∧ k + m = i + j ∧
                    lo + M.length = k ∧ Mst s lo m t i j M ∧ Row wu 35 ga n s ∧ Row wu 35 gb n (d.take lo ++ M ++ d.drop k) ∧ Below w.heap.size w wu) (fun _ _ v13 _ => t - (intOf v13).toNat)
                  case atStart => exact ⟨lo, m, lo, [], rfl, rfl, rfl, by omega, by omega, by omega, by omega, by omega, rfl, mst_start _ _ _ _, hrs, by simpa using hrd, hnx⟩
                  case round =>
                    clear hrs hrd hnx
                    obtain ⟨i, j, k, M, rfl, rfl, rfl, g1, g2, g3, g4, hkm, hML, hmst, hrs, hrd, hnx⟩ := hrel
                    have HKM : Hid (k + m = i + j) := hkm
                    have HML : Hid (lo + M.length = k) := hML
                    have g5 : k ≤ t := by omega
                    have g6 : k < t → m ≤ i → j < t := by omega
                    clear hkm hML
                    by_cases hkt : k < t
                    · have hkl : k < (d.take lo ++ M ++ d.drop k).length := by rw [put_len d M lo k n HDL.out HML.out (by omega)]; omega
                      have hpl : ∀ e, (d.take lo ++ M ++ d.drop k).set k e = d.take lo ++ (M ++ [e]) ++ d.drop (k + 1) := fun e => put_snoc d M lo k n e HDL.out HML.out (by omega)
                      have HPL : Hid (∀ e, (d.take lo ++ M ++ d.drop k).set k e = d.take lo ++ (M ++ [e]) ++ d.drop (k + 1)) := hpl
                      have HKL : Hid (k < (d.take lo ++ M ++ d.drop k).length) := hkl
                      clear hpl hkl
                      generalize hD : d.take lo ++ M ++ d.drop k = D at hrd HPL HKL
                      clear hD
                      by_cases him : i < m
                      · have hsi : i < s.length := by rw [HSL.out]; omega
                        by_cases hjt : j < t
                        · have hsj : j < s.length := by rw [HSL.out]; omega
                          by_cases hles : les s[j] s[i] = false
                          · -- neither is spent; the first run's head does not come behind
                            obtain ⟨y0, y1, y2, y3, y4, y5, y6⟩ := hrs.at i hsi
                            obtain ⟨z0, z1, z2, z3, z4, z5, z6⟩ := hrs.at j hsj
                            have ky0 := cell_regrown y0
                            have ky1 := cell_regrown y1
                            have ky2 := cell_regrown y2
                            have ky3 := cell_regrown y3
                            have ky4 := cell_regrown y4
                            have ky5 := cell_regrown y5
                            have ky6 := cell_regrown y6
                            have kz0 := cell_regrown z0
                            have kz1 := cell_regrown z1
                            have kz2 := cell_regrown z2
                            have kz3 := cell_regrown z3
                            have kz4 := cell_regrown z4
                            have kz5 := cell_regrown z5
                            have kz6 := cell_regrown z6
                            clear y0 y1 y2 y3 y4 y5 y6 z0 z1 z2 z3 z4 z5 z6
                            have cL : ∀ dd os, Calls Try.prog 30 #[(s[j]).val, (s[i]).val] (grow (redrawn wr dd) os) fun e w'' => e = .returned (.bool (les s[j] s[i])) ∧ ∃ p : Regrown, w'' = grow (redrawn wr p.d) p.os := fun dd os => Calls.regrown_of (less_any _ _ _)
                            unfold E.val at cL
                            have d1 : decide ((t : Int) ≤ (j : Int)) = false := decide_eq_false (by omega)
                            have b1 : (j : Int) < (n : Int) := by omega
                            have b2 : (i : Int) < (n : Int) := by omega
                            have d2 : decide ((i : Int) < (m : Int)) = true := decide_eq_true (by omega)
                            go_wp2
                            refine wp_region_quiet_below (by kernel_rfl) (by kernel_rfl) ?_
                            repeat (first | go_big_quiet_step (exact cL _ _) | quiet_step (exact cL _ _))
                            refine wpQuiet_nil ?_
                            intro _ hw'
                            obtain ⟨⟨dq, osq⟩, hw''⟩ := hw'
                            subst hw''
                            have hbq : Below wr.heap.size wr (grow (redrawn wr dq) osq) := below_regrown wr dq osq
                            clear ky0 ky1 ky2 ky3 ky4 ky5 ky6 kz0 kz1 kz2 kz3 kz4 kz5 kz6 cL
                            generalize grow (redrawn wr dq) osq = wq at *
                            have hrs2 := hrs.later hbq
                            have hrd2 := hrd.later hbq
                            have hnx2 := hnx.trans (hbq.mono hnx.size)
                            clear hrs hrd hnx hbq
                            obtain ⟨p0, p1, p2, p3, p4, p5, p6⟩ := hrs2.at i hsi
                            obtain ⟨x0, x1, x2, x3, x4, x5, x6⟩ := hrd2.at k HKL.out
                            have hf := hrd2.free
                            have hst := hrd2.store k HKL.out s[i]
                            rw [HPL.out] at hst
                            have hrs3 : Row (put7 wq gb (k * 7) s[i]) 35 ga n s := hrs2.of_block (put7_other _ _ _ _ _ hgab)
                            have hnx3 : Below w.heap.size w (put7 wq gb (k * 7) s[i]) := hnx2.trans ((Keep.put7 (S := fun x => x = gb) (.refl _ wq) _ _ _ rfl).below hnx2.size (fun x hx => by omega))
                            have HMST : Hid (Mst s lo m t (i + 1) j (M ++ [s[i]])) := mst_left hmst him (by rw [HSL.out]; omega) (by rw [HSL.out]; omega) (fun _ => hles)
                            clear hmst hrs2 hrd2
                            generalize s[i] = e at *
                            go_wp2
                            go_roundw
                            case rel => first | exact ⟨i + 1, j, k + 1, M ++ [e], by go_num, rfl, by go_num, by omega, by omega, by omega, by omega, by have := HKM.out; omega, by have := HML.out; simp only [List.length_append, List.length_cons, List.length_nil]; omega, HMST.out, hrs3, hst, hnx3⟩ | ((repeat apply Exists.intro); refine And.intro ?_ rfl; exact ⟨i + 1, j, k + 1, M ++ [e], by go_num, rfl, by go_num, by omega, by omega, by omega, by omega, by have := HKM.out; omega, by have := HML.out; simp only [List.length_append, List.length_cons, List.length_nil]; omega, HMST.out, hrs3, hst, hnx3⟩)
                            case measure => simp [intOf]; omega
                          · -- the second run's head comes first
                            have hles' : les s[j] s[i] = true := by simpa using hles
                            obtain ⟨y0, y1, y2, y3, y4, y5, y6⟩ := hrs.at i hsi
                            obtain ⟨z0, z1, z2, z3, z4, z5, z6⟩ := hrs.at j hsj
                            have ky0 := cell_regrown y0
                            have ky1 := cell_regrown y1
                            have ky2 := cell_regrown y2
                            have ky3 := cell_regrown y3
                            have ky4 := cell_regrown y4
                            have ky5 := cell_regrown y5
                            have ky6 := cell_regrown y6
                            have kz0 := cell_regrown z0
                            have kz1 := cell_regrown z1
                            have kz2 := cell_regrown z2
                            have kz3 := cell_regrown z3
                            have kz4 := cell_regrown z4
                            have kz5 := cell_regrown z5
                            have kz6 := cell_regrown z6
                            clear y0 y1 y2 y3 y4 y5 y6 z0 z1 z2 z3 z4 z5 z6
                            have cL : ∀ dd os, Calls Try.prog 30 #[(s[j]).val, (s[i]).val] (grow (redrawn wr dd) os) fun e w'' => e = .returned (.bool (les s[j] s[i])) ∧ ∃ p : Regrown, w'' = grow (redrawn wr p.d) p.os := fun dd os => Calls.regrown_of (less_any _ _ _)
                            unfold E.val at cL
                            have d1 : decide ((t : Int) ≤ (j : Int)) = false := decide_eq_false (by omega)
                            have b1 : (j : Int) < (n : Int) := by omega
                            have b2 : (i : Int) < (n : Int) := by omega
                            have d2 : decide ((i : Int) < (m : Int)) = true := decide_eq_true (by omega)
                            go_wp2
                            refine wp_region_quiet_below (by kernel_rfl) (by kernel_rfl) ?_
                            repeat (first | go_big_quiet_step (exact cL _ _) | quiet_step (exact cL _ _))
                            refine wpQuiet_nil ?_
                            intro _ hw'
                            obtain ⟨⟨dq, osq⟩, hw''⟩ := hw'
                            subst hw''
                            have hbq : Below wr.heap.size wr (grow (redrawn wr dq) osq) := below_regrown wr dq osq
                            clear ky0 ky1 ky2 ky3 ky4 ky5 ky6 kz0 kz1 kz2 kz3 kz4 kz5 kz6 cL
                            generalize grow (redrawn wr dq) osq = wq at *
                            have hrs2 := hrs.later hbq
                            have hrd2 := hrd.later hbq
                            have hnx2 := hnx.trans (hbq.mono hnx.size)
                            clear hrs hrd hnx hbq
                            obtain ⟨p0, p1, p2, p3, p4, p5, p6⟩ := hrs2.at j hsj
                            obtain ⟨x0, x1, x2, x3, x4, x5, x6⟩ := hrd2.at k HKL.out
                            have hf := hrd2.free
                            have hst := hrd2.store k HKL.out s[j]
                            rw [HPL.out] at hst
                            have hrs3 : Row (put7 wq gb (k * 7) s[j]) 35 ga n s := hrs2.of_block (put7_other _ _ _ _ _ hgab)
                            have hnx3 : Below w.heap.size w (put7 wq gb (k * 7) s[j]) := hnx2.trans ((Keep.put7 (S := fun x => x = gb) (.refl _ wq) _ _ _ rfl).below hnx2.size (fun x hx => by omega))
                            have HMST : Hid (Mst s lo m t i (j + 1) (M ++ [s[j]])) := mst_right hmst hjt (by rw [HSL.out]; omega) (by rw [HSL.out]; omega) (fun _ => hles')
                            clear hmst hrs2 hrd2
                            generalize s[j] = e at *
                            go_wp2
                            go_roundw
                            case rel => first | exact ⟨i, j + 1, k + 1, M ++ [e], rfl, by go_num, by go_num, by omega, by omega, by omega, by omega, by have := HKM.out; omega, by have := HML.out; simp only [List.length_append, List.length_cons, List.length_nil]; omega, HMST.out, hrs3, hst, hnx3⟩ | ((repeat apply Exists.intro); refine And.intro ?_ rfl; exact ⟨i, j + 1, k + 1, M ++ [e], rfl, by go_num, by go_num, by omega, by omega, by omega, by omega, by have := HKM.out; omega, by have := HML.out; simp only [List.length_append, List.length_cons, List.length_nil]; omega, HMST.out, hrs3, hst, hnx3⟩)
                            case measure => simp [intOf]; omega
                        · -- the second run is spent: take from the first
                          have d1 : decide ((t : Int) ≤ (j : Int)) = true := decide_eq_true (by omega)
                          have d2 : decide ((i : Int) < (m : Int)) = true := decide_eq_true (by omega)
                          go_wp2
                          go_quiet (fail)
                          have hbq : Below wr.heap.size wr (wr.drewN nq) := below_drewN (Below.refl _ _) nq
                          generalize wr.drewN nq = wq at *
                          have hrs2 := hrs.later hbq
                          have hrd2 := hrd.later hbq
                          have hnx2 := hnx.trans (hbq.mono hnx.size)
                          clear hrs hrd hnx hbq
                          obtain ⟨p0, p1, p2, p3, p4, p5, p6⟩ := hrs2.at i hsi
                          obtain ⟨x0, x1, x2, x3, x4, x5, x6⟩ := hrd2.at k HKL.out
                          have hf := hrd2.free
                          have hst := hrd2.store k HKL.out s[i]
                          rw [HPL.out] at hst
                          have hrs3 : Row (put7 wq gb (k * 7) s[i]) 35 ga n s := hrs2.of_block (put7_other _ _ _ _ _ hgab)
                          have hnx3 : Below w.heap.size w (put7 wq gb (k * 7) s[i]) := hnx2.trans ((Keep.put7 (S := fun x => x = gb) (.refl _ wq) _ _ _ rfl).below hnx2.size (fun x hx => by omega))
                          have HMST : Hid (Mst s lo m t (i + 1) j (M ++ [s[i]])) := mst_left hmst him (by rw [HSL.out]; omega) (by rw [HSL.out]; omega) (fun hj => absurd hj hjt)
                          clear hmst hrs2 hrd2
                          generalize s[i] = e at *
                          go_wp2
                          go_roundw
                          case rel => first | exact ⟨i + 1, j, k + 1, M ++ [e], by go_num, rfl, by go_num, by omega, by omega, by omega, by omega, by have := HKM.out; omega, by have := HML.out; simp only [List.length_append, List.length_cons, List.length_nil]; omega, HMST.out, hrs3, hst, hnx3⟩ | ((repeat apply Exists.intro); refine And.intro ?_ rfl; exact ⟨i + 1, j, k + 1, M ++ [e], by go_num, rfl, by go_num, by omega, by omega, by omega, by omega, by have := HKM.out; omega, by have := HML.out; simp only [List.length_append, List.length_cons, List.length_nil]; omega, HMST.out, hrs3, hst, hnx3⟩)
                          case measure => simp [intOf]; omega
                      · -- the first run is spent: take from the second
                        have hjt : j < t := g6 hkt (by omega)
                        have hsj : j < s.length := by rw [HSL.out]; omega
                        have d2 : decide ((i : Int) < (m : Int)) = false := decide_eq_false (by omega)
                        go_wp2
                        go_quiet (fail)
                        have hbq : Below wr.heap.size wr (wr.drewN nq) := below_drewN (Below.refl _ _) nq
                        generalize wr.drewN nq = wq at *
                        have hrs2 := hrs.later hbq
                        have hrd2 := hrd.later hbq
                        have hnx2 := hnx.trans (hbq.mono hnx.size)
                        clear hrs hrd hnx hbq
                        obtain ⟨p0, p1, p2, p3, p4, p5, p6⟩ := hrs2.at j hsj
                        obtain ⟨x0, x1, x2, x3, x4, x5, x6⟩ := hrd2.at k HKL.out
                        have hf := hrd2.free
                        have hst := hrd2.store k HKL.out s[j]
                        rw [HPL.out] at hst
                        have hrs3 : Row (put7 wq gb (k * 7) s[j]) 35 ga n s := hrs2.of_block (put7_other _ _ _ _ _ hgab)
                        have hnx3 : Below w.heap.size w (put7 wq gb (k * 7) s[j]) := hnx2.trans ((Keep.put7 (S := fun x => x = gb) (.refl _ wq) _ _ _ rfl).below hnx2.size (fun x hx => by omega))
                        have HMST : Hid (Mst s lo m t i (j + 1) (M ++ [s[j]])) := mst_right hmst hjt (by rw [HSL.out]; omega) (by rw [HSL.out]; omega) (fun hi => absurd hi him)
                        clear hmst hrs2 hrd2
                        generalize s[j] = e at *
                        go_wp2
                        go_roundw
                        case rel => first | exact ⟨i, j + 1, k + 1, M ++ [e], rfl, by go_num, by go_num, by omega, by omega, by omega, by omega, by have := HKM.out; omega, by have := HML.out; simp only [List.length_append, List.length_cons, List.length_nil]; omega, HMST.out, hrs3, hst, hnx3⟩ | ((repeat apply Exists.intro); refine And.intro ?_ rfl; exact ⟨i, j + 1, k + 1, M ++ [e], rfl, by go_num, by go_num, by omega, by omega, by omega, by omega, by have := HKM.out; omega, by have := HML.out; simp only [List.length_append, List.length_cons, List.length_nil]; omega, HMST.out, hrs3, hst, hnx3⟩)
                        case measure => simp [intOf]; omega
                    · -- the merge is whole
                      have e1 : M = mg (st s lo m) (st s m t) := mst_end hmst (by have := HKM.out; omega) (by have := HKM.out; omega)
                      have e2 : k = t := by omega
                      have hpass' : Pass q s (d.take lo ++ M ++ d.drop k) (lo + 2 * q) := by
                        refine pass_step hpass (by omega) (by rw [HSL.out]; omega) HMOD.out hruns ?_
                        rw [HSL.out, ← HM.out, ← HT.out, e1, e2]
                      have hmod' : (lo + 2 * q) % (2 * q) = 0 := by rw [Nat.add_mod_right]; exact HMOD.out
                      clear e1 e2 hmst hpass
                      generalize d.take lo ++ M ++ d.drop k = D at *
                      go_wp2
                      go_roundw
                      case rel => first | exact ⟨lo + 2 * q, D, by go_num, hmod', by omega, hrs, hrd, hpass', hnx⟩ | ((repeat apply Exists.intro); refine And.intro ?_ rfl; exact ⟨lo + 2 * q, D, by go_num, hmod', by omega, hrs, hrd, hpass', hnx⟩)
                      case measure => simp [intOf]; omega
            · -- the pass is whole
              obtain ⟨hr2, hp2⟩ := pass_end hpass (by rw [HSL.out]; omega)
              have hr3 : Runs (q * 2) d d.length := by rw [Nat.mul_comm]; exact hr2
              clear hr2 hpass hruns
              go_wp2
              go_roundw
              case rel => first | exact ⟨q * 2, gb, ga, d, s, rfl, rfl, by go_num, by omega, by omega, Ne.symm hgab, hgb, hga, hrd, hrs, HDL.out, HSL.out, hp2.trans hperm, hr3, hnx⟩ | ((repeat apply Exists.intro); refine And.intro ?_ rfl; exact ⟨q * 2, gb, ga, d, s, rfl, rfl, by go_num, by omega, by omega, Ne.symm hgab, hgb, hga, hrd, hrs, HDL.out, HSL.out, hp2.trans hperm, hr3, hnx⟩)
              case measure => simp [intOf]; omega
        · have hsorted := runs_sorted hruns (by rw [HSL.out]; omega)
          go_wp2
          go_ret
          exact ⟨ga, s, rfl, hrs, hperm, hsorted, hnx⟩
end Go.Proofs.Qxb6003230a.Hp
