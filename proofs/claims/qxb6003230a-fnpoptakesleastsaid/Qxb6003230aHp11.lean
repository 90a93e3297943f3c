import Derived.Test.Qxb6003230aHp9
import Derived.Test.Qxb6003230aHp5
import Derived.Test.Qxb6003230aHp6
namespace Go.Proofs.Qxb6003230a.Hp
open Go.RowKit Go.Sort

/-- Everything whose parent stands at s or behind is in order. -/
def Ord (s : Nat) (L : List E) : Prop := ∀ j, 0 < j → j < L.length → s ≤ (j - 1) / 2 → bef (gt L j) (gt L ((j - 1) / 2)) = false
theorem ord_start (L : List E) (n : Nat) (h : L.length = n) : Ord (n / 2) L := fun j j0 hj hs => by omega
theorem ord_dn {s : Nat} {L : List E} (h : Ord (s + 1) L) : Dn s L s := ⟨fun j j0 hj h1 h2 => h j j0 hj (by omega), fun h0 h1 => by omega⟩
theorem ord_heap {L : List E} (h : Ord 0 L) : Heap L := fun j j0 hj => h j j0 hj (Nat.zero_le _)

/-- The seven cells of a regrown world. -/
structure ReAt (w : World) (g off : Nat) (e : E) : Prop where
  c0 : ∀ d os, (grow (redrawn w d) os).cell? ⟨g, off, none⟩ = some (.int .i64 e.tick)
  c1 : ∀ d os, (grow (redrawn w d) os).cell? ⟨g, off + 1, none⟩ = some (.int .u64 e.seq)
  c2 : ∀ d os, (grow (redrawn w d) os).cell? ⟨g, off + 2, none⟩ = some (.int .i64 e.bid)
  c3 : ∀ d os, (grow (redrawn w d) os).cell? ⟨g, off + 3, none⟩ = some (.int .i32 e.task)
  c4 : ∀ d os, (grow (redrawn w d) os).cell? ⟨g, off + 4, none⟩ = some (.int .i32 e.con)
  c5 : ∀ d os, (grow (redrawn w d) os).cell? ⟨g, off + 5, none⟩ = some (.int .u8 e.kind)
  c6 : ∀ d os, (grow (redrawn w d) os).cell? ⟨g, off + 6, none⟩ = some (.int .i64 e.perf)
theorem At.re {w : World} {g off : Nat} {e : E} (h : At w g off e) : ReAt w g off e :=
  ⟨cell_regrown h.c0, cell_regrown h.c1, cell_regrown h.c2, cell_regrown h.c3, cell_regrown h.c4, cell_regrown h.c5, cell_regrown h.c6⟩

/-- zzBefore in a region that draws. -/
theorem zzBefore_re (a b : E) (w : World) : ∀ d os, Calls Try.prog 13 #[.agg #[.int .i64 a.tick, .int .u64 a.seq, .int .i64 a.bid, .int .i32 a.task, .int .i32 a.con, .int .u8 a.kind, .int .i64 a.perf], .agg #[.int .i64 b.tick, .int .u64 b.seq, .int .i64 b.bid, .int .i32 b.task, .int .i32 b.con, .int .u8 b.kind, .int .i64 b.perf]] (grow (redrawn w d) os)
    fun e w'' => e = .returned (.bool (bef a b)) ∧ ∃ p : Regrown, w'' = grow (redrawn w p.d) p.os := fun _ _ => Calls.regrown_of (zzBefore_any a b _)

/-- The exchange by way of a third place: what the walk is told. -/
theorem swap_facts35 {w : World} {g c : Nat} {L : List E} (hr : Row w 35 g c L) {i p : Nat} (hi : i < L.length) (hp : p < L.length) (hne : i ≠ p) :
    At w g (i * 7) (gt L i) ∧ At w g (p * 7) (gt L p) ∧ At (put7 w g (i * 7) (gt L p)) g (p * 7) (gt L p) ∧ Row (put7 (put7 w g (i * 7) (gt L p)) g (p * 7) (gt L i)) 35 g c (sw L i p) := by
  rw [gt_eq L i hi, gt_eq L p hp]
  have h1 := hr.store i hi L[p]
  have h2 := h1.at p (by simpa using hp)
  rw [List.getElem_set_ne hne] at h2
  have h3 := h1.store p (by simpa using hp) L[i]
  refine ⟨hr.at i hi, hr.at p hp, h2, ?_⟩
  unfold sw
  rw [gt_eq L i hi, gt_eq L p hp]
  exact h3

theorem swap_end {w wX : World} {o p n : Nat} {ei ec : E} {L : List E} {T : Obj} (hr : Row (put7 (put7 wX w.heap.size o ec) w.heap.size p ei) 35 w.heap.size n L) (hnx : Below w.heap.size w wX) (hsz : w.heap.size < wX.heap.size) :
    Row ((put7 (put7 wX w.heap.size o ec) w.heap.size p ei).alloc T) 35 w.heap.size n L ∧ Below w.heap.size w ((put7 (put7 wX w.heap.size o ec) w.heap.size p ei).alloc T) ∧ w.heap.size < ((put7 (put7 wX w.heap.size o ec) w.heap.size p ei).alloc T).heap.size := by
  have hk : Keep (fun k => k = w.heap.size) wX (put7 (put7 wX w.heap.size o ec) w.heap.size p ei) := ((Keep.refl (fun k => k = w.heap.size) wX).put7 w.heap.size o ec rfl).put7 w.heap.size p ei rfl
  have hb := hnx.trans (hk.below hnx.size (fun k hk => by omega))
  have hs : w.heap.size < (put7 (put7 wX w.heap.size o ec) w.heap.size p ei).heap.size := by rw [put7_size, put7_size]; exact hsz
  generalize put7 (put7 wX w.heap.size o ec) w.heap.size p ei = wz at *
  exact ⟨hr.later ((Below.refl _ _).alloc (Nat.le_refl _) _), hb.alloc (by omega) _, by simp; omega⟩

set_option maxHeartbeats 4000000 in
set_option maxRecDepth 100000 in
/-- zzHeapify: a heap of the same events in a fresh row. -/
theorem heapify_any (a : Option Addr) (n c : Nat) (l : List E) (w : World) (hn : n ≤ 4096) (hs : Sl w 35 a n c l) :
    Calls Try.prog 17 #[.slice a n c] w fun e w' => ∃ l', e = .returned (.slice (some ⟨w.heap.size, 0, none⟩) n n) ∧ Row w' 35 w.heap.size n l' ∧ l'.Perm l ∧ Heap l' ∧ Below w.heap.size w w' := by
  obtain ⟨i0, hi, hz0, hz1, hz2⟩ := info_parts Try.info35
  have HL : Hid (n = l.length) := hs.1.symm
  go_enter Try.func17, Try.ntmps17
  go_wp2_with (first | (at_make; refine wpList_make_full _ rfl _ _ 22 rfl w.heap.size 35 i0 _ 7 Try.underlying22 hi hz0 hz1 _ _ _ _ n rfl rfl rfl rfl (by rw [hz2]; omega) (by unfold maxLen; omega) (Nat.le_refl _) ?_))
  intro w1 hown hgrow
  rw [ev_made] at hown
  have hrow : Row w1 35 w.heap.size n (cp l 0) := by rw [cp_zero, ← HL.out]; exact row_made (by simp) hown
  have hb1 : Below w.heap.size w w1 := (Below.refl _ _).grown hgrow (Nat.le_refl _) (by simp)
  clear hgrow hown hz0 hz1 hz2 hi
  go_wp2
  go_loopw [5] (fun i wr => ∃ k : Nat, k ≤ n ∧ i = .int .i64 k ∧ Row wr 35 w.heap.size n (cp l k) ∧ Below w.heap.size w wr) (fun i _ => n - (intOf i).toNat)
  case atStart => exact ⟨0, Nat.zero_le _, rfl, hrow, hb1⟩
  case round =>
    clear hrow hb1
    obtain ⟨k, hk, rfl, hrow, hnx⟩ := hrel
    by_cases hlt : k < n
    · have hlk : k < l.length := by rw [← HL.out]; exact hlt
      obtain ⟨g, rfl, hsr⟩ := hs.row (by omega)
      obtain ⟨p0, p1, p2, p3, p4, p5, p6⟩ := (hsr.later hnx).at k hlk
      have hle : k < (cp l k).length := by rw [cp_len _ _ (by omega)]; exact hlk
      have hst := hrow.store k hle l[k]
      rw [cp_set _ _ hlk] at hst
      have hkp : Below w.heap.size w (put7 wr w.heap.size (k * 7) l[k]) := hnx.trans ((Keep.put7 (S := fun j => j = w.heap.size) (.refl _ wr) _ _ _ rfl).below hnx.size (fun j hj => by omega))
      obtain ⟨t0, t1, t2, t3, t4, t5, t6⟩ := hrow.at k hle
      have hf := hrow.free
      generalize l[k] = e at *
      go_wp2
      go_roundw
      case rel => exact ⟨k + 1, by omega, by go_num, hst, hkp⟩
      case measure => (simp [intOf] <;> omega)
    · obtain rfl : n = k := by omega
      have hrow' : Row wr 35 w.heap.size n l := by have h := hrow; rw [HL.out, cp_end, ← HL.out] at h; exact h
      have hsz : w.heap.size < wr.heap.size := hrow'.lt
      clear hrow hlt hk hs
      go_wp2
      go_loopw [6, 7, 8, 9, 10] (fun v6 _ _ _ _ ws => ∃ (s : Nat) (L : List E), v6 = .int .i64 ((s : Int) - 1) ∧ s ≤ n ∧ L.length = n ∧ Ord s L ∧ L.Perm l ∧ Row ws 35 w.heap.size n L ∧ Below w.heap.size w ws ∧ w.heap.size < ws.heap.size) (fun v6 _ _ _ _ _ => (intOf v6 + 1).toNat)
      case atStart => exact ⟨n / 2, l, congrArg (Value.int .i64) (by omega), by omega, HL.out.symm, ord_start l n HL.out.symm, List.Perm.refl _, hrow', hnx, hsz⟩
      case round =>
        clear hrow' hnx hsz
        obtain ⟨s, L, rfl, hsn, hLl, hord, hperm, hrow, hnx, hsz⟩ := hrel
        by_cases hs0 : 0 < s
        · obtain ⟨s, rfl⟩ : ∃ s', s = s' + 1 := ⟨s - 1, by omega⟩
          have hsI : ((s + 1 : Nat) : Int) - 1 = (s : Int) := by omega
          rw [hsI]
          have hdn := ord_dn hord
          clear hsI hord hs0
          go_wp2
          go_loopw [7, 8, 9, 10] (fun v7 _ _ _ wt => ∃ (i : Nat) (L : List E), v7 = .int .i64 i ∧ i < n ∧ s ≤ i ∧ L.length = n ∧ Dn s L i ∧ L.Perm l ∧ Row wt 35 w.heap.size n L ∧ Below w.heap.size w wt ∧ w.heap.size < wt.heap.size) (fun v7 _ _ _ _ => n - (intOf v7).toNat)
          case atStart => exact ⟨s, L, rfl, by omega, Nat.le_refl _, hLl, hdn, hperm, hrow, hnx, hsz⟩
          case round =>
            clear hrow hnx hsz hdn hperm hLl
            obtain ⟨i, L, rfl, hin, hsi, hLl, hdn, hperm, hrow, hnx, hsz⟩ := hrel
            have HLL : Hid (L.length = n) := hLl
            clear hLl
            obtain ⟨x, hx⟩ : ∃ x, 2 * i + 1 = x := ⟨_, rfl⟩
            have hxI : 2 * (i : Int) + 1 = (x : Int) := by omega
            have hix : i < x := by omega
            have hx2 : x ≤ 2 * n + 1 := by omega
            have HX : Hid (2 * i + 1 = x) := hx
            clear hx
            by_cases hxn : x < n
            · have hiL : i < L.length := by rw [HLL.out]; omega
              have hxL : x < L.length := by rw [HLL.out]; omega
              have b1 : (x : Int) < (n : Int) := by omega
              have b2 : (i : Int) < (n : Int) := by omega
              obtain ⟨y, hy⟩ : ∃ y, x + 1 = y := ⟨_, rfl⟩
              have hyI : (x : Int) + 1 = (y : Int) := by omega
              have hxy : x < y := by omega
              have HY : Hid (x + 1 = y) := hy
              clear hy
              have HKID : Hid (∀ j, 0 < j → (j - 1) / 2 = i → j = x ∨ j = y) := fun j j0 hj => by have := HX.out; have := HY.out; omega
              by_cases hyn : y < n
              · have hyL : y < L.length := by rw [HLL.out]; omega
                have b3 : (y : Int) < (n : Int) := by omega
                obtain ⟨ky0, ky1, ky2, ky3, ky4, ky5, ky6⟩ := (hrow.at y hyL).re
                obtain ⟨kz0, kz1, kz2, kz3, kz4, kz5, kz6⟩ := (hrow.at x hxL).re
                have cL1 := zzBefore_re L[y] L[x] wr
                by_cases hb1 : bef L[y] L[x] = true
                · have hM : ∀ j, 0 < j → j < L.length → (j - 1) / 2 = i → bef (gt L j) (gt L y) = false := fun j j0 _ hj => by
                    rcases HKID.out j j0 hj with rfl | rfl
                    · rw [gt_eq L j hxL, gt_eq L y hyL]; exact bef_asymm hb1
                    · exact bef_refl _
                  go_wp2
                  refine wp_region_quiet_below (by kernel_rfl) (by kernel_rfl) ?_
                  repeat (first | go_big_quiet_step (exact cL1 _ _) | quiet_step (exact cL1 _ _))
                  refine wpQuiet_nil ?_
                  intro _ hw'
                  obtain ⟨⟨dq, osq⟩, hw''⟩ := hw'
                  subst hw''
                  have hbq : Below wr.heap.size wr (grow (redrawn wr dq) osq) := below_regrown wr dq osq
                  clear cL1 ky0 ky1 ky2 ky3 ky4 ky5 ky6 kz0 kz1 kz2 kz3 kz4 kz5 kz6
                  generalize grow (redrawn wr dq) osq = wy at *
                  have hrowY := hrow.later hbq
                  have hnxY := hnx.trans (hbq.mono hnx.size)
                  have hszY : w.heap.size < wy.heap.size := by have := hbq.size; omega
                  clear hrow hnx hsz hbq
                  go_wp2
                  obtain ⟨ky0, ky1, ky2, ky3, ky4, ky5, ky6⟩ := (hrowY.at y hyL).re
                  obtain ⟨kz0, kz1, kz2, kz3, kz4, kz5, kz6⟩ := (hrowY.at i hiL).re
                  have cL2 := zzBefore_re L[y] L[i] wy
                  by_cases hb2 : bef L[y] L[i] = true
                  · have hB : bef (gt L y) (gt L i) = true := by rw [gt_eq L y hyL, gt_eq L i hiL]; exact hb2
                    refine wp_region_quiet_below (by kernel_rfl) (by kernel_rfl) ?_
                    repeat (first | go_big_quiet_step (exact cL2 _ _) | quiet_step (exact cL2 _ _))
                    refine wpQuiet_nil ?_
                    intro _ hw'
                    obtain ⟨⟨dq, osq⟩, hw''⟩ := hw'
                    subst hw''
                    have hbq : Below wy.heap.size wy (grow (redrawn wy dq) osq) := below_regrown wy dq osq
                    clear cL2 ky0 ky1 ky2 ky3 ky4 ky5 ky6 kz0 kz1 kz2 kz3 kz4 kz5 kz6
                    generalize grow (redrawn wy dq) osq = wX at *
                    have hrowX := hrowY.later hbq
                    have hnxX := hnxY.trans (hbq.mono hnxY.size)
                    have hszX : w.heap.size < wX.heap.size := by have := hbq.size; omega
                    clear hrowY hnxY hszY hbq
                    have HDN : Hid (Dn s (sw L i y) y) := dn_step hdn (by omega) (by rw [HLL.out]; omega) (by have := HX.out; omega) hsi hB hM
                    have HSL : Hid ((sw L i y).length = n) := (sw_len L i y).trans HLL.out
                    have HPM : Hid ((sw L i y).Perm l) := (sw_perm L i y hiL hyL).trans hperm
                    obtain ⟨ai, ac, az, hrow3⟩ := swap_facts35 hrowX hiL hyL (by omega)
                    clear hdn hperm hB hM
                    generalize gt L i = ei at *
                    generalize gt L y = ec at *
                    obtain ⟨p0, p1, p2, p3, p4, p5, p6⟩ := ai
                    obtain ⟨q0, q1, q2, q3, q4, q5, q6⟩ := ac
                    have hf := hrowX.free
                    go_upto_region 19 with fail
                    clear p0 p1 p2 p3 p4 p5 p6 q0 q1 q2 q3 q4 q5 q6
                    have HR : Hid (Row ((put7 (put7 wX w.heap.size (i * 7) ec) w.heap.size (y * 7) ei).alloc (.cells #[.int .i64 ei.tick, .int .u64 ei.seq, .int .i64 ei.bid, .int .i32 ei.task, .int .i32 ei.con, .int .u8 ei.kind, .int .i64 ei.perf] 35)) 35 w.heap.size n (sw L i y) ∧
                        Below w.heap.size w ((put7 (put7 wX w.heap.size (i * 7) ec) w.heap.size (y * 7) ei).alloc (.cells #[.int .i64 ei.tick, .int .u64 ei.seq, .int .i64 ei.bid, .int .i32 ei.task, .int .i32 ei.con, .int .u8 ei.kind, .int .i64 ei.perf] 35)) ∧ w.heap.size < ((put7 (put7 wX w.heap.size (i * 7) ec) w.heap.size (y * 7) ei).alloc (.cells #[.int .i64 ei.tick, .int .u64 ei.seq, .int .i64 ei.bid, .int .i32 ei.task, .int .i32 ei.con, .int .u8 ei.kind, .int .i64 ei.perf] 35)).heap.size) :=
                      swap_end hrow3 hnxX hszX
                    obtain ⟨z0, z1, z2, z3, z4, z5, z6⟩ := az
                    unfold put7 at z0 z1 z2 z3 z4 z5 z6
                    clear hrow3 hrowX hnxX
                    go_wp2
                    go_roundw
                    case rel =>
                      obtain ⟨r1, r2, r3⟩ := HR.out
                      unfold put7 at r1 r2 r3
                      exact ⟨y, sw L i y, rfl, by omega, by omega, HSL.out, HDN.out, HPM.out, r1, r2, r3⟩
                    case measure => (simp [intOf] <;> omega)
                  · have hb2' : bef L[y] L[i] = false := by simpa using hb2
                    have hord : Ord s L := dn_end hdn (fun j j0 hj hp => by
                      have h1 : bef (gt L y) (gt L i) = false := by rw [gt_eq L y hyL, gt_eq L i hiL]; exact hb2'
                      exact bef_trans h1 (hM j j0 hj hp))
                    clear hb2 hdn hM
                    refine wp_region_quiet_below (by kernel_rfl) (by kernel_rfl) ?_
                    repeat (first | go_big_quiet_step (exact cL2 _ _) | quiet_step (exact cL2 _ _))
                    refine wpQuiet_nil ?_
                    intro _ hw'
                    obtain ⟨⟨dq, osq⟩, hw''⟩ := hw'
                    subst hw''
                    have hbq : Below wy.heap.size wy (grow (redrawn wy dq) osq) := below_regrown wy dq osq
                    clear cL2 ky0 ky1 ky2 ky3 ky4 ky5 ky6 kz0 kz1 kz2 kz3 kz4 kz5 kz6
                    generalize grow (redrawn wy dq) osq = wX at *
                    have hrowX := hrowY.later hbq
                    have hnxX := hnxY.trans (hbq.mono hnxY.size)
                    have hszX : w.heap.size < wX.heap.size := by have := hbq.size; omega
                    clear hrowY hnxY hszY hbq
                    go_wp2
                    go_roundw
                    case rel => exact ⟨s, L, rfl, by omega, HLL.out, hord, hperm, hrowX, hnxX, hszX⟩
                    case measure => (simp [intOf] <;> omega)
                · have hb1' : bef L[y] L[x] = false := by simpa using hb1
                  have hM : ∀ j, 0 < j → j < L.length → (j - 1) / 2 = i → bef (gt L j) (gt L x) = false := fun j j0 _ hj => by
                    rcases HKID.out j j0 hj with rfl | rfl
                    · exact bef_refl _
                    · rw [gt_eq L j hyL, gt_eq L x hxL]; exact hb1'
                  clear hb1
                  go_wp2
                  refine wp_region_quiet_below (by kernel_rfl) (by kernel_rfl) ?_
                  repeat (first | go_big_quiet_step (exact cL1 _ _) | quiet_step (exact cL1 _ _))
                  refine wpQuiet_nil ?_
                  intro _ hw'
                  obtain ⟨⟨dq, osq⟩, hw''⟩ := hw'
                  subst hw''
                  have hbq : Below wr.heap.size wr (grow (redrawn wr dq) osq) := below_regrown wr dq osq
                  clear cL1 ky0 ky1 ky2 ky3 ky4 ky5 ky6 kz0 kz1 kz2 kz3 kz4 kz5 kz6
                  generalize grow (redrawn wr dq) osq = wy at *
                  have hrowY := hrow.later hbq
                  have hnxY := hnx.trans (hbq.mono hnx.size)
                  have hszY : w.heap.size < wy.heap.size := by have := hbq.size; omega
                  clear hrow hnx hsz hbq
                  go_wp2
                  obtain ⟨ky0, ky1, ky2, ky3, ky4, ky5, ky6⟩ := (hrowY.at x hxL).re
                  obtain ⟨kz0, kz1, kz2, kz3, kz4, kz5, kz6⟩ := (hrowY.at i hiL).re
                  have cL2 := zzBefore_re L[x] L[i] wy
                  by_cases hb2 : bef L[x] L[i] = true
                  · have hB : bef (gt L x) (gt L i) = true := by rw [gt_eq L x hxL, gt_eq L i hiL]; exact hb2
                    refine wp_region_quiet_below (by kernel_rfl) (by kernel_rfl) ?_
                    repeat (first | go_big_quiet_step (exact cL2 _ _) | quiet_step (exact cL2 _ _))
                    refine wpQuiet_nil ?_
                    intro _ hw'
                    obtain ⟨⟨dq, osq⟩, hw''⟩ := hw'
                    subst hw''
                    have hbq : Below wy.heap.size wy (grow (redrawn wy dq) osq) := below_regrown wy dq osq
                    clear cL2 ky0 ky1 ky2 ky3 ky4 ky5 ky6 kz0 kz1 kz2 kz3 kz4 kz5 kz6
                    generalize grow (redrawn wy dq) osq = wX at *
                    have hrowX := hrowY.later hbq
                    have hnxX := hnxY.trans (hbq.mono hnxY.size)
                    have hszX : w.heap.size < wX.heap.size := by have := hbq.size; omega
                    clear hrowY hnxY hszY hbq
                    have HDN : Hid (Dn s (sw L i x) x) := dn_step hdn (by omega) (by rw [HLL.out]; omega) (by have := HX.out; omega) hsi hB hM
                    have HSL : Hid ((sw L i x).length = n) := (sw_len L i x).trans HLL.out
                    have HPM : Hid ((sw L i x).Perm l) := (sw_perm L i x hiL hxL).trans hperm
                    obtain ⟨ai, ac, az, hrow3⟩ := swap_facts35 hrowX hiL hxL (by omega)
                    clear hdn hperm hB hM
                    generalize gt L i = ei at *
                    generalize gt L x = ec at *
                    obtain ⟨p0, p1, p2, p3, p4, p5, p6⟩ := ai
                    obtain ⟨q0, q1, q2, q3, q4, q5, q6⟩ := ac
                    have hf := hrowX.free
                    go_upto_region 19 with fail
                    clear p0 p1 p2 p3 p4 p5 p6 q0 q1 q2 q3 q4 q5 q6
                    have HR : Hid (Row ((put7 (put7 wX w.heap.size (i * 7) ec) w.heap.size (x * 7) ei).alloc (.cells #[.int .i64 ei.tick, .int .u64 ei.seq, .int .i64 ei.bid, .int .i32 ei.task, .int .i32 ei.con, .int .u8 ei.kind, .int .i64 ei.perf] 35)) 35 w.heap.size n (sw L i x) ∧
                        Below w.heap.size w ((put7 (put7 wX w.heap.size (i * 7) ec) w.heap.size (x * 7) ei).alloc (.cells #[.int .i64 ei.tick, .int .u64 ei.seq, .int .i64 ei.bid, .int .i32 ei.task, .int .i32 ei.con, .int .u8 ei.kind, .int .i64 ei.perf] 35)) ∧ w.heap.size < ((put7 (put7 wX w.heap.size (i * 7) ec) w.heap.size (x * 7) ei).alloc (.cells #[.int .i64 ei.tick, .int .u64 ei.seq, .int .i64 ei.bid, .int .i32 ei.task, .int .i32 ei.con, .int .u8 ei.kind, .int .i64 ei.perf] 35)).heap.size) :=
                      swap_end hrow3 hnxX hszX
                    obtain ⟨z0, z1, z2, z3, z4, z5, z6⟩ := az
                    unfold put7 at z0 z1 z2 z3 z4 z5 z6
                    clear hrow3 hrowX hnxX
                    go_wp2
                    go_roundw
                    case rel =>
                      obtain ⟨r1, r2, r3⟩ := HR.out
                      unfold put7 at r1 r2 r3
                      exact ⟨x, sw L i x, rfl, by omega, by omega, HSL.out, HDN.out, HPM.out, r1, r2, r3⟩
                    case measure => (simp [intOf] <;> omega)
                  · have hb2' : bef L[x] L[i] = false := by simpa using hb2
                    have hord : Ord s L := dn_end hdn (fun j j0 hj hp => by
                      have h1 : bef (gt L x) (gt L i) = false := by rw [gt_eq L x hxL, gt_eq L i hiL]; exact hb2'
                      exact bef_trans h1 (hM j j0 hj hp))
                    clear hb2 hdn hM
                    refine wp_region_quiet_below (by kernel_rfl) (by kernel_rfl) ?_
                    repeat (first | go_big_quiet_step (exact cL2 _ _) | quiet_step (exact cL2 _ _))
                    refine wpQuiet_nil ?_
                    intro _ hw'
                    obtain ⟨⟨dq, osq⟩, hw''⟩ := hw'
                    subst hw''
                    have hbq : Below wy.heap.size wy (grow (redrawn wy dq) osq) := below_regrown wy dq osq
                    clear cL2 ky0 ky1 ky2 ky3 ky4 ky5 ky6 kz0 kz1 kz2 kz3 kz4 kz5 kz6
                    generalize grow (redrawn wy dq) osq = wX at *
                    have hrowX := hrowY.later hbq
                    have hnxX := hnxY.trans (hbq.mono hnxY.size)
                    have hszX : w.heap.size < wX.heap.size := by have := hbq.size; omega
                    clear hrowY hnxY hszY hbq
                    go_wp2
                    go_roundw
                    case rel => exact ⟨s, L, rfl, by omega, HLL.out, hord, hperm, hrowX, hnxX, hszX⟩
                    case measure => (simp [intOf] <;> omega)
              · have hM : ∀ j, 0 < j → j < L.length → (j - 1) / 2 = i → bef (gt L j) (gt L x) = false := fun j j0 hjl hj => by
                  rcases HKID.out j j0 hj with rfl | rfl
                  · exact bef_refl _
                  · exfalso; rw [HLL.out] at hjl; omega
                go_wp2
                go_quiet (fail)
                have hbq : Below wr.heap.size wr (wr.drewN nq) := below_drewN (Below.refl _ _) nq
                generalize wr.drewN nq = wy at *
                have hrowY := hrow.later hbq
                have hnxY := hnx.trans (hbq.mono hnx.size)
                have hszY : w.heap.size < wy.heap.size := by have := hbq.size; omega
                clear hrow hnx hsz hbq
                go_wp2
                obtain ⟨ky0, ky1, ky2, ky3, ky4, ky5, ky6⟩ := (hrowY.at x hxL).re
                obtain ⟨kz0, kz1, kz2, kz3, kz4, kz5, kz6⟩ := (hrowY.at i hiL).re
                have cL2 := zzBefore_re L[x] L[i] wy
                by_cases hb2 : bef L[x] L[i] = true
                · have hB : bef (gt L x) (gt L i) = true := by rw [gt_eq L x hxL, gt_eq L i hiL]; exact hb2
                  refine wp_region_quiet_below (by kernel_rfl) (by kernel_rfl) ?_
                  repeat (first | go_big_quiet_step (exact cL2 _ _) | quiet_step (exact cL2 _ _))
                  refine wpQuiet_nil ?_
                  intro _ hw'
                  obtain ⟨⟨dq, osq⟩, hw''⟩ := hw'
                  subst hw''
                  have hbq : Below wy.heap.size wy (grow (redrawn wy dq) osq) := below_regrown wy dq osq
                  clear cL2 ky0 ky1 ky2 ky3 ky4 ky5 ky6 kz0 kz1 kz2 kz3 kz4 kz5 kz6
                  generalize grow (redrawn wy dq) osq = wX at *
                  have hrowX := hrowY.later hbq
                  have hnxX := hnxY.trans (hbq.mono hnxY.size)
                  have hszX : w.heap.size < wX.heap.size := by have := hbq.size; omega
                  clear hrowY hnxY hszY hbq
                  have HDN : Hid (Dn s (sw L i x) x) := dn_step hdn (by omega) (by rw [HLL.out]; omega) (by have := HX.out; omega) hsi hB hM
                  have HSL : Hid ((sw L i x).length = n) := (sw_len L i x).trans HLL.out
                  have HPM : Hid ((sw L i x).Perm l) := (sw_perm L i x hiL hxL).trans hperm
                  obtain ⟨ai, ac, az, hrow3⟩ := swap_facts35 hrowX hiL hxL (by omega)
                  clear hdn hperm hB hM
                  generalize gt L i = ei at *
                  generalize gt L x = ec at *
                  obtain ⟨p0, p1, p2, p3, p4, p5, p6⟩ := ai
                  obtain ⟨q0, q1, q2, q3, q4, q5, q6⟩ := ac
                  have hf := hrowX.free
                  go_upto_region 19 with fail
                  clear p0 p1 p2 p3 p4 p5 p6 q0 q1 q2 q3 q4 q5 q6
                  have HR : Hid (Row ((put7 (put7 wX w.heap.size (i * 7) ec) w.heap.size (x * 7) ei).alloc (.cells #[.int .i64 ei.tick, .int .u64 ei.seq, .int .i64 ei.bid, .int .i32 ei.task, .int .i32 ei.con, .int .u8 ei.kind, .int .i64 ei.perf] 35)) 35 w.heap.size n (sw L i x) ∧
                      Below w.heap.size w ((put7 (put7 wX w.heap.size (i * 7) ec) w.heap.size (x * 7) ei).alloc (.cells #[.int .i64 ei.tick, .int .u64 ei.seq, .int .i64 ei.bid, .int .i32 ei.task, .int .i32 ei.con, .int .u8 ei.kind, .int .i64 ei.perf] 35)) ∧ w.heap.size < ((put7 (put7 wX w.heap.size (i * 7) ec) w.heap.size (x * 7) ei).alloc (.cells #[.int .i64 ei.tick, .int .u64 ei.seq, .int .i64 ei.bid, .int .i32 ei.task, .int .i32 ei.con, .int .u8 ei.kind, .int .i64 ei.perf] 35)).heap.size) :=
                    swap_end hrow3 hnxX hszX
                  obtain ⟨z0, z1, z2, z3, z4, z5, z6⟩ := az
                  unfold put7 at z0 z1 z2 z3 z4 z5 z6
                  clear hrow3 hrowX hnxX
                  go_wp2
                  go_roundw
                  case rel =>
                    obtain ⟨r1, r2, r3⟩ := HR.out
                    unfold put7 at r1 r2 r3
                    exact ⟨x, sw L i x, rfl, by omega, by omega, HSL.out, HDN.out, HPM.out, r1, r2, r3⟩
                  case measure => (simp [intOf] <;> omega)
                · have hb2' : bef L[x] L[i] = false := by simpa using hb2
                  have hord : Ord s L := dn_end hdn (fun j j0 hj hp => by
                    have h1 : bef (gt L x) (gt L i) = false := by rw [gt_eq L x hxL, gt_eq L i hiL]; exact hb2'
                    exact bef_trans h1 (hM j j0 hj hp))
                  clear hb2 hdn hM
                  refine wp_region_quiet_below (by kernel_rfl) (by kernel_rfl) ?_
                  repeat (first | go_big_quiet_step (exact cL2 _ _) | quiet_step (exact cL2 _ _))
                  refine wpQuiet_nil ?_
                  intro _ hw'
                  obtain ⟨⟨dq, osq⟩, hw''⟩ := hw'
                  subst hw''
                  have hbq : Below wy.heap.size wy (grow (redrawn wy dq) osq) := below_regrown wy dq osq
                  clear cL2 ky0 ky1 ky2 ky3 ky4 ky5 ky6 kz0 kz1 kz2 kz3 kz4 kz5 kz6
                  generalize grow (redrawn wy dq) osq = wX at *
                  have hrowX := hrowY.later hbq
                  have hnxX := hnxY.trans (hbq.mono hnxY.size)
                  have hszX : w.heap.size < wX.heap.size := by have := hbq.size; omega
                  clear hrowY hnxY hszY hbq
                  go_wp2
                  go_roundw
                  case rel => exact ⟨s, L, rfl, by omega, HLL.out, hord, hperm, hrowX, hnxX, hszX⟩
                  case measure => (simp [intOf] <;> omega)
            · have hord : Ord s L := dn_end hdn (fun j j0 hj hp => by exfalso; have := HLL.out; have := HX.out; omega)
              clear hdn
              go_wp2
              go_roundw
              case rel => exact ⟨s, L, rfl, by omega, HLL.out, hord, hperm, hrow, hnx, hsz⟩
              case measure => (simp [intOf] <;> omega)
        · obtain rfl : s = 0 := by omega
          have hheap := ord_heap hord
          go_wp2
          go_ret
          exact ⟨L, rfl, hrow, hperm, hheap, hnx⟩
end Go.Proofs.Qxb6003230a.Hp
