import Derived.Test.Qxb6003230aHp9
import Derived.Test.Qxb6003230aHp5
import Derived.Test.Qxb6003230aHp6
namespace Go.Proofs.Qxb6003230a.Hp
open Go.RowKit Go.Sort

theorem bytes7 (a : Option Addr) (n c : Nat) (h : n ≤ maxLen) (w : World) : Calls Try.prog 7 #[.slice a n c] w fun e w' => e = .returned (.bool (decide (n ≤ 1048576))) ∧ w' = w := by
  unfold maxLen at h
  go_enter Try.func7, Try.ntmps7
  go_wp2
  all_goals go_ret
  · exact ⟨ret_bool (by simp; omega), rfl⟩
  · exact ⟨ret_bool (by simp; omega), rfl⟩

theorem drains_bytes (a : Option Addr) (n c : Nat) (h : n ≤ maxLen) (hb : ¬ n ≤ 1048576) (w : World) : Calls Try.prog 3 #[.slice a n c] w fun e w' => e = .returned (.bool true) ∧ w' = w := by
  have hd : decide (n ≤ 1048576) = false := by simp; omega
  go_enter Try.func3, Try.ntmps3
  go_wp2_with (go_at_call 7; refine (bytes7 a n c h _).mono ?_; rintro e w' ⟨rfl, rfl⟩)
  go_ret
  exact ⟨rfl, rfl⟩

theorem drains_long (a : Option Addr) (n c : Nat) (hb : n ≤ 1048576) (h4 : 4096 < n) (w : World) : Calls Try.prog 3 #[.slice a n c] w fun e w' => e = .returned (.bool true) ∧ w' = w := by
  have hd : decide (n ≤ 1048576) = true := by simp; omega
  go_enter Try.func3, Try.ntmps3
  go_wp2_with (go_at_call 7; refine (bytes7 a n c (by unfold maxLen; omega) _).mono ?_; rintro e w' ⟨rfl, rfl⟩)
  go_ret
  exact ⟨rfl, rfl⟩

theorem bstep {a b c : World} (h : Below a.heap.size a b) (k : Below b.heap.size b c) : Below a.heap.size a c := h.trans (k.mono h.size)

theorem Qu.later {w w' : World} {bq : Nat} {ao : Option Addr} {n cap : Nat} {h : List E} (q : Qu w bq ao n cap h) (hb : Below w.heap.size w w') : Qu w' bq ao n cap h :=
  ⟨cell_later hb q.cell, below_frozen hb (World.block_lt_of_cell? _ _ q.cell) q.free, q.sl.later hb, q.ne⟩

theorem Sl.keep {S : Nat → Prop} {w w' : World} {T : TypeId} {a : Option Addr} {n c : Nat} {l : List E} (h : Sl w T a n c l) (hk : Keep S w w') (hn : ∀ g, a = some ⟨g, 0, none⟩ → ¬ S g) : Sl w' T a n c l := by
  obtain ⟨h0, h | ⟨g, h1, h2⟩⟩ := h
  · exact ⟨h0, .inl h⟩
  · exact ⟨h0, .inr ⟨g, h1, h2.keep hk (hn g h1)⟩⟩

/-- The queue while it is filled: k events of l are in it; l's own row is another. -/
structure Fill (w wr : World) (bq : Nat) (a' : Option Addr) (n : Nat) (l : List E) (k : Nat) (ao : Option Addr) (cap : Nat) (hh : List E) : Prop where
  qu : Qu wr bq ao k cap hh
  perm : hh.Perm (l.take k)
  heap : Heap hh
  base : ∀ g, ao = some ⟨g, 0, none⟩ → w.heap.size ≤ g ∧ a' ≠ some ⟨g, 0, none⟩
  evs : Sl wr 35 a' n n l
  nq : a' ≠ some ⟨bq, 0, none⟩
  bqb : w.heap.size ≤ bq
  below : Below w.heap.size w wr

theorem Fill.step {w wr w1 w2 : World} {bq : Nat} {a' : Option Addr} {n : Nat} {l : List E} {k : Nat} {ao : Option Addr} {cap : Nat} {hh : List E} (f : Fill w wr bq a' n l k ao cap hh) (hk : k < l.length) (hb1 : Below wr.heap.size wr w1)
    {g' cap' : Nat} {h' : List E} (hor : ao = some ⟨g', 0, none⟩ ∨ w1.heap.size ≤ g') (hq : Qu w2 bq (some ⟨g', 0, none⟩) (k + 1) cap' h') (hp : h'.Perm (hh ++ [l[k]])) (hhp : Heap h') (hkp : Keep (fun j => j = bq ∨ ao = some ⟨j, 0, none⟩) w1 w2) :
    Fill w w2 bq a' n l (k + 1) (some ⟨g', 0, none⟩) cap' h' := by
  have hsz := f.below.size
  have hsz1 := hb1.size
  have e1 := f.evs.later hb1
  have hb2 : Below w.heap.size w w1 := f.below.trans (hb1.mono hsz)
  refine ⟨hq, ?_, hhp, ?_, ?_, f.nq, f.bqb, ?_⟩
  · rw [List.take_succ_eq_append_getElem hk]
    exact hp.trans (f.perm.append_right _)
  · intro g hg
    cases hg
    rcases hor with h | h
    · exact f.base _ h
    · refine ⟨by omega, fun he => ?_⟩
      obtain ⟨-, h1 | ⟨gg, h1, hr⟩⟩ := f.evs
      · rw [he] at h1; simp at h1
      · rw [he] at h1; cases h1
        have := hr.lt; omega
  · refine e1.keep hkp (fun g hg => ?_)
    rintro (rfl | h)
    · exact f.nq hg
    · exact (f.base g h).2 hg
  · exact hb2.trans (hkp.below hb2.size (fun j hj => by
      rcases hj with rfl | hj
      · exact f.bqb
      · exact (f.base j hj).1))

/-- The queue while it is emptied: i events have been taken, j are left. -/
structure Drain (w wr : World) (bq go : Nat) (a' : Option Addr) (n : Nat) (l : List E) (i j : Nat) (ao : Option Addr) (cap : Nat) (os hh : List E) : Prop where
  qu : Qu wr bq ao j cap hh
  heap : Heap hh
  perm : (os ++ hh).Perm l
  olen : os.length = i
  ij : i + j = n
  sorted : os.Pairwise (fun a b => bef b a = false)
  ord : ∀ x ∈ os, ∀ y ∈ hh, bef y x = false
  out : Row wr 35 go n (os ++ List.replicate j E0)
  evs : Sl wr 35 a' n n l
  base : ∀ g, ao = some ⟨g, 0, none⟩ → w.heap.size ≤ g ∧ a' ≠ some ⟨g, 0, none⟩ ∧ go ≠ g
  nq : a' ≠ some ⟨bq, 0, none⟩
  no : a' ≠ some ⟨go, 0, none⟩
  gq : go ≠ bq
  bqb : w.heap.size ≤ bq
  gob : w.heap.size ≤ go
  below : Below w.heap.size w wr

theorem Fill.drain {w wr w2 : World} {bq : Nat} {a' : Option Addr} {n : Nat} {l : List E} {ao : Option Addr} {cap : Nat} {hh : List E} (f : Fill w wr bq a' n l n ao cap hh) (hl : l.length = n) (hb : Below wr.heap.size wr w2) (hrow : Row w2 35 wr.heap.size n (List.replicate n E0)) :
    Drain w w2 bq wr.heap.size a' n l 0 n ao cap [] hh := by
  have hql : bq < wr.heap.size := World.block_lt_of_cell? _ _ f.qu.cell
  refine ⟨f.qu.later hb, f.heap, ?_, rfl, by omega, List.Pairwise.nil, by simp, by simpa using hrow, f.evs.later hb, ?_, f.nq, ?_, by omega, f.bqb, f.below.size, f.below.trans (hb.mono f.below.size)⟩
  · have := f.perm
    rw [List.take_of_length_le (by omega)] at this
    simpa using this
  · intro g hg
    refine ⟨(f.base g hg).1, (f.base g hg).2, ?_⟩
    obtain ⟨-, h1 | ⟨gg, h1, hr⟩⟩ := f.qu.sl
    · rw [hg] at h1; simp at h1
    · rw [hg] at h1; cases h1
      have := hr.lt; omega
  · intro he
    obtain ⟨-, h1 | ⟨gg, h1, hr⟩⟩ := f.evs
    · rw [he] at h1; simp at h1
    · rw [he] at h1; cases h1
      have := hr.lt; omega

theorem set_snoc (os : List E) (i j : Nat) (x : E) (h : os.length = i) : (os ++ List.replicate (j + 1) E0).set i x = (os ++ [x]) ++ List.replicate j E0 := by
  rw [List.set_append_right _ _ (by omega), h, Nat.sub_self, List.replicate_succ, List.set_cons_zero]
  simp

theorem Drain.step {w wr w1 w2 : World} {bq go : Nat} {a' : Option Addr} {n : Nat} {l : List E} {i j g cap : Nat} {os hh h' : List E} (d : Drain w wr bq go a' n l i (j + 1) (some ⟨g, 0, none⟩) cap os hh)
    (hq : Qu w1 bq (some ⟨g, 0, none⟩) j cap h') (hp : (gt hh 0 :: h').Perm hh) (hhp : Heap h') (hk : Keep (fun k => k = bq ∨ k = g) wr w1) (hb : Below w1.heap.size w1 w2) :
    Row w2 35 go n (os ++ List.replicate (j + 1) E0) ∧ Drain w (put7 w2 go (i * 7) (gt hh 0)) bq go a' n l (i + 1) j (some ⟨g, 0, none⟩) cap (os ++ [gt hh 0]) h' := by
  have hbase := d.base g rfl
  have hm0 : gt hh 0 ∈ hh := hp.subset (by simp)
  have hsub : ∀ y ∈ h', y ∈ hh := fun y hy => hp.subset (by simp [hy])
  have r1 : Row w2 35 go n (os ++ List.replicate (j + 1) E0) := (d.out.keep hk (by have := d.gq; have := hbase.2.2; omega)).later hb
  have e1 : Sl w2 35 a' n n l := (d.evs.keep hk (fun gg hgg => by
    rintro (rfl | rfl)
    · exact d.nq hgg
    · exact hbase.2.1 hgg)).later hb
  have q1 := hq.later hb
  have k1 : Keep (fun k => k = go) w2 (put7 w2 go (i * 7) (gt hh 0)) := (Keep.refl _ _).put7 _ _ _ rfl
  have hil : i < (os ++ List.replicate (j + 1) E0).length := by simp; have := d.olen; omega
  have b1 : Below w.heap.size w w2 := (d.below.trans (hk.below d.below.size (fun k hk => by rcases hk with rfl | rfl; exact d.bqb; exact hbase.1))).trans (hb.mono (Nat.le_trans d.below.size hk.size))
  refine ⟨r1, ⟨⟨cell_keep k1 q1.cell (Ne.symm d.gq), keep_frozen k1 q1.free (World.block_lt_of_cell? _ _ q1.cell) (Ne.symm d.gq), q1.sl.keep k1 (fun gg hgg => by cases hgg; exact Ne.symm hbase.2.2), q1.ne⟩, hhp, ?_, by simp [d.olen], by have := d.ij; omega, ?_, ?_, ?_, e1.keep k1 (fun gg hgg he => by subst he; exact d.no hgg), d.base, d.nq, d.no, d.gq, d.bqb, d.gob, b1.trans (k1.below b1.size (fun k hk => by rw [hk]; exact d.gob))⟩⟩
  · refine List.Perm.trans ?_ d.perm
    rw [List.append_assoc]
    exact hp.append_left os
  · rw [List.pairwise_append]
    refine ⟨d.sorted, by simp, fun x hx y hy => ?_⟩
    simp at hy; subst hy
    exact d.ord x hx _ hm0
  · intro x hx y hy
    rcases List.mem_append.1 hx with h | h
    · exact d.ord x h y (hsub y hy)
    · simp at h; subst h
      exact heap_min d.heap (hsub y hy)
  · have := r1.store i hil (gt hh 0)
    rw [set_snoc os i j _ d.olen] at this
    exact this

set_option maxHeartbeats 4000000 in
set_option maxRecDepth 100000 in
theorem drains_main (a : Option Addr) (n c : Nat) (l : List E) (w : World) (hn : n ≤ 4096) (hl : l.length = n) (hnil : a = none → n = 0 ∧ c = 0) (hin : In w a l) :
    Calls Try.prog 3 #[.slice a n c] w fun e w' => e = .returned (.bool true) ∧ Below w.heap.size w w' := by
  have hd : decide (n ≤ 1048576) = true := by simp; omega
  have HL : Hid (l.length = n) := hl
  go_enter Try.func3, Try.ntmps3
  go_wp2_with (go_at_call 7; refine (bytes7 a n c (by unfold maxLen; omega) _).mono ?_; rintro e w' ⟨rfl, rfl⟩)
  refine (clone_any a n c l _ hn hl hnil hin).mono ?_
  rintro e wA ⟨a', rfl, hsl, hbA, hga⟩
  clear hl hnil hin hd
  go_wp2
  have hbB := (Below.refl wA.heap.size wA).alloc (Nat.le_refl _) (.cells #[.slice none 0 0] 26)
  have hfill : Fill w' (wA.alloc (.cells #[.slice none 0 0] 26)) wA.heap.size a' n l 0 none 0 [] :=
    ⟨⟨by simp [go_sem], by simp [go_sem], ⟨rfl, .inl ⟨rfl, rfl, rfl⟩⟩, by simp⟩, by simp, fun j _ hj => by simp at hj, by simp, hsl.later hbB, fun he => by
      obtain ⟨-, h1 | ⟨gg, h1, hr⟩⟩ := hsl
      · rw [he] at h1; simp at h1
      · rw [he] at h1; cases h1
        have := hr.lt; omega, hbA.size, hbA.trans (hbB.mono hbA.size)⟩
  generalize hbq : wA.heap.size = bq at *
  generalize wA.alloc (.cells #[.slice none 0 0] 26) = wB at *
  clear hsl hbA hga hbB hbq
  go_loopw [5] (fun v5 wr => ∃ (k : Nat) (ao : Option Addr) (cap : Nat) (hh : List E), v5 = .int .i64 k ∧ k ≤ n ∧ Fill w' wr bq a' n l k ao cap hh) (fun v5 _ => n - (intOf v5).toNat)
  case atStart => exact ⟨0, none, 0, [], rfl, Nat.zero_le _, hfill⟩
  case round =>
    clear hfill
    obtain ⟨k, ao, cap, hh, rfl, hk, hf⟩ := hrel
    by_cases hlt : k < n
    · have hkl : k < l.length := by rw [HL.out]; exact hlt
      obtain ⟨ge, rfl, hre⟩ := hf.evs.row (by omega)
      obtain ⟨p0, p1, p2, p3, p4, p5, p6⟩ := hre.at k hkl
      go_wp2_with fail
      refine (toSim_any l[k] wr).mono ?_
      rintro e w1 ⟨rfl, hb1⟩
      clear p0 p1 p2 p3 p4 p5 p6
      go_wp2_with fail
      refine (zzpush_any bq ao k cap hh l[k] w1 (by omega) (hf.qu.later hb1) hf.heap).mono ?_
      rintro e w2 ⟨rfl, g', cap', h', hor, hq, hp, hhp, hkp⟩
      have hf2 := hf.step hkl hb1 hor hq hp hhp hkp
      have hc := hq.cell
      clear hf hq hp hhp hkp hor
      go_wp2
      go_roundw
      case rel => exact ⟨k + 1, some ⟨g', 0, none⟩, cap', h', by go_num, by omega, hf2⟩
      case measure => simp [intOf]; omega
    · obtain rfl : n = k := by omega
      clear hlt hk
      obtain ⟨i0, hi, hz0, hz1, hz2⟩ := info_parts Try.info35
      go_wp2_with (first | (at_make; refine wpList_make_full _ rfl _ _ 22 rfl wr.heap.size 35 i0 _ 7 Try.underlying22 hi hz0 hz1 _ _ _ _ n rfl rfl rfl rfl (by rw [hz2]; omega) (by unfold maxLen; omega) (Nat.le_refl _) ?_))
      intro w2 hown hgrow
      rw [ev_made] at hown
      have hrow : Row w2 35 wr.heap.size n (List.replicate n E0) := row_made (by simp) hown
      have hb2 : Below wr.heap.size wr w2 := (Below.refl _ _).grown hgrow (Nat.le_refl _) (by simp)
      have hdr := hf.drain HL.out hb2 hrow
      generalize wr.heap.size = go at *
      clear hgrow hown hrow hb2 hf hz0 hz1 hz2 hi
      go_wp2
      go_loopw [7] (fun v7 ws => ∃ (i j : Nat) (cap : Nat) (os hh : List E), v7 = .int .i64 i ∧ Drain w' ws bq go a' n l i j ao cap os hh) (fun v7 _ => n - (intOf v7).toNat)
      case atStart => exact ⟨0, n, cap, [], hh, rfl, hdr⟩
      case round =>
        clear hdr
        obtain ⟨i, j, cap, os, hh, rfl, hdr⟩ := hrel
        have hij1 : i + j ≤ n := by have := hdr.ij; omega
        have hij2 : n ≤ i + j := by have := hdr.ij; omega
        have hc := hdr.qu.cell
        by_cases hlt : i < n
        · obtain ⟨j, rfl⟩ : ∃ j', j = j' + 1 := ⟨j - 1, by omega⟩
          obtain ⟨g, rfl, hrg⟩ := hdr.qu.sl.row (by omega)
          go_wp2_with fail
          refine (zzpop_any bq g j cap hh wr (by omega) hdr.qu hdr.heap).mono ?_
          rintro e w1 ⟨rfl, h', hq, hp, hhp, hkp⟩
          go_wp2_with fail
          refine (fromSim_any (gt hh 0) w1).mono ?_
          rintro e w2 ⟨rfl, hb⟩
          obtain ⟨hrow, hdr2⟩ := hdr.step hq hp hhp hkp hb
          have hil : i < (os ++ List.replicate (j + 1) E0).length := by simp; have := hdr.olen; omega
          obtain ⟨x0, x1, x2, x3, x4, x5, x6⟩ := hrow.at i hil
          have hfr := hrow.free
          clear hdr hq hp hhp hkp hb hrow hc hrg
          unfold E.val
          go_wp2
          go_roundw
          case rel => exact ⟨i + 1, j, cap, os ++ [gt hh 0], h', by go_num, hdr2⟩
          case measure => simp [intOf]; omega
        · obtain rfl : j = 0 := by omega
          obtain rfl : n = i := by omega
          have hh0 : hh = [] := List.eq_nil_of_length_eq_zero hdr.qu.sl.1
          subst hh0
          have hperm : os.Perm l := by have := hdr.perm; simpa using this
          have hrow : Row wr 35 go n os := by have := hdr.out; simpa using this
          have hsort := hdr.sorted
          have hol := hdr.olen
          have hevs := hdr.evs
          have hbel := hdr.below
          have HOL : Hid (os.length = n) := hol
          have HSO : Hid (os.Pairwise (fun a b => bef b a = false)) := hsort
          clear hdr hol hsort hij1 hij2 hlt
          go_wp2
          go_loopw [8] (fun v8 ws => ∃ k : Nat, v8 = .int .i64 k ∧ 1 ≤ k ∧ k ≤ n + 1 ∧ Below wr.heap.size wr ws) (fun v8 _ => n - (intOf v8).toNat)
          case atStart => exact ⟨1, rfl, by omega, by omega, Below.refl _ _⟩
          case round =>
            obtain ⟨k, rfl, hk1, hk2, hnx⟩ := hrel
            by_cases hlt : k < n
            · obtain ⟨m, hm⟩ : ∃ m, m + 1 = k := ⟨k - 1, by omega⟩
              have hmI : (k : Int) - 1 = (m : Int) := by omega
              have hml : m < os.length := by rw [HOL.out]; omega
              have hkl : k < os.length := by rw [HOL.out]; omega
              have hbef : bef os[k] os[m] = false := by
                have := HSO.out
                rw [List.pairwise_iff_getElem] at this
                exact this m k hml hkl (by omega)
              have hr2 := hrow.later hnx
              obtain ⟨y0, y1, y2, y3, y4, y5, y6⟩ := hr2.at k hkl
              obtain ⟨z0, z1, z2, z3, z4, z5, z6⟩ := hr2.at m hml
              have ky0 := cell_regrown y0
              have ky1 := cell_regrown y1
              have ky2 := cell_regrown y2
              have ky3 := cell_regrown y3
              have ky4 := cell_regrown y4
              have ky5 := cell_regrown y5
              have ky6 := cell_regrown y6
              have kz0 := cell_regrown z0
              have kz1 := cell_regrown z1
              have kz2 := cell_regrown z2
              have kz3 := cell_regrown z3
              have kz4 := cell_regrown z4
              have kz5 := cell_regrown z5
              have kz6 := cell_regrown z6
              clear y0 y1 y2 y3 y4 y5 y6 z0 z1 z2 z3 z4 z5 z6
              have cL : ∀ dd os', Calls Try.prog 13 #[(os[k]).val, (os[m]).val] (grow (redrawn wr dd) os') fun e w'' => e = .returned (.bool (bef os[k] os[m])) ∧ ∃ p : Regrown, w'' = grow (redrawn wr p.d) p.os := fun dd os' => Calls.regrown_of (zzBefore_any _ _ _)
              rw [hbef] at cL
              unfold E.val at cL
              have b1 : (k : Int) < (n : Int) := by omega
              have b2 : (m : Int) < (n : Int) := by omega
              clear hm
              go_wp2
              refine wp_region_quiet_below (by kernel_rfl) (by kernel_rfl) ?_
              repeat (first | go_big_quiet_step (exact cL _ _) | quiet_step (exact cL _ _))
              refine wpQuiet_nil ?_
              intro _ hw'
              obtain ⟨⟨dq, osq⟩, hw''⟩ := hw'
              subst hw''
              have hbq : Below wr.heap.size wr (grow (redrawn wr dq) osq) := below_regrown wr dq osq
              clear ky0 ky1 ky2 ky3 ky4 ky5 ky6 kz0 kz1 kz2 kz3 kz4 kz5 kz6 cL
              have hnx2 := hnx.trans (hbq.mono hnx.size)
              generalize grow (redrawn wr dq) osq = wq at *
              clear hr2 hbq hnx
              go_wp2
              go_roundw
              case rel => exact ⟨k + 1, by go_num, by omega, by omega, hnx2⟩
              case measure => simp [intOf]; omega
            · have hrow2 := hrow.later hnx
              have hevs2 := hevs.later hnx
              have hbel2 := hbel.trans (hnx.mono hbel.size)
              clear hrow hevs hbel hnx hc
              go_wp2_with fail
              refine (sort_any (some ⟨go, 0, none⟩) n n os _ (by omega) (.mk hrow2 HOL.out)).mono ?_
              rintro e wF ⟨gF, lF, rfl, rF, pF, sF, bF⟩
              go_wp2_with fail
              refine (sort_any a' n n l _ (by omega) (hevs2.later bF)).mono ?_
              rintro e wG ⟨gG, lG, rfl, rG, pG, sG, bG⟩
              have elG : lF = lG := sorted_unique sF sG ((pF.trans hperm).trans pG.symm)
              subst elG
              go_wp2_with fail
              refine (same_any gF gG n n n lF _ (by omega) (by rw [pF.length_eq]; exact HOL.out) (rF.later bG) rG).mono ?_
              rintro e wH ⟨rfl, bH⟩
              go_wp2
              go_ret
              exact ⟨rfl, bstep (bstep (bstep hbel2 bF) bG) bH⟩
end Go.Proofs.Qxb6003230a.Hp
