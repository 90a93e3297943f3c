import Derived.Test.Qxb6003230aHpL2
import Derived.Deep.RegionLaw
import Derived.Deep.RegionLawGrows
import Derived.Deep.DeepCutAuto
namespace Go.Proofs.Qxb6003230a.Hp
open Go.RowKit

theorem row_owns {w : World} {T : TypeId} {g c : Nat} {l : List E} (h : Row w T g c l) {B : Nat} (hB : B ≤ g) : w.ownsRow B T 7 (.slice (some ⟨g, 0, none⟩) l.length c) l.length (evCells l) := by
  obtain ⟨⟨cur, h1, h2, h3⟩, h4, h5⟩ := h
  exact ⟨ev_len l, .inr ⟨g, c, cur, rfl, hB, h1, h4, h5, h2, h3⟩⟩

theorem owns_row {w : World} {B : Nat} {T : TypeId} {v : Value} {n : Nat} {l : List E} (hl : l.length = n) (hn : 0 < n) (h : w.ownsRow B T 7 v n (evCells l)) : ∃ g c, v = .slice (some ⟨g, 0, none⟩) n c ∧ B ≤ g ∧ Row w T g c l := by
  rcases h.2 with ⟨_, h'⟩ | ⟨g, cap, cur, hv, hB, hg, hle, hmx, hcs, htake⟩
  · omega
  · exact ⟨g, cap, hv, hB, ⟨⟨cur, hg, hcs, by rw [hl]; exact htake⟩, by omega, hmx⟩⟩

/-- 'append(q, e)', q of the call's own: in place, or in a new row. AS ONE STEP OF A REGION THAT DRAWS. -/
theorem step_append_ev {ops : Array Oper} {o : Oper} {a : Act} {w : World} {K : Act → World → Prop} {Q : Exit → Act → World → Prop} {X : Prop}
    (hg : o.guard = none) (s x : Operand) (hop : o.op = Op.call { callee := Callee.builtin Builtin.append, args := #[s, x], argTypes := #[26, 26] })
    (ao : Option Addr) (n cap : Nat) (h : List E) (e : E) (hs : a.eval s = .slice ao n cap) (hsl : Sl w 32 ao n cap h)
    (ad : Addr) (c : Nat) (hx : a.eval x = .slice (some ad) 1 c) (hc : ∀ j u, e.cells[j]? = some u → w.cell? (ad.add j) = some u) (hn : n ≤ 8192)
    (hK : ∀ g' cap' w', (ao = some ⟨g', 0, none⟩ ∨ w.heap.size ≤ g') → Row w' 32 g' cap' (h ++ [e]) → Keep (fun k => ao = some ⟨k, 0, none⟩) w w' → K (a.put o.dst (.slice (some ⟨g', 0, none⟩) (n + 1) cap')) w') :
    if Region.wanted o (yielded ops a.tmps) = true then Oper.wp Try.prog o a w K Q else X := by
  have hw : Region.wanted o (yielded ops a.tmps) = true := by simp [Region.wanted, hg]
  rw [if_pos hw]
  obtain ⟨i0, hi, hz0, hz1, hz2⟩ := info_parts Try.info32
  have hl := hsl.1
  have h1c : ∀ u ∈ e.cells, u.oneCell' = true := by
    intro u hu
    simp [E.cells] at hu
    rcases hu with rfl | rfl | rfl | rfl | rfl | rfl | rfl <;> rfl
  have hll : (h ++ [e]).length = n + 1 := by simp [hl]
  have hcells : evCells (h ++ [e]) = evCells h ++ e.cells := by rw [ev_app]; simp [evCells]
  rcases hsl.2 with ⟨rfl, rfl, rfl⟩ | ⟨g, rfl, hrow⟩
  · obtain ⟨v', w', hrun, r1, r2, _⟩ := run_append_own (P := Try.prog) w w.heap.size 26 o.type 32 i0 _ 7 48 Try.underlying26 hi hz0 hz1 hz2 rfl (by omega) (.slice none 0 0) 0 [] (World.ownsRow_nil w _ _ _) ad 1 c e.cells rfl hc h1c (by unfold maxLen; omega) (by omega) (Nat.le_refl _)
    have hnil : h = [] := List.eq_nil_of_length_eq_zero hl
    subst hnil
    obtain ⟨g', c', rfl, hB, hr⟩ := owns_row (n := 0 + 1) (l := [] ++ [e]) hll (by omega) (by rw [hcells]; exact r1)
    unfold Oper.wp
    simp [execOp, hop, resolve, invoke, builtin, hs, hx, hrun, Result.andThen]
    exact hK g' c' w' (.inr hB) hr (.of_grown r2 (by simp [Value.ownBlock]))
  · have hown := row_owns hrow (B := 0) (Nat.zero_le _)
    rw [hl] at hown
    by_cases hroom : n + 1 ≤ cap
    · obtain ⟨w', hrun, r1, r2⟩ := run_append_fits (P := Try.prog) w 0 26 o.type 32 i0 7 Try.underlying26 hi hz1 g n cap (evCells h) hown ad 1 c e.cells rfl hc h1c hroom
      rw [← hcells] at r1
      obtain ⟨g', c', hv, -, hr⟩ := owns_row hll (by omega) r1
      simp only [Value.slice.injEq, Option.some.injEq, Addr.mk.injEq, and_true, true_and] at hv
      obtain ⟨rfl, rfl⟩ := hv
      unfold Oper.wp
      simp [execOp, hop, resolve, invoke, builtin, hs, hx, hrun, Result.andThen]
      exact hK g cap w' (.inl rfl) hr (.of_grown r2 (by simp))
    · obtain ⟨v', w', hrun, r1, r2⟩ := run_append_arg_grows (P := Try.prog) w 26 o.type 32 i0 _ 7 48 Try.underlying26 hi hz0 hz1 hz2 rfl (by omega) ⟨g, 0, none⟩ n cap (evCells h) (by rw [ev_len, hl]) (fun j u hu => by
          have hj : j < n * 7 := by have := (List.getElem?_eq_some_iff.1 hu).1; rw [ev_len, hl] at this; exact this
          rw [Addr.add_lit, Nat.zero_add, hown.cellAt j hj]; exact hu) ad 1 c e.cells rfl hc (by omega) (by unfold maxLen; omega) (by omega)
      rw [← hcells] at r1
      obtain ⟨g', c', rfl, hB, hr⟩ := owns_row hll (by omega) r1
      unfold Oper.wp
      simp [execOp, hop, resolve, invoke, builtin, hs, hx, hrun, Result.andThen]
      exact hK g' c' w' (.inr hB) hr (.of_grown r2 (by simp))

/-- A QUEUE IN MEMORY: the variable at bq holds a slice of the call's own whose events are h. -/
structure Qu (w : World) (bq : Nat) (ao : Option Addr) (n cap : Nat) (h : List E) : Prop where
  cell : w.cell? ⟨bq, 0, none⟩ = some (.slice ao n cap)
  free : w.frozen? ⟨bq, 0, none⟩ = false
  sl : Sl w 32 ao n cap h
  ne : ao ≠ some ⟨bq, 0, none⟩

theorem keep_frozen {S : Nat → Prop} {w w' : World} {p : Addr} {b : Bool} (hk : Keep S w w') (h : w.frozen? p = b) (hlt : p.block < w.heap.size) (hp : ¬ S p.block) : w'.frozen? p = b :=
  (World.frozen?_of_block (hk.block p.block hlt hp)).trans h
theorem below_frozen {w w' : World} {p : Addr} {b : Bool} (hk : Below w.heap.size w w') (hlt : p.block < w.heap.size) (h : w.frozen? p = b) : w'.frozen? p = b :=
  (hk.frozen hlt).trans h

/-- The event boxed, and boxed once more. -/
theorem two_below (e : E) (w : World) : Below w.heap.size w ((w.alloc (.cells #[.int .i64 e.tick, .int .u64 e.seq, .int .i64 e.bid, .int .i32 e.task, .int .i32 e.con, .int .u8 e.kind, .int .i64 e.perf] 32)).alloc (.cells #[.int .i64 e.tick, .int .u64 e.seq, .int .i64 e.bid, .int .i32 e.task, .int .i32 e.con, .int .u8 e.kind, .int .i64 e.perf] 32)).drew :=
  (((Below.refl _ _).alloc (Nat.le_refl _) _).alloc (by simp) _).drew
theorem two_cells (e : E) (w : World) : ∀ j u, e.cells[j]? = some u → ((w.alloc (.cells #[.int .i64 e.tick, .int .u64 e.seq, .int .i64 e.bid, .int .i32 e.task, .int .i32 e.con, .int .u8 e.kind, .int .i64 e.perf] 32)).alloc (.cells #[.int .i64 e.tick, .int .u64 e.seq, .int .i64 e.bid, .int .i32 e.task, .int .i32 e.con, .int .u8 e.kind, .int .i64 e.perf] 32)).drew.cell? ((⟨w.heap.size + 1, 0, none⟩ : Addr).add j) = some u := by
  intro j u hj
  have hjl : j < 7 := by have := (List.getElem?_eq_some_iff.1 hj).1; rw [cells_len] at this; exact this
  have : j = 0 ∨ j = 1 ∨ j = 2 ∨ j = 3 ∨ j = 4 ∨ j = 5 ∨ j = 6 := by omega
  rcases this with rfl | rfl | rfl | rfl | rfl | rfl | rfl <;> (simp [E.cells] at hj; subst hj; simp [go_sem])

theorem push_rel {w w2 w1 : World} {bq g' cap' n : Nat} {ao : Option Addr} {l : List E} (hb : Below w.heap.size w w2) (hlt : bq < w.heap.size) (hne : ao ≠ some ⟨bq, 0, none⟩)
    (hor : ao = some ⟨g', 0, none⟩ ∨ w2.heap.size ≤ g') (hrow : Row w1 32 g' cap' l) (hkp : Keep (fun k => ao = some ⟨k, 0, none⟩) w2 w1) {v : Value} (z1 : w1.cell? ⟨bq, 0, none⟩ = some v) (z2 : w1.frozen? ⟨bq, 0, none⟩ = false) :
    ∃ ga ca, (ao = some ⟨ga, 0, none⟩ ∨ w.heap.size ≤ ga) ∧ (w1.setCell ⟨bq, 0, none⟩ (.slice (some ⟨g', 0, none⟩) (n + 1) cap')).cell? ⟨bq, 0, none⟩ = some (.slice (some ⟨ga, 0, none⟩) (n + 1) ca) ∧ (w1.setCell ⟨bq, 0, none⟩ (.slice (some ⟨g', 0, none⟩) (n + 1) cap')).frozen? ⟨bq, 0, none⟩ = false ∧
      Row (w1.setCell ⟨bq, 0, none⟩ (.slice (some ⟨g', 0, none⟩) (n + 1) cap')) 32 ga ca l ∧ Keep (fun k => k = bq ∨ ao = some ⟨k, 0, none⟩) w (w1.setCell ⟨bq, 0, none⟩ (.slice (some ⟨g', 0, none⟩) (n + 1) cap')) := by
  have hgb : g' ≠ bq := by
    rintro rfl
    rcases hor with h | h
    · exact hne h
    · have := hb.size; omega
  refine ⟨g', cap', hor.imp id (fun h => Nat.le_trans hb.size h), World.cell?_setCell_same' _ _ _ (by rw [z1]; rfl), by simpa using z2, hrow.of_block (heap_setCell_other _ _ _ _ hgb), ?_⟩
  exact ((Keep.of_below hb).trans (hkp.mono (fun k _ h => .inr h))).setCell _ (.inl rfl) _

theorem At.drewN {w : World} {g o : Nat} {e : E} (h : At w g o e) (n : Nat) : At (w.drewN n) g o e := ⟨h.c0, h.c1, h.c2, h.c3, h.c4, h.c5, h.c6⟩

/-- before, met in a region that draws. -/
theorem before_q (a b : E) (g o p : Nat) (w : World) (ha : At w g o a) (hb : At w g p b) (n : Nat) :
    Calls Try.prog 32 #[.pointer (some ⟨g, o, none⟩), .pointer (some ⟨g, p, none⟩)] (w.drewN n) fun r w'' => r = .returned (.bool (bef a b)) ∧ ∃ m, w'' = w.drewN m :=
  Calls.quiet_of ((before_any a b g o p (w.drewN n) (ha.drewN n) (hb.drewN n)).mono fun _ _ ⟨hr, m, hm⟩ => ⟨hr, m, hm.symm⟩)

theorem push_keep {w wc wr : World} {bq g : Nat} {ao : Option Addr} (h1 : Keep (fun k => k = bq ∨ ao = some ⟨k, 0, none⟩) w wc) (h2 : ao = some ⟨g, 0, none⟩ ∨ w.heap.size ≤ g) (h3 : Keep (fun k => k = g) wc wr) : Keep (fun k => k = bq ∨ ao = some ⟨k, 0, none⟩) w wr := by
  refine ⟨h3.os.trans h1.os, h3.tape.trans h1.tape, h3.output.trans h1.output, Nat.le_trans h1.size h3.size, fun k hk hs => ?_⟩
  refine (h3.block k (Nat.lt_of_lt_of_le hk h1.size) ?_).trans (h1.block k hk hs)
  rintro rfl
  rcases h2 with h | h
  · exact hs (.inr h)
  · omega

/-- THE EXCHANGE of the events at i and p: what the region's walk is told. -/
theorem swap_facts {w : World} {g c : Nat} {L : List E} (hr : Row w 32 g c L) {i p : Nat} (hi : i < L.length) (hp : p < L.length) (hne : i ≠ p) :
    ∃ ei ep : E, gt L i = ei ∧ gt L p = ep ∧ At w g (i * 7) ei ∧ At w g (p * 7) ep ∧ At (put7 w g (i * 7) ep) g (p * 7) ep ∧ Row (put7 (put7 w g (i * 7) ep) g (p * 7) ei) 32 g c (sw L i p) := by
  have h1 := hr.store i hi L[p]
  have h2 := h1.at p (by simpa using hp)
  rw [List.getElem_set_ne hne] at h2
  have h3 := h1.store p (by simpa using hp) L[i]
  refine ⟨L[i], L[p], gt_eq L i hi, gt_eq L p hp, hr.at i hi, hr.at p hp, h2, ?_⟩
  unfold sw
  rw [gt_eq L i hi, gt_eq L p hp]
  exact h3

theorem Row.drew {w : World} {T : TypeId} {g c : Nat} {l : List E} (h : Row w T g c l) : Row w.drew T g c l := h.of_block rfl

theorem swap_after {wq wc : World} {bq g c : Nat} {L : List E} {o p : Nat} {ei ep : E} {v : Value} (hrow : Row (put7 (put7 wq g o ep) g p ei) 32 g c L) (c1 : wq.cell? ⟨bq, 0, none⟩ = some v) (c2 : wq.frozen? ⟨bq, 0, none⟩ = false) (hgb : g ≠ bq) (hkp : Keep (fun k => k = g) wc wq) :
    Row (put7 (put7 wq g o ep) g p ei).drew 32 g c L ∧ (put7 (put7 wq g o ep) g p ei).drew.cell? ⟨bq, 0, none⟩ = some v ∧ (put7 (put7 wq g o ep) g p ei).drew.frozen? ⟨bq, 0, none⟩ = false ∧ Keep (fun k => k = g) wc (put7 (put7 wq g o ep) g p ei).drew := by
  have hk := (((Keep.refl (fun k => k = g) wq).put7 g o ep rfl).put7 g p ei rfl).drew
  exact ⟨hrow.drew, cell_keep hk c1 (Ne.symm hgb), keep_frozen hk c2 (World.block_lt_of_cell? _ _ c1) (Ne.symm hgb), hkp.trans hk⟩

set_option maxHeartbeats 2000000 in
theorem push_any (bq : Nat) (ao : Option Addr) (n cap : Nat) (h : List E) (e : E) (w : World) (hn : n ≤ 8192) (hq : Qu w bq ao n cap h) (hh : Heap h) :
    Calls Try.prog 26 #[.pointer (some ⟨bq, 0, none⟩), e.val] w fun r w' => r = .returned (.tuple #[]) ∧ ∃ g' cap' h', (ao = some ⟨g', 0, none⟩ ∨ w.heap.size ≤ g') ∧ Qu w' bq (some ⟨g', 0, none⟩) (n + 1) cap' h' ∧ h'.Perm (h ++ [e]) ∧ Heap h' ∧ Keep (fun k => k = bq ∨ ao = some ⟨k, 0, none⟩) w w' := by
  obtain ⟨q1, q2, q3, q4⟩ := hq
  have hqlt : bq < w.heap.size := World.block_lt_of_cell? _ _ q1
  have hqlt' : bq < ((w.alloc (.cells #[.int .i64 e.tick, .int .u64 e.seq, .int .i64 e.bid, .int .i32 e.task, .int .i32 e.con, .int .u8 e.kind, .int .i64 e.perf] 32)).alloc (.cells #[.int .i64 e.tick, .int .u64 e.seq, .int .i64 e.bid, .int .i32 e.task, .int .i32 e.con, .int .u8 e.kind, .int .i64 e.perf] 32)).drew.heap.size := Nat.lt_of_lt_of_le hqlt (two_below e w).size
  unfold E.val
  go_enter Try.func26, Try.ntmps26
  go_wp2_with fail
  go_cut [] (fun wc => ∃ g' cap', (ao = some ⟨g', 0, none⟩ ∨ w.heap.size ≤ g') ∧ wc.cell? ⟨bq, 0, none⟩ = some (.slice (some ⟨g', 0, none⟩) (n + 1) cap') ∧ wc.frozen? ⟨bq, 0, none⟩ = false ∧ Row wc 32 g' cap' (h ++ [e]) ∧ Keep (fun k => k = bq ∨ ao = some ⟨k, 0, none⟩) w wc)
  case first =>
    go_region_law (refine step_append_ev rfl _ _ rfl ao n cap h e rfl (q3.later (two_below e w)) ⟨w.heap.size + 1, 0, none⟩ 1 rfl (two_cells e w) hn ?_; intro g' cap' w1 hor hrow hkp; have z1 := cell_keep hkp (cell_later (two_below e w) q1) q4; have z2 := keep_frozen hkp (below_frozen (two_below e w) hqlt q2) hqlt' q4)
    all_goals
      go_wp2_with fail
      go_meet
      case rel => exact push_rel (two_below e w) hqlt q4 (by assumption) (by assumption) (by assumption) (by assumption) (by assumption)
  case rest =>
    obtain ⟨g, cap', hor, c1, c2, hrow, hkp⟩ := hcut
    have hgb : g ≠ bq := by
      rintro rfl
      rcases hor with h' | h'
      · exact q4 h'
      · omega
    have hup := up_start e hh
    have hlen : (h ++ [e]).length = n + 1 := by rw [List.length_append, q3.1]; rfl
    rw [q3.1] at hup
    have HK : Hid (Keep (fun k => k = bq ∨ ao = some ⟨k, 0, none⟩) w wc) := hkp
    have HQ : Hid (ao ≠ some ⟨bq, 0, none⟩) := q4
    have HO : Hid (ao = some ⟨g, 0, none⟩ ∨ w.heap.size ≤ g) := hor
    clear q1 q2 q3 q4 hqlt' hqlt hh hkp hor
    go_wp2
    go_loopw [5, 6] (fun v5 _ wr => ∃ (i : Nat) (L : List E), v5 = .int .i64 i ∧ i ≤ n ∧ Up L i ∧ L.length = n + 1 ∧ L.Perm (h ++ [e]) ∧ Row wr 32 g cap' L ∧ wr.cell? ⟨bq, 0, none⟩ = some (.slice (some ⟨g, 0, none⟩) (n + 1) cap') ∧ wr.frozen? ⟨bq, 0, none⟩ = false ∧ Keep (fun k => k = g) wc wr) (fun v5 _ _ => (intOf v5).toNat)
    case atStart => exact ⟨n, h ++ [e], by go_num, Nat.le_refl _, hup, hlen, List.Perm.refl _, hrow, c1, c2, .refl _ _⟩
    case round =>
      clear hrow c1 c2 hup hlen
      obtain ⟨i, L, rfl, hin, hup, hlen, hperm, hrow, c1, c2, hkp⟩ := hrel
      have HL : Hid (L.length = n + 1) := hlen
      clear hlen
      by_cases hi0 : 0 < i
      · obtain ⟨p, hp⟩ : ∃ p, (i - 1) / 2 = p := ⟨_, rfl⟩
        have hp1 : p < i := by omega
        have hpi : ((i : Int) - 1) / 2 = (p : Int) := by omega
        have HP : Hid ((i - 1) / 2 = p) := hp
        clear hp
        have hiL : i < L.length := by rw [HL.out]; omega
        have hpL : p < L.length := by rw [HL.out]; omega
        have ai := hrow.at i hiL
        have ap := hrow.at p hpL
        have hbef := before_q L[i] L[p] g (i * 7) (p * 7) wr ai ap
        have b1 : (i : Int) < (n : Int) + 1 := by omega
        have b2 : (p : Int) < (n : Int) + 1 := by omega
        by_cases hb : bef L[i] L[p] = true
        · go_wp2
          rw [hpi]
          go_quiet (exact hbef _)
          have hbq : Below wr.heap.size wr (wr.drewN nq) := below_drewN (Below.refl _ _) nq
          have hrow2 := hrow.later hbq
          have c1' := cell_later hbq c1
          have c2' := below_frozen hbq (World.block_lt_of_cell? _ _ c1) c2
          have hkp2 := hkp.trans (.of_below hbq)
          have HUP : Hid (Up (sw L i p) p) := by
            have := up_step hup hi0 (by rw [HP.out, gt_eq L i hiL, gt_eq L p hpL]; exact hb)
            rw [HP.out] at this; exact this
          have HPM : Hid ((sw L i p).Perm (h ++ [e])) := (sw_perm L i p hiL hpL).trans hperm
          have HSL : Hid ((sw L i p).length = n + 1) := (sw_len L i p).trans HL.out
          clear ai ap hbef hup hperm
          go_wp2
          generalize wr.drewN nq = wq at *
          obtain ⟨ei, ep, -, -, ⟨x0, x1, x2, x3, x4, x5, x6⟩, ⟨y0, y1, y2, y3, y4, y5, y6⟩, ⟨z0, z1, z2, z3, z4, z5, z6⟩, hrow3⟩ := swap_facts hrow2 hiL hpL (by omega)
          unfold put7 at z0 z1 z2 z3 z4 z5 z6
          have hf := hrow2.free
          have HR : Hid (Row (put7 (put7 wq g (i * 7) ep) g (p * 7) ei).drew 32 g cap' (sw L i p) ∧ (put7 (put7 wq g (i * 7) ep) g (p * 7) ei).drew.cell? ⟨bq, 0, none⟩ = some (.slice (some ⟨g, 0, none⟩) (n + 1) cap') ∧ (put7 (put7 wq g (i * 7) ep) g (p * 7) ei).drew.frozen? ⟨bq, 0, none⟩ = false ∧ Keep (fun k => k = g) wc (put7 (put7 wq g (i * 7) ep) g (p * 7) ei).drew) :=
            swap_after hrow3 c1' c2' hgb hkp2
          clear hrow3 c1' c2' hkp2 hrow2
          go_region
          go_wp2
          go_roundw
          case rel =>
            obtain ⟨r1, r2, r3, r4⟩ := HR.out
            unfold put7 at r1 r2 r3 r4
            exact ⟨p, sw L i p, rfl, by omega, HUP.out, HSL.out, HPM.out, r1, r2, r3, r4⟩
          case measure => simp [intOf]; omega
        · have hbf : bef L[i] L[p] = false := by simpa using hb
          have hheap : Heap L := up_end hup (fun _ => by rw [HP.out, gt_eq L i hiL, gt_eq L p hpL]; exact hbf)
          clear hb
          go_wp2
          rw [hpi]
          go_quiet (exact hbef _)
          have hbq : Below wr.heap.size wr (wr.drewN nq) := below_drewN (Below.refl _ _) nq
          have hrow2 := hrow.later hbq
          have c1' := cell_later hbq c1
          have c2' := below_frozen hbq (World.block_lt_of_cell? _ _ c1) c2
          have hkp2 := hkp.trans (.of_below hbq)
          clear ai ap hbef hup
          go_wp2
          go_end0
          exact ⟨rfl, g, cap', L, HO.out, ⟨c1', c2', .mk hrow2 HL.out, by simp⟩, hperm, hheap, push_keep HK.out HO.out hkp2⟩
      · have hi00 : i = 0 := by omega
        have hheap : Heap L := up_end hup (fun h0 => absurd h0 hi0)
        clear hup
        go_wp2
        go_end0
        exact ⟨rfl, g, cap', L, HO.out, ⟨c1, c2, .mk hrow HL.out, by simp⟩, hperm, hheap, push_keep HK.out HO.out hkp⟩

set_option maxHeartbeats 1000000 in
theorem zzpush_any (bq : Nat) (ao : Option Addr) (n cap : Nat) (h : List E) (e : E) (w : World) (hn : n ≤ 8192) (hq : Qu w bq ao n cap h) (hh : Heap h) :
    Calls Try.prog 9 #[.pointer (some ⟨bq, 0, none⟩), e.val] w fun r w' => r = .returned (.tuple #[]) ∧ ∃ g' cap' h', (ao = some ⟨g', 0, none⟩ ∨ w.heap.size ≤ g') ∧ Qu w' bq (some ⟨g', 0, none⟩) (n + 1) cap' h' ∧ h'.Perm (h ++ [e]) ∧ Heap h' ∧ Keep (fun k => k = bq ∨ ao = some ⟨k, 0, none⟩) w w' := by
  have hb : Below w.heap.size w (w.alloc (.cells #[.int .i64 e.tick, .int .u64 e.seq, .int .i64 e.bid, .int .i32 e.task, .int .i32 e.con, .int .u8 e.kind, .int .i64 e.perf] 32)) := (Below.refl _ _).alloc (Nat.le_refl _) _
  have hq2 : Qu (w.alloc (.cells #[.int .i64 e.tick, .int .u64 e.seq, .int .i64 e.bid, .int .i32 e.task, .int .i32 e.con, .int .u8 e.kind, .int .i64 e.perf] 32)) bq ao n cap h := ⟨cell_later hb hq.cell, below_frozen hb (World.block_lt_of_cell? _ _ hq.cell) hq.free, hq.sl.later hb, hq.ne⟩
  have hc := push_any bq ao n cap h e _ hn hq2 hh
  clear hq hq2
  unfold E.val at hc ⊢
  go_enter Try.func9, Try.ntmps9
  go_wp2_with fail
  refine hc.mono ?_
  rintro r w' ⟨rfl, g', cap', h', h1, h2, h3, h4, h5⟩
  go_wp2
  go_end0
  exact ⟨rfl, g', cap', h', h1.imp id (fun h => Nat.le_trans hb.size h), h2, h3, h4, (Keep.of_below hb).trans h5⟩
end Go.Proofs.Qxb6003230a.Hp
