import Derived.Test.Qxb6003230aHp7
namespace Go.Proofs.Qxb6003230a.Hp
open Go.RowKit

/-- The world ahead of pop's loop. -/
def popW (w : World) (g : Nat) (e t : E) : World :=
  (((((((((w.setCell ⟨g, 0, none⟩ (.int .i64 e.tick)).setCell ⟨g, 1, none⟩ (.int .u64 e.seq)).setCell ⟨g, 2, none⟩ (.int .i64 e.bid)).setCell ⟨g, 3, none⟩ (.int .i32 e.task)).setCell ⟨g, 4, none⟩ (.int .i32 e.con)).setCell ⟨g, 5, none⟩ (.int .u8 e.kind)).setCell ⟨g, 6, none⟩ (.int .i64 e.perf)).alloc
    (.cells #[.int .i64 0, .int .u64 0, .int .i64 0, .int .i32 0, .int .i32 0, .int .u8 0, .int .i64 0] 32)).alloc (.cells #[.int .i64 t.tick, .int .u64 t.seq, .int .i64 t.bid, .int .i32 t.task, .int .i32 t.con, .int .u8 t.kind, .int .i64 t.perf] 32))

theorem popW_eq (w : World) (g : Nat) (e t : E) : popW w g e t = ((put7 w g 0 e).alloc (.cells #[.int .i64 0, .int .u64 0, .int .i64 0, .int .i32 0, .int .i32 0, .int .u8 0, .int .i64 0] 32)).alloc (.cells #[.int .i64 t.tick, .int .u64 t.seq, .int .i64 t.bid, .int .i32 t.task, .int .i32 t.con, .int .u8 t.kind, .int .i64 t.perf] 32) := by
  unfold popW put7
  simp only [Nat.zero_add]

/-- What pop carries through its loop beside the row. -/
structure PopI (w : World) (bq rb tb : Nat) (top : E) (v : Value) : Prop where
  cell : w.cell? ⟨bq, 0, none⟩ = some v
  free : w.frozen? ⟨bq, 0, none⟩ = false
  top : At w tb 0 top
  res : ∀ j, j < 7 → ∃ u, w.cell? ⟨rb, j, none⟩ = some u
  rfree : ∀ j, w.frozen? ⟨rb, j, none⟩ = false
  rlt : rb < w.heap.size

theorem PopI.keep {w w' : World} {bq rb tb g : Nat} {top : E} {v : Value} (h : PopI w bq rb tb top v) (hk : Keep (fun k => k = g) w w') (h1 : bq ≠ g) (h2 : rb ≠ g) (h3 : tb ≠ g) : PopI w' bq rb tb top v := by
  refine ⟨cell_keep hk h.cell h1, keep_frozen hk h.free (World.block_lt_of_cell? _ _ h.cell) h1, ?_, fun j hj => ?_, fun j => keep_frozen hk (h.rfree j) h.rlt h2, Nat.lt_of_lt_of_le h.rlt hk.size⟩
  · exact ⟨cell_keep hk h.top.c0 h3, cell_keep hk h.top.c1 h3, cell_keep hk h.top.c2 h3, cell_keep hk h.top.c3 h3, cell_keep hk h.top.c4 h3, cell_keep hk h.top.c5 h3, cell_keep hk h.top.c6 h3⟩
  · obtain ⟨u, hu⟩ := h.res j hj
    exact ⟨u, cell_keep hk hu h2⟩

theorem popW_facts {w : World} {bq g n cap : Nat} {h : List E} {v : Value} (q1 : w.cell? ⟨bq, 0, none⟩ = some v) (q2 : w.frozen? ⟨bq, 0, none⟩ = false) (hrow : Row w 32 g cap h) (hl : h.length = n + 1) (hgb : g ≠ bq) :
    Row (popW w g (gt h n) (gt h 0)) 32 g cap (lp h) ∧ PopI (popW w g (gt h n) (gt h 0)) bq w.heap.size (w.heap.size + 1) (gt h 0) v ∧ Keep (fun k => k = g) w (popW w g (gt h n) (gt h 0)) := by
  have hqlt : bq < w.heap.size := World.block_lt_of_cell? _ _ q1
  have e1 : lp h = (h.set 0 (gt h n)).take n := by unfold lp; rw [hl]; rfl
  have k1 : Keep (fun k => k = g) w (put7 w g 0 (gt h n)) := (Keep.refl _ _).put7 g 0 _ rfl
  have hsz : (put7 w g 0 (gt h n)).heap.size = w.heap.size := put7_size _ _ _ _
  have r1 := (hrow.store 0 (by omega) (gt h n)).take n
  rw [Nat.zero_mul, ← e1] at r1
  have c1 := cell_keep k1 q1 (Ne.symm hgb)
  have c2 := keep_frozen k1 q2 hqlt (Ne.symm hgb)
  rw [popW_eq]
  generalize put7 w g 0 (gt h n) = wp at *
  generalize gt h 0 = t at *
  have hb : Below wp.heap.size wp ((wp.alloc (.cells #[.int .i64 0, .int .u64 0, .int .i64 0, .int .i32 0, .int .i32 0, .int .u8 0, .int .i64 0] 32)).alloc (.cells #[.int .i64 t.tick, .int .u64 t.seq, .int .i64 t.bid, .int .i32 t.task, .int .i32 t.con, .int .u8 t.kind, .int .i64 t.perf] 32)) :=
    ((Below.refl _ _).alloc (Nat.le_refl _) _).alloc (by simp) _
  rw [← hsz]
  refine ⟨r1.later hb, ⟨cell_later hb c1, below_frozen hb (World.block_lt_of_cell? _ _ c1) c2, ⟨by simp [go_sem], by simp [go_sem], by simp [go_sem], by simp [go_sem], by simp [go_sem], by simp [go_sem], by simp [go_sem]⟩, fun j hj => ?_, fun j => by simp [go_sem], by simp; omega⟩, k1.trans (.of_below hb)⟩
  have : j = 0 ∨ j = 1 ∨ j = 2 ∨ j = 3 ∨ j = 4 ∨ j = 5 ∨ j = 6 := by omega
  rcases this with rfl | rfl | rfl | rfl | rfl | rfl | rfl <;> exact ⟨_, by simp [go_sem]; rfl⟩

theorem bef_strict {a b c : E} (h1 : bef a b = true) (h2 : bef b c = true) : bef a c = true := by
  rcases hc : bef a c with _ | _
  · have := bef_trans hc (bef_asymm h1)
    rw [h2] at this; cases this
  · rfl

/-- The end of pop: the queue's variable and the result's are written. -/
theorem pop_end {w wl wX : World} {bq g n cap : Nat} {h L : List E} {top : E} {v : Value} (hgb : g ≠ bq) (hgr : w.heap.size ≠ g) (hqlt : bq < w.heap.size) (hLl : L.length = n) (hkL : Keep (fun k => k = g) w wl) (hkX : Keep (fun k => k = g) wl wX) (hrow : Row wX 32 g cap L)
    (hheap : Heap L) (hperm : (top :: L).Perm h) (c1 : wX.cell? ⟨bq, 0, none⟩ = some v) (c2 : wX.frozen? ⟨bq, 0, none⟩ = false) :
    ∃ h', Qu (put7 (wX.setCell ⟨bq, 0, none⟩ (.slice (some ⟨g, 0, none⟩) n cap)) w.heap.size 0 top) bq (some ⟨g, 0, none⟩) n cap h' ∧ (top :: h').Perm h ∧ Heap h' ∧ Keep (fun k => k = bq ∨ k = g) w (put7 (wX.setCell ⟨bq, 0, none⟩ (.slice (some ⟨g, 0, none⟩) n cap)) w.heap.size 0 top) := by
  have hne : bq ≠ w.heap.size := by omega
  have k1 : Keep (fun k => k = w.heap.size) (wX.setCell ⟨bq, 0, none⟩ (.slice (some ⟨g, 0, none⟩) n cap)) (put7 (wX.setCell ⟨bq, 0, none⟩ (.slice (some ⟨g, 0, none⟩) n cap)) w.heap.size 0 top) := (Keep.refl _ _).put7 _ _ _ rfl
  have z1 : (wX.setCell ⟨bq, 0, none⟩ (.slice (some ⟨g, 0, none⟩) n cap)).cell? ⟨bq, 0, none⟩ = some (.slice (some ⟨g, 0, none⟩) n cap) := World.cell?_setCell_same' _ _ _ (by rw [c1]; rfl)
  have z2 : (wX.setCell ⟨bq, 0, none⟩ (.slice (some ⟨g, 0, none⟩) n cap)).frozen? ⟨bq, 0, none⟩ = false := by simpa using c2
  have z3 : Row (wX.setCell ⟨bq, 0, none⟩ (.slice (some ⟨g, 0, none⟩) n cap)) 32 g cap L := hrow.of_block (heap_setCell_other _ _ _ _ hgb)
  refine ⟨L, ⟨cell_keep k1 z1 hne, keep_frozen k1 z2 (World.block_lt_of_cell? _ _ z1) hne, .mk (z3.keep k1 (Ne.symm hgr)) hLl, by simp⟩, hperm, hheap, ?_⟩
  have k2 : Keep (fun k => k = bq ∨ k = g ∨ k = w.heap.size) w (put7 (wX.setCell ⟨bq, 0, none⟩ (.slice (some ⟨g, 0, none⟩) n cap)) w.heap.size 0 top) :=
    (((hkL.mono (fun k _ h => .inr (.inl h))).trans (hkX.mono (fun k _ h => .inr (.inl h)))).setCell _ (.inl rfl) _).put7 _ _ _ (.inr (.inr rfl))
  exact k2.mono (fun k hk h => by omega)

set_option maxHeartbeats 4000000 in
set_option maxRecDepth 100000 in
theorem pop_any (bq g n cap : Nat) (h : List E) (w : World) (hn : n + 1 ≤ 8193) (hq : Qu w bq (some ⟨g, 0, none⟩) (n + 1) cap h) (hh : Heap h) :
    Calls Try.prog 29 #[.pointer (some ⟨bq, 0, none⟩)] w fun r w' => r = .returned (gt h 0).val ∧ ∃ h', Qu w' bq (some ⟨g, 0, none⟩) n cap h' ∧ (gt h 0 :: h').Perm h ∧ Heap h' ∧ Keep (fun k => k = bq ∨ k = g) w w' := by
  obtain ⟨q1, q2, q3, q4⟩ := hq
  have hgb : g ≠ bq := by intro e; exact q4 (by rw [e])
  obtain ⟨g', hg', hrow⟩ := q3.row (by omega)
  cases hg'
  have hlen : h.length = n + 1 := q3.1
  have HL : Hid (h.length = n + 1) := hlen
  clear hlen q3 q4
  have a0 := hrow.at 0 (by rw [HL.out]; omega)
  have an := hrow.at n (by rw [HL.out]; omega)
  have h0e : h[0]'(by rw [HL.out]; omega) = gt h 0 := (gt_eq h 0 _).symm
  have hne : h[n]'(by rw [HL.out]; omega) = gt h n := (gt_eq h n _).symm
  rw [h0e] at a0
  rw [hne] at an
  rw [Nat.zero_mul] at a0
  obtain ⟨x0, x1, x2, x3, x4, x5, x6⟩ := a0
  obtain ⟨y0, y1, y2, y3, y4, y5, y6⟩ := an
  have hf := hrow.free
  have hglt := hrow.lt
  have hcap : n + 1 ≤ cap := by have := hrow.le; rw [HL.out] at this; exact this
  have hqlt : bq < w.heap.size := World.block_lt_of_cell? _ _ q1
  simp only [Nat.zero_add] at x1 x2 x3 x4 x5 x6
  clear h0e hne
  obtain ⟨hrowL, hpi, hkL⟩ := popW_facts q1 q2 hrow HL.out hgb
  have hdn := lp_dn hh
  have hplp := lp_perm h (by rw [HL.out]; omega)
  have hlplen : (lp h).length = n := by rw [lp_len, HL.out]; rfl
  have HT : Hid (w.heap.size ≠ g) := by unfold Hid; omega
  have HT2 : Hid (w.heap.size + 1 ≠ g) := by unfold Hid; omega
  have HB : Hid (bq ≠ g) := Ne.symm hgb
  go_enter Try.func29, Try.ntmps29
  go_wp2
  change Code.wp _ _ _ _ (popW w g (gt h n) (gt h 0))
  clear x0 x1 x2 x3 x4 x5 x6 y0 y1 y2 y3 y4 y5 y6 hf hrow q1 q2 hh
  generalize popW w g (gt h n) (gt h 0) = wl at *
  go_loopw [6, 7, 8, 9] (fun v6 _ _ _ wr => ∃ (i : Nat) (L : List E), v6 = .int .i64 i ∧ i ≤ n ∧ (0 < n → i < n) ∧ Dn 0 L i ∧ L.length = n ∧ (gt h 0 :: L).Perm h ∧ Row wr 32 g cap L ∧ Keep (fun k => k = g) wl wr) (fun v6 _ _ _ _ => n - (intOf v6).toNat)
  case atStart => exact ⟨0, lp h, rfl, by omega, by omega, hdn, hlplen, hplp, hrowL, .refl _ _⟩
  case round =>
    clear hdn hplp hlplen hrowL
    obtain ⟨i, L, rfl, hin, hin2, hdn, hLl, hperm, hrow, hkp⟩ := hrel
    have HLL : Hid (L.length = n) := hLl
    clear hLl
    obtain ⟨l, hl⟩ : ∃ l, 2 * i + 1 = l := ⟨_, rfl⟩
    obtain ⟨r, hr⟩ : ∃ r, 2 * i + 2 = r := ⟨_, rfl⟩
    have hlI : 2 * (i : Int) + 1 = (l : Int) := by omega
    have hrI : 2 * (i : Int) + 2 = (r : Int) := by omega
    have hlr : i < l := by omega
    have hlr2 : l < r := by omega
    have hir : r ≤ 2 * n + 2 := by omega
    have HLE : Hid (2 * i + 1 = l) := hl
    have HRE : Hid (2 * i + 2 = r) := hr
    clear hl hr
    by_cases hln : l < n
    · have hiL : i < L.length := by rw [HLL.out]; omega
      have hlL : l < L.length := by rw [HLL.out]; omega
      have b1 : (l : Int) < (n : Int) := by omega
      have b2 : (i : Int) < (n : Int) := by omega
      have hbq1 := before_q L[l] L[i] g (l * 7) (i * 7) wr (hrow.at l hlL) (hrow.at i hiL)
      have El : Hid (gt L l = L[l]) := gt_eq L l hlL
      have Ei : Hid (gt L i = L[i]) := gt_eq L i hiL
      have hkid : ∀ j, 0 < j → (j - 1) / 2 = i → j = l ∨ j = r := fun j j0 hj => by have := HLE.out; have := HRE.out; omega
      have HKID : Hid (∀ j, 0 < j → (j - 1) / 2 = i → j = l ∨ j = r) := hkid
      clear hkid
      by_cases hbl : bef L[l] L[i] = true
      · by_cases hrn : r < n
        · have hrL : r < L.length := by rw [HLL.out]; omega
          have b3 : (r : Int) < (n : Int) := by omega
          have Er : Hid (gt L r = L[r]) := gt_eq L r hrL
          go_upto_region 8 with fail
          go_quiet (exact hbq1 _)
          have hb1 : Below wr.heap.size wr (wr.drewN nq) := below_drewN (Below.refl _ _) nq
          have hrow2 := hrow.later hb1
          have hkp2 := hkp.trans (.of_below hb1)
          generalize wr.drewN nq = wy at *
          clear hrow hkp hb1 nq
          go_wp2
          have hbq2 := before_q L[r] L[l] g (r * 7) (l * 7) wy (hrow2.at r hrL) (hrow2.at l hlL)
          by_cases hbr : bef L[r] L[l] = true
          · have hB : bef (gt L r) (gt L i) = true := by rw [Er.out, Ei.out]; exact bef_strict hbr hbl
            have hM : ∀ j, 0 < j → j < L.length → (j - 1) / 2 = i → bef (gt L j) (gt L r) = false := fun j j0 _ hj => by
              rcases HKID.out j j0 hj with rfl | rfl
              · rw [El.out, Er.out]; exact bef_asymm hbr
              · exact bef_refl _
            go_quiet (exact hbq2 _)
            clear hbq1 hbq2
            have hb1 : Below wy.heap.size wy (wy.drewN nq) := below_drewN (Below.refl _ _) nq
            have hrowX := hrow2.later hb1
            have hkX := hkp2.trans (.of_below hb1)
            generalize wy.drewN nq = wX at *
            clear hrow2 hkp2 hb1 nq
            have HDN : Hid (Dn 0 (sw L i r) r) := dn_step hdn (by omega) (by rw [HLL.out]; omega) (by have := HLE.out; have := HRE.out; omega) (Nat.zero_le _) hB hM
            have HSL : Hid ((sw L i r).length = n) := (sw_len L i r).trans HLL.out
            have HPM : Hid ((gt h 0 :: sw L i r).Perm h) := ((sw_perm L i r hiL hrL).cons (gt h 0)).trans hperm
            go_wp2
            obtain ⟨ei, ep, -, -, ⟨x0, x1, x2, x3, x4, x5, x6⟩, ⟨y0, y1, y2, y3, y4, y5, y6⟩, ⟨z0, z1, z2, z3, z4, z5, z6⟩, hrow3⟩ := swap_facts hrowX hiL hrL (by omega)
            unfold put7 at z0 z1 z2 z3 z4 z5 z6
            have hf := hrowX.free
            have HR : Hid (Row (put7 (put7 wX g (i * 7) ep) g (r * 7) ei).drew 32 g cap (sw L i r) ∧ Keep (fun k => k = g) wl (put7 (put7 wX g (i * 7) ep) g (r * 7) ei).drew) := ⟨hrow3.drew, ((hkX.put7 g (i * 7) ep rfl).put7 g (r * 7) ei rfl).drew⟩
            clear hrow3 hrowX hkX hdn hperm hB hM
            go_region
            go_wp2
            go_roundw
            case rel =>
              obtain ⟨r1, r2⟩ := HR.out
              unfold put7 at r1 r2
              exact ⟨r, sw L i r, rfl, by omega, fun _ => by omega, HDN.out, HSL.out, HPM.out, r1, r2⟩
            case measure => simp [intOf]; omega
          · have hbr' : bef L[r] L[l] = false := by simpa using hbr
            have hB : bef (gt L l) (gt L i) = true := by rw [El.out, Ei.out]; exact hbl
            have hM : ∀ j, 0 < j → j < L.length → (j - 1) / 2 = i → bef (gt L j) (gt L l) = false := fun j j0 _ hj => by
              rcases HKID.out j j0 hj with rfl | rfl
              · exact bef_refl _
              · rw [El.out, Er.out]; exact hbr'
            clear hbr
            go_quiet (exact hbq2 _)
            clear hbq1 hbq2
            have hb1 : Below wy.heap.size wy (wy.drewN nq) := below_drewN (Below.refl _ _) nq
            have hrowX := hrow2.later hb1
            have hkX := hkp2.trans (.of_below hb1)
            generalize wy.drewN nq = wX at *
            clear hrow2 hkp2 hb1 nq
            have HDN : Hid (Dn 0 (sw L i l) l) := dn_step hdn (by omega) (by rw [HLL.out]; omega) (by have := HLE.out; have := HRE.out; omega) (Nat.zero_le _) hB hM
            have HSL : Hid ((sw L i l).length = n) := (sw_len L i l).trans HLL.out
            have HPM : Hid ((gt h 0 :: sw L i l).Perm h) := ((sw_perm L i l hiL hlL).cons (gt h 0)).trans hperm
            go_wp2
            obtain ⟨ei, ep, -, -, ⟨x0, x1, x2, x3, x4, x5, x6⟩, ⟨y0, y1, y2, y3, y4, y5, y6⟩, ⟨z0, z1, z2, z3, z4, z5, z6⟩, hrow3⟩ := swap_facts hrowX hiL hlL (by omega)
            unfold put7 at z0 z1 z2 z3 z4 z5 z6
            have hf := hrowX.free
            have HR : Hid (Row (put7 (put7 wX g (i * 7) ep) g (l * 7) ei).drew 32 g cap (sw L i l) ∧ Keep (fun k => k = g) wl (put7 (put7 wX g (i * 7) ep) g (l * 7) ei).drew) := ⟨hrow3.drew, ((hkX.put7 g (i * 7) ep rfl).put7 g (l * 7) ei rfl).drew⟩
            clear hrow3 hrowX hkX hdn hperm hB hM
            go_region
            go_wp2
            go_roundw
            case rel =>
              obtain ⟨r1, r2⟩ := HR.out
              unfold put7 at r1 r2
              exact ⟨l, sw L i l, rfl, by omega, fun _ => by omega, HDN.out, HSL.out, HPM.out, r1, r2⟩
            case measure => simp [intOf]; omega
        · have hB : bef (gt L l) (gt L i) = true := by rw [El.out, Ei.out]; exact hbl
          have hM : ∀ j, 0 < j → j < L.length → (j - 1) / 2 = i → bef (gt L j) (gt L l) = false := fun j j0 hjl hj => by
            rcases HKID.out j j0 hj with rfl | rfl
            · exact bef_refl _
            · exfalso; rw [HLL.out] at hjl; omega
          go_upto_region 8 with fail
          go_quiet (exact hbq1 _)
          have hb1 : Below wr.heap.size wr (wr.drewN nq) := below_drewN (Below.refl _ _) nq
          have hrow2 := hrow.later hb1
          have hkp2 := hkp.trans (.of_below hb1)
          generalize wr.drewN nq = wy at *
          clear hrow hkp hb1 nq
          go_wp2
          go_quiet (fail)
          clear hbq1
          have hb1 : Below wy.heap.size wy (wy.drewN nq) := below_drewN (Below.refl _ _) nq
          have hrowX := hrow2.later hb1
          have hkX := hkp2.trans (.of_below hb1)
          generalize wy.drewN nq = wX at *
          clear hrow2 hkp2 hb1 nq
          have HDN : Hid (Dn 0 (sw L i l) l) := dn_step hdn (by omega) (by rw [HLL.out]; omega) (by have := HLE.out; have := HRE.out; omega) (Nat.zero_le _) hB hM
          have HSL : Hid ((sw L i l).length = n) := (sw_len L i l).trans HLL.out
          have HPM : Hid ((gt h 0 :: sw L i l).Perm h) := ((sw_perm L i l hiL hlL).cons (gt h 0)).trans hperm
          go_wp2
          obtain ⟨ei, ep, -, -, ⟨x0, x1, x2, x3, x4, x5, x6⟩, ⟨y0, y1, y2, y3, y4, y5, y6⟩, ⟨z0, z1, z2, z3, z4, z5, z6⟩, hrow3⟩ := swap_facts hrowX hiL hlL (by omega)
          unfold put7 at z0 z1 z2 z3 z4 z5 z6
          have hf := hrowX.free
          have HR : Hid (Row (put7 (put7 wX g (i * 7) ep) g (l * 7) ei).drew 32 g cap (sw L i l) ∧ Keep (fun k => k = g) wl (put7 (put7 wX g (i * 7) ep) g (l * 7) ei).drew) := ⟨hrow3.drew, ((hkX.put7 g (i * 7) ep rfl).put7 g (l * 7) ei rfl).drew⟩
          clear hrow3 hrowX hkX hdn hperm hB hM
          go_region
          go_wp2
          go_roundw
          case rel =>
            obtain ⟨r1, r2⟩ := HR.out
            unfold put7 at r1 r2
            exact ⟨l, sw L i l, rfl, by omega, fun _ => by omega, HDN.out, HSL.out, HPM.out, r1, r2⟩
          case measure => simp [intOf]; omega
      · have hbl' : bef L[l] L[i] = false := by simpa using hbl
        clear hbl
        by_cases hrn : r < n
        · have hrL : r < L.length := by rw [HLL.out]; omega
          have b3 : (r : Int) < (n : Int) := by omega
          have Er : Hid (gt L r = L[r]) := gt_eq L r hrL
          go_upto_region 8 with fail
          go_quiet (exact hbq1 _)
          have hb1 : Below wr.heap.size wr (wr.drewN nq) := below_drewN (Below.refl _ _) nq
          have hrow2 := hrow.later hb1
          have hkp2 := hkp.trans (.of_below hb1)
          generalize wr.drewN nq = wy at *
          clear hrow hkp hb1 nq
          go_wp2
          have hbq2 := before_q L[r] L[i] g (r * 7) (i * 7) wy (hrow2.at r hrL) (hrow2.at i hiL)
          by_cases hbr : bef L[r] L[i] = true
          · have hB : bef (gt L r) (gt L i) = true := by rw [Er.out, Ei.out]; exact hbr
            have hM : ∀ j, 0 < j → j < L.length → (j - 1) / 2 = i → bef (gt L j) (gt L r) = false := fun j j0 _ hj => by
              rcases HKID.out j j0 hj with rfl | rfl
              · rw [El.out, Er.out]; exact bef_trans (bef_asymm hbr) hbl'
              · exact bef_refl _
            go_quiet (exact hbq2 _)
            clear hbq1 hbq2
            have hb1 : Below wy.heap.size wy (wy.drewN nq) := below_drewN (Below.refl _ _) nq
            have hrowX := hrow2.later hb1
            have hkX := hkp2.trans (.of_below hb1)
            generalize wy.drewN nq = wX at *
            clear hrow2 hkp2 hb1 nq
            have HDN : Hid (Dn 0 (sw L i r) r) := dn_step hdn (by omega) (by rw [HLL.out]; omega) (by have := HLE.out; have := HRE.out; omega) (Nat.zero_le _) hB hM
            have HSL : Hid ((sw L i r).length = n) := (sw_len L i r).trans HLL.out
            have HPM : Hid ((gt h 0 :: sw L i r).Perm h) := ((sw_perm L i r hiL hrL).cons (gt h 0)).trans hperm
            go_wp2
            obtain ⟨ei, ep, -, -, ⟨x0, x1, x2, x3, x4, x5, x6⟩, ⟨y0, y1, y2, y3, y4, y5, y6⟩, ⟨z0, z1, z2, z3, z4, z5, z6⟩, hrow3⟩ := swap_facts hrowX hiL hrL (by omega)
            unfold put7 at z0 z1 z2 z3 z4 z5 z6
            have hf := hrowX.free
            have HR : Hid (Row (put7 (put7 wX g (i * 7) ep) g (r * 7) ei).drew 32 g cap (sw L i r) ∧ Keep (fun k => k = g) wl (put7 (put7 wX g (i * 7) ep) g (r * 7) ei).drew) := ⟨hrow3.drew, ((hkX.put7 g (i * 7) ep rfl).put7 g (r * 7) ei rfl).drew⟩
            clear hrow3 hrowX hkX hdn hperm hB hM
            go_region
            go_wp2
            go_roundw
            case rel =>
              obtain ⟨r1, r2⟩ := HR.out
              unfold put7 at r1 r2
              exact ⟨r, sw L i r, rfl, by omega, fun _ => by omega, HDN.out, HSL.out, HPM.out, r1, r2⟩
            case measure => simp [intOf]; omega
          · have hbr' : bef L[r] L[i] = false := by simpa using hbr
            have hheap : Heap L := fun j j0 hj => dn_end hdn (fun j j0 hj hp => by
              rcases HKID.out j j0 hp with rfl | rfl
              · rw [El.out, Ei.out]; exact hbl'
              · rw [Er.out, Ei.out]; exact hbr') j j0 hj (Nat.zero_le _)
            clear hbr
            go_quiet (exact hbq2 _)
            clear hbq1 hbq2
            have hb1 : Below wy.heap.size wy (wy.drewN nq) := below_drewN (Below.refl _ _) nq
            have hrowX := hrow2.later hb1
            have hkX := hkp2.trans (.of_below hb1)
            generalize wy.drewN nq = wX at *
            clear hrow2 hkp2 hb1 nq
            have hpiX := hpi.keep hkX HB.out HT.out HT2.out
            obtain ⟨e1, e2, ⟨t0, t1, t2, t3, t4, t5, t6⟩, e4, e5, e6⟩ := hpiX
            have hqlt2 : bq < wX.heap.size := World.block_lt_of_cell? _ _ e1
            obtain ⟨u0, e40⟩ := e4 0 (by omega)
            obtain ⟨u1, e41⟩ := e4 1 (by omega)
            obtain ⟨u2, e42⟩ := e4 2 (by omega)
            obtain ⟨u3, e43⟩ := e4 3 (by omega)
            obtain ⟨u4, e44⟩ := e4 4 (by omega)
            obtain ⟨u5, e45⟩ := e4 5 (by omega)
            obtain ⟨u6, e46⟩ := e4 6 (by omega)
            simp only [Nat.zero_add] at t1 t2 t3 t4 t5 t6
            clear e4
            have HE := pop_end hgb HT.out hqlt HLL.out hkL hkX hrowX hheap hperm e1 e2
            unfold put7 at HE
            simp only [Nat.zero_add] at HE
            have HF : Hid _ := HE
            clear HE
            go_wp2
            exact bodyPost_ret (v := (gt h 0).val) (by simp [results, Try.results29, go_sem, E.val, e40, e41, e42, e43, e44, e45, e46]) rfl ⟨rfl, HF.out⟩
        · have hheap : Heap L := fun j j0 hj => dn_end hdn (fun j j0 hj hp => by
            rcases HKID.out j j0 hp with rfl | rfl
            · rw [El.out, Ei.out]; exact hbl'
            · exfalso; rw [HLL.out] at hj; omega) j j0 hj (Nat.zero_le _)
          go_upto_region 8 with fail
          go_quiet (exact hbq1 _)
          have hb1 : Below wr.heap.size wr (wr.drewN nq) := below_drewN (Below.refl _ _) nq
          have hrow2 := hrow.later hb1
          have hkp2 := hkp.trans (.of_below hb1)
          generalize wr.drewN nq = wy at *
          clear hrow hkp hb1 nq
          go_wp2
          go_quiet (fail)
          clear hbq1
          have hb1 : Below wy.heap.size wy (wy.drewN nq) := below_drewN (Below.refl _ _) nq
          have hrowX := hrow2.later hb1
          have hkX := hkp2.trans (.of_below hb1)
          generalize wy.drewN nq = wX at *
          clear hrow2 hkp2 hb1 nq
          have hpiX := hpi.keep hkX HB.out HT.out HT2.out
          obtain ⟨e1, e2, ⟨t0, t1, t2, t3, t4, t5, t6⟩, e4, e5, e6⟩ := hpiX
          have hqlt2 : bq < wX.heap.size := World.block_lt_of_cell? _ _ e1
          obtain ⟨u0, e40⟩ := e4 0 (by omega)
          obtain ⟨u1, e41⟩ := e4 1 (by omega)
          obtain ⟨u2, e42⟩ := e4 2 (by omega)
          obtain ⟨u3, e43⟩ := e4 3 (by omega)
          obtain ⟨u4, e44⟩ := e4 4 (by omega)
          obtain ⟨u5, e45⟩ := e4 5 (by omega)
          obtain ⟨u6, e46⟩ := e4 6 (by omega)
          simp only [Nat.zero_add] at t1 t2 t3 t4 t5 t6
          clear e4
          have HE := pop_end hgb HT.out hqlt HLL.out hkL hkX hrowX hheap hperm e1 e2
          unfold put7 at HE
          simp only [Nat.zero_add] at HE
          have HF : Hid _ := HE
          clear HE
          go_wp2
          exact bodyPost_ret (v := (gt h 0).val) (by simp [results, Try.results29, go_sem, E.val, e40, e41, e42, e43, e44, e45, e46]) rfl ⟨rfl, HF.out⟩
    · have hrn : ¬ r < n := by omega
      have hheap : Heap L := fun j j0 hj => dn_end hdn (fun j j0 hj hp => by exfalso; have := HLL.out; have := HLE.out; omega) j j0 hj (Nat.zero_le _)
      go_upto_region 8 with fail
      go_quiet (fail)
      have hb1 : Below wr.heap.size wr (wr.drewN nq) := below_drewN (Below.refl _ _) nq
      have hrow2 := hrow.later hb1
      have hkp2 := hkp.trans (.of_below hb1)
      generalize wr.drewN nq = wy at *
      clear hrow hkp hb1 nq
      go_wp2
      go_quiet (fail)
      have hb1 : Below wy.heap.size wy (wy.drewN nq) := below_drewN (Below.refl _ _) nq
      have hrowX := hrow2.later hb1
      have hkX := hkp2.trans (.of_below hb1)
      generalize wy.drewN nq = wX at *
      clear hrow2 hkp2 hb1 nq
      have hpiX := hpi.keep hkX HB.out HT.out HT2.out
      obtain ⟨e1, e2, ⟨t0, t1, t2, t3, t4, t5, t6⟩, e4, e5, e6⟩ := hpiX
      have hqlt2 : bq < wX.heap.size := World.block_lt_of_cell? _ _ e1
      obtain ⟨u0, e40⟩ := e4 0 (by omega)
      obtain ⟨u1, e41⟩ := e4 1 (by omega)
      obtain ⟨u2, e42⟩ := e4 2 (by omega)
      obtain ⟨u3, e43⟩ := e4 3 (by omega)
      obtain ⟨u4, e44⟩ := e4 4 (by omega)
      obtain ⟨u5, e45⟩ := e4 5 (by omega)
      obtain ⟨u6, e46⟩ := e4 6 (by omega)
      simp only [Nat.zero_add] at t1 t2 t3 t4 t5 t6
      clear e4
      have HE := pop_end hgb HT.out hqlt HLL.out hkL hkX hrowX hheap hperm e1 e2
      unfold put7 at HE
      simp only [Nat.zero_add] at HE
      have HF : Hid _ := HE
      clear HE
      go_wp2
      exact bodyPost_ret (v := (gt h 0).val) (by simp [results, Try.results29, go_sem, E.val, e40, e41, e42, e43, e44, e45, e46]) rfl ⟨rfl, HF.out⟩
end Go.Proofs.Qxb6003230a.Hp
