import Derived.Test.Qxb6003230aCapW4
namespace Go.Proofs.Qxb6003230a.Cap
open Go.RowKit
set_option maxRecDepth 100000

/-- Too much: true at once. -/
theorem law_bytes (a0 a1 : Option Addr) (n0 c0 n1 c1 : Nat) (h0 : n0 ≤ maxLen) (h1 : n1 ≤ maxLen) (h : ¬ n0 + n1 ≤ 1048576) (w : World) :
    Calls Try.prog 6 #[.slice a0 n0 c0, .slice a1 n1 c1] w fun e w' => e = .returned (.bool true) ∧ w' = w := by
  have hd : decide (n0 + n1 ≤ 1048576) = false := by simp; omega
  go_enter Try.func6, Try.ntmps6
  go_wp2_with (go_at_call 22; refine (bytes_any a0 a1 n0 c0 n1 c1 h0 h1 _).mono ?_; rintro e w' ⟨rfl, rfl⟩)
  go_ret
  exact ⟨rfl, rfl⟩

theorem law_long (a0 a1 : Option Addr) (n0 c0 n1 c1 : Nat) (hb : n0 + n1 ≤ 1048576) (h : 4096 < n0 ∨ 4096 < n1) (w : World) :
    Calls Try.prog 6 #[.slice a0 n0 c0, .slice a1 n1 c1] w fun e w' => e = .returned (.bool true) ∧ w' = w := by
  have hd : decide (n0 + n1 ≤ 1048576) = true := by simp; omega
  by_cases h' : 4096 < n0
  · clear h
    go_enter Try.func6, Try.ntmps6
    go_wp2_with (go_at_call 22; refine (bytes_any a0 a1 n0 c0 n1 c1 (by unfold maxLen; omega) (by unfold maxLen; omega) _).mono ?_; rintro e w' ⟨rfl, rfl⟩)
    go_ret
    exact ⟨rfl, rfl⟩
  · have h'' : 4096 < n1 := by omega
    clear h
    go_enter Try.func6, Try.ntmps6
    go_wp2_with (go_at_call 22; refine (bytes_any a0 a1 n0 c0 n1 c1 (by unfold maxLen; omega) (by unfold maxLen; omega) _).mono ?_; rintro e w' ⟨rfl, rfl⟩)
    go_ret
    exact ⟨rfl, rfl⟩

theorem bstep {a b c : World} (h : Below a.heap.size a b) (k : Below b.heap.size b c) : Below a.heap.size a c := h.trans (k.mono h.size)

theorem cap_nan' (pb g n c2 : Nat) (sa : Option Addr) (len cap : Nat) (hn : n = 0) (hl : len = 0) (w : World) (hp : w.cell? ⟨pb, 2, none⟩ = some (.slice sa len cap)) :
    Calls Try.prog 25 #[.pointer (some ⟨pb, 0, none⟩), .slice (some ⟨g, 0, none⟩) n c2] w fun e w' => ∃ r, e = .returned (.float .f64 r) ∧ (FloatKind.f64.format.order r r != some .eq) = true ∧ Below w.heap.size w w' := by
  subst hn; subst hl
  exact cap_nan pb g c2 sa cap w hp

/-- The case without subtasks. -/
theorem fl_inf (C : Nat) (c0 : 0 < C) (c1 : C ≤ 4503599627370496) : ∃ r, Ieee.double.div (floatOfInt .f64 (C : Int)) (floatOfInt .f64 ((0 : Nat) : Int)) = some r ∧ FloatKind.f64.format.order r 9218868437227405311 = some .gt :=
  ⟨_, by rw [show (((0 : Nat) : Int)) = 0 from rfl, Fl.fZero]; exact Fl.div_zero C c0 c1, Fl.inf_gt⟩
/-- The case without contractors. -/
theorem fl_nought (D : Nat) (c0 : 0 < D) (c1 : D ≤ 4503599627370496) : ∃ r, Ieee.double.div (floatOfInt .f64 ((0 : Nat) : Int)) (floatOfInt .f64 (D : Int)) = some r ∧ FloatKind.f64.format.order r 0 = some .eq :=
  ⟨_, by rw [show (((0 : Nat) : Int)) = 0 from rfl, Fl.fZero]; exact Fl.zero_div D c0 c1, Fl.order_self Fl.read_zero⟩

theorem kpos {z : List Int} {k C : Nat} (_h : ∀ x ∈ z.take k, 1 ≤ x ∧ x ≤ 1099511627776) (hC : sm (z.take k) = (C : Int)) (h0 : ((C : Int) == 0) = false) : 0 < k := by
  rcases Nat.eq_zero_or_pos k with rfl | h
  · simp [sm] at hC; simp at h0; omega
  · exact h

/-- Twice the list: what the appends gather. -/
def tw (Z : List Int) (n : Nat) : List Int := (List.replicate n Z).flatten
theorem tw_zero (Z : List Int) : tw Z 0 = [] := rfl
theorem tw_succ (Z : List Int) (n : Nat) : tw Z (n + 1) = tw Z n ++ Z := by
  unfold tw; rw [List.replicate_succ', List.flatten_append]; simp
theorem tw_two (Z : List Int) : tw Z 2 = Z ++ Z := by rw [tw_succ, tw_succ, tw_zero]; simp
theorem app_step (T Z : List Int) (i : Nat) (hi : i < Z.length) : (T ++ Z.take i).map (Value.int .i64) ++ [.int .i64 (Z.getD i 0)] = (T ++ Z.take (i + 1)).map (Value.int .i64) := by
  rw [List.take_succ_eq_append_getElem hi, show Z.getD i 0 = Z[i] from by simp [List.getD, hi]]
  simp only [List.map_append, List.map_cons, List.map_nil, List.append_assoc]

def acc (Z : List Int) (q i : Nat) : List Value := (tw Z q ++ Z.take i).map (Value.int .i64)
theorem acc_start (Z : List Int) (q : Nat) : acc Z q 0 = (tw Z q).map (Value.int .i64) := by simp [acc]
theorem acc_step (Z : List Int) (q i : Nat) (hi : i < Z.length) : acc Z q i ++ [.int .i64 (Z.getD i 0)] = acc Z q (i + 1) := app_step _ _ _ hi
theorem acc_end (Z : List Int) (q i : Nat) (hi : Z.length = i) : acc Z q i = (tw Z (q + 1)).map (Value.int .i64) := by
  unfold acc; rw [tw_succ, List.take_of_length_le (by omega)]

theorem wf_of_range (x : Int) (h : 1 ≤ x ∧ x ≤ 1099511627776) : (Lit.int .i64 x).wf = true := by
  simp [Lit.wf, IntKind.min, IntKind.max, IntKind.signed, IntKind.bits]; omega

theorem isRow_of_owns {w : World} {B g n : Nat} {zs : List Int} (h : w.ownsRow B 2 1 (.slice (some ⟨g, 0, none⟩) n n) n (zs.map (Value.int .i64))) (hm : n ≤ maxLen) (hw : ∀ x ∈ zs, (Lit.int .i64 x).wf = true) : IsRow .i64 w (some ⟨g, 0, none⟩) n n zs := by
  have hl : zs.length = n := by have := h.1; simp at this; omega
  refine .inr ⟨_, rfl, Nat.le_refl _, hm, hl, fun i hi => ?_, hw⟩
  rw [Addr.add_lit, Nat.zero_add, h.cellAt i (by omega)]
  simp [List.getD, hi]

theorem round_in (z : List Int) (k : Nat) (hk : k < z.length) (hk' : k ≤ 4096) (hall : ∀ x ∈ z.take k, 1 ≤ x ∧ x ≤ 1099511627776) :
    ∃ s x : Int, sm (z.take k) = s ∧ z.getD k 0 = x ∧ 0 ≤ s ∧ s ≤ 4503599627370496 ∧ Hid (1 ≤ x → x ≤ 1099511627776 → sm (z.take (k + 1)) = s + x ∧ ∀ y ∈ z.take (k + 1), 1 ≤ y ∧ y ≤ 1099511627776) := by
  have a := sm_nonneg (z.take k) (fun x hx => (hall x hx).1)
  have b := sm_le (z.take k) (fun x hx => (hall x hx).2)
  have hl : (z.take k).length ≤ 4096 := by simp; omega
  refine ⟨_, _, rfl, rfl, by omega, by omega, fun g1 g2 => ⟨sm_take z k hk, fun y hy => ?_⟩⟩
  rw [List.take_succ_eq_append_getElem hk] at hy
  rcases List.mem_append.1 hy with h | h
  · exact hall y h
  · simp at h; subst h; simp [List.getD, hk] at g1 g2; exact ⟨g1, g2⟩

set_option maxHeartbeats 2000000 in
theorem law_main (a0 a1 : Option Addr) (n0 c0 n1 c1 : Nat) (z0 z1 : List Int) (h0 : n0 ≤ 4096) (h1 : n1 ≤ 4096) (w : World) (w0 : IsRow .i64 w a0 n0 c0 z0) (w1 : IsRow .i64 w a1 n1 c1 z1) :
    Calls Try.prog 6 #[.slice a0 n0 c0, .slice a1 n1 c1] w fun e w' => e = .returned (.bool true) ∧ Below w.heap.size w w' := by
  have hd : decide (n0 + n1 ≤ 1048576) = true := by simp; omega
  have l0 := w0.len_le.1
  have l1 := w1.len_le.1
  go_enter Try.func6, Try.ntmps6
  go_wp2_with (go_at_call 22; refine (bytes_any a0 a1 n0 c0 n1 c1 (by unfold maxLen; omega) (by unfold maxLen; omega) _).mono ?_; rintro e w' ⟨rfl, rfl⟩)
  go_loop [5, 7] (fun c i => ∃ k : Nat, k ≤ n0 ∧ i = .int .i64 k ∧ c = .int .i64 (sm (z0.take k)) ∧ ∀ x ∈ z0.take k, 1 ≤ x ∧ x ≤ 1099511627776) (fun _ i => n0 - (intOf i).toNat)
  case atStart => exact ⟨0, Nat.zero_le _, rfl, rfl, by simp⟩
  case round =>
    obtain ⟨k, hk, rfl, rfl, hall⟩ := hrel
    have HA : Hid (∀ x ∈ z0.take k, 1 ≤ x ∧ x ≤ 1099511627776) := hall
    clear hall
    by_cases hlt : k < n0
    · obtain ⟨b, off, rfl, hcx⟩ := w0.at k hlt
      obtain ⟨s, x, es, ex, s0, s1, HR⟩ := round_in z0 k (by omega) (by omega) HA.out
      rw [es]; rw [ex] at hcx
      clear es ex
      by_cases x1 : x < 1
      · go_wp2
        go_ret
        exact ⟨rfl, Below.refl _ _⟩
      · by_cases x2 : 1099511627776 < x
        · go_wp2
          go_ret
          exact ⟨rfl, Below.refl _ _⟩
        · go_wp2
          go_round
          case rel => exact ⟨k + 1, by omega, by go_num, by rw [(HR.out (by omega) (by omega)).1], (HR.out (by omega) (by omega)).2⟩
          case measure => simp [intOf]; omega
    · have : k = n0 := by omega
      subst this
      clear hlt hk
      go_wp2
      go_loop [6, 8] (fun c i => ∃ j : Nat, j ≤ n1 ∧ i = .int .i64 j ∧ c = .int .i64 (sm (z1.take j)) ∧ ∀ x ∈ z1.take j, 1 ≤ x ∧ x ≤ 1099511627776) (fun _ i => n1 - (intOf i).toNat)
      case atStart => exact ⟨0, Nat.zero_le _, rfl, rfl, by simp⟩
      case round =>
        obtain ⟨j, hj, rfl, rfl, hall⟩ := hrel
        have HB : Hid (∀ x ∈ z1.take j, 1 ≤ x ∧ x ≤ 1099511627776) := hall
        clear hall
        by_cases hlt : j < n1
        · obtain ⟨b, off, rfl, hcx⟩ := w1.at j hlt
          obtain ⟨s, x, es, ex, s0, s1, HR⟩ := round_in z1 j (by omega) (by omega) HB.out
          rw [es]; rw [ex] at hcx
          clear es ex
          by_cases x1 : x < 1
          · go_wp2
            go_ret
            exact ⟨rfl, Below.refl _ _⟩
          · by_cases x2 : 1099511627776 < x
            · go_wp2
              go_ret
              exact ⟨rfl, Below.refl _ _⟩
            · go_wp2
              go_round
              case rel => exact ⟨j + 1, by omega, by go_num, by rw [(HR.out (by omega) (by omega)).1], (HR.out (by omega) (by omega)).2⟩
              case measure => simp [intOf]; omega
        · have : j = n1 := by omega
          subst this
          clear hlt hj
          obtain ⟨C, eC⟩ : ∃ C : Nat, sm (z0.take k) = (C : Int) := ⟨(sm (z0.take k)).toNat, by have := sm_nonneg _ (fun x hx => (HA.out x hx).1); omega⟩
          obtain ⟨D, eD⟩ : ∃ D : Nat, sm (z1.take j) = (D : Int) := ⟨(sm (z1.take j)).toNat, by have := sm_nonneg _ (fun x hx => (HB.out x hx).1); omega⟩
          rw [eC, eD]
          have HC : Hid (sm (z0.take k) = (C : Int)) := eC
          have HD : Hid (sm (z1.take j) = (D : Int)) := eD
          clear eC eD
          go_wp2_with fail
          refine (clone_any a0 k c0 z0 _ h0 w0).mono ?_
          rintro e wA ⟨b0, rfl, r0, hbA⟩
          go_wp2_with fail
          refine (clone_any a1 j c1 z1 _ h1 (w1.later hbA)).mono ?_
          rintro e wB ⟨b1, rfl, r1, hbB⟩
          go_wp2_with fail
          have r0' := (r0.later hbB).later ((Below.refl _ wB).alloc (Nat.le_refl _) (.cells #[.int .i64 0, .slice none 0 0, .slice b1 j j] 50))
          have r1' := r1.later ((Below.refl _ wB).alloc (Nat.le_refl _) (.cells #[.int .i64 0, .slice none 0 0, .slice b1 j j] 50))
          have hpl : (wB.alloc (.cells #[.int .i64 0, .slice none 0 0, .slice b1 j j] 50)).cell? ⟨wB.heap.size, 2, none⟩ = some (.slice b1 j j) := by simp [go_sem]
          refine (con_any b0 k k (z0.take k) _ h0 r0').mono ?_
          rintro e wC ⟨g, rfl, hcon, hbC⟩
          have hcon' : IsCon wC g (z0.take k) := by simpa [List.take_take] using hcon
          have hpl' := cell_later hbC hpl
          have r1'' := r1'.later hbC
          have hbw : Below w'.heap.size w' wC := bstep (bstep hbA hbB) (bstep ((Below.refl _ wB).alloc (Nat.le_refl _) _) hbC)
          have hbC0 := hbC
          clear hcon hpl r0 r1 r1' w0 w1 hbC
          have kl : k = (z0.take k).length := by simp; omega
          have jl : j = (z1.take j).length := by simp; omega
          have c1 : C ≤ 4503599627370496 := by have := sm_le _ (fun x hx => (HA.out x hx).2); have := HC.out; omega
          have d1 : D ≤ 4503599627370496 := by have := sm_le _ (fun x hx => (HB.out x hx).2); have := HD.out; omega
          have ck : (k : Int) ≤ C := by have := sm_nonneg _ (fun x hx => (HA.out x hx).1); have := HC.out; omega
          have dj : (j : Int) ≤ D := by have := sm_nonneg _ (fun x hx => (HB.out x hx).1); have := HD.out; omega
          have HK : Hid (k = (z0.take k).length) := kl
          have HJ : Hid (j = (z1.take j).length) := jl
          clear kl jl
          go_wp2_with fail
          by_cases hD : D = 0
          · have hD0 : ((D : Int) == 0) = true := by simp; omega
            by_cases hC : C = 0
            · have hC0 : ((C : Int) == 0) = true := by simp; omega
              refine (cap_nan' wB.heap.size g k k b1 j j (by omega) (by omega) _ hpl').mono ?_
              rintro e wD ⟨r, rfl, hr, hbD⟩
              clear hC hD
              go_wp2
              go_ret
              exact ⟨rfl, bstep hbw hbD⟩
            · have hC0 : ((C : Int) == 0) = false := by simp; omega
              obtain ⟨r, hdiv, hgt⟩ := fl_inf C (by omega) c1
              have hdiv' : Ieee.double.div (floatOfInt .f64 (sm (z0.take k))) (floatOfInt .f64 (sm ((z1.take j).take j))) = some r := by
                rw [HC.out, List.take_take, Nat.min_self, HD.out, hD]; exact hdiv
              refine (cap_any wB.heap.size g k k (z0.take k) (z1.take j) b1 j j _ r hpl' (by omega) (by omega) HK.out r1'' hcon' (fun x hx => (HA.out x hx).1) (fun x hx => (HB.out x (by simpa [List.take_take] using hx)).1) (by rw [HC.out]; omega) (by rw [List.take_take, Nat.min_self, HD.out]; omega) hdiv').mono ?_
              rintro e wD ⟨rfl, hbD⟩
              clear hC hD hdiv hdiv'
              go_wp2
              go_ret
              exact ⟨rfl, bstep hbw hbD⟩
          · have hD0 : ((D : Int) == 0) = false := by simp; omega
            by_cases hC : C = 0
            · have hC0 : ((C : Int) == 0) = true := by simp; omega
              obtain ⟨r, hdiv, hgt⟩ := fl_nought D (by omega) d1
              have hdiv' : Ieee.double.div (floatOfInt .f64 (sm (z0.take k))) (floatOfInt .f64 (sm ((z1.take j).take j))) = some r := by
                rw [HC.out, List.take_take, Nat.min_self, HD.out, hC]; exact hdiv
              refine (cap_any wB.heap.size g k k (z0.take k) (z1.take j) b1 j j _ r hpl' (by omega) (by omega) HK.out r1'' hcon' (fun x hx => (HA.out x hx).1) (fun x hx => (HB.out x (by simpa [List.take_take] using hx)).1) (by rw [HC.out]; omega) (by rw [List.take_take, Nat.min_self, HD.out]; omega) hdiv').mono ?_
              rintro e wD ⟨rfl, hbD⟩
              clear hC hD hdiv hdiv'
              go_wp2
              go_ret
              exact ⟨rfl, bstep hbw hbD⟩
            · have hC0 : ((C : Int) == 0) = false := by simp; omega
              obtain ⟨r, p, df, t, r2, rh, hdiv, hpos, hmul, hsub, hquo, hlt, hge, hdiv2, hmul2, hself2, hdivh, hquoh, hselfh⟩ := Fl.law C D (by omega) c1 (by omega) d1
              have hdiv' : Ieee.double.div (floatOfInt .f64 (sm (z0.take k))) (floatOfInt .f64 (sm ((z1.take j).take j))) = some r := by
                rw [HC.out, List.take_take, Nat.min_self, HD.out]; exact hdiv
              refine (cap_any wB.heap.size g k k (z0.take k) (z1.take j) b1 j j _ r hpl' (by omega) (by omega) HK.out r1'' hcon' (fun x hx => (HA.out x hx).1) (fun x hx => (HB.out x (by simpa [List.take_take] using hx)).1) (by rw [HC.out]; omega) (by rw [List.take_take, Nat.min_self, HD.out]; omega) hdiv').mono ?_
              rintro e wD ⟨rfl, hbD⟩
              clear hC hD hdiv hdiv'
              have hk0 : 0 < k := kpos HA.out HC.out hC0
              have gpos : FloatKind.f64.format.order r 0 = some .gt := hpos
              have g1 := fun w => run_float_arith (P := Try.prog) w .mul 53 .f64 _ _ p hmul
              have g2 := fun w => run_float_arith (P := Try.prog) w .sub 53 .f64 _ _ df hsub
              have g3 := fun w => run_float_arith (P := Try.prog) w .quo 53 .f64 _ _ t hquo
              have g4 := fun w => run_float_arith (P := Try.prog) w .mul 53 .f64 _ _ r2 hmul2
              have g5 := fun w => run_float_arith (P := Try.prog) w .quo 53 .f64 _ _ rh hquoh
              have gs2 : FloatKind.f64.format.order r2 r2 = some .eq := hself2
              have gsh : FloatKind.f64.format.order rh rh = some .eq := hselfh
              clear hpos hmul hsub hquo hmul2 hquoh hself2 hselfh
              have gn : ∀ w, (Op.unary .neg (.float .f64 df)).run Try.prog w = .ok (.float .f64 (Op.negFloat .f64 df)) w := fun w => rfl
              have hp2 := cell_later hbD hpl'
              have r02 := r0'.later (bstep (show Below _ _ wC from hbC0) hbD)
              have r12 := r1''.later hbD
              have hcon2 := hcon'.later hbD
              have hbw2 := bstep hbw hbD
              clear hpl' r0' r1'' hcon' hbD hbw hbC0
              by_cases hneg : (FloatKind.f64.format.order df 0 == some .lt) = true
              case' pos =>
                have hng : (FloatKind.f64.format.order (Op.negFloat .f64 df) t == some .gt) = false := hlt hneg
                clear hlt hge
                go_wp2_with fail
              case' neg =>
                have hneg' : (FloatKind.f64.format.order df 0 == some .lt) = false := by simpa using hneg
                have hng : (FloatKind.f64.format.order df t == some .gt) = false := hge hneg'
                clear hlt hge hneg
                go_wp2_with fail
              all_goals
                refine (con_more b0 k k (z0.take k) (C : Int) wD h0 hk0 r02).mono ?_
                rintro e wE ⟨g', rfl, hconE, hbE⟩
                have hpE := cell_later hbE hp2
                have r1E := r12.later hbE
                have hconE' : IsCon wE g' (z0.take k ++ [(C : Int)]) := by simpa [List.take_take] using hconE
                have hcon3 := hcon2.later hbE
                have hbw3 := bstep hbw2 hbE
                clear hp2 r02 r12 hcon2 hbw2 hconE hbE
                go_wp2_with fail
                have e2 : sm (z0.take k ++ [(C : Int)]) = ((2 * C : Nat) : Int) := by rw [sm_snoc, HC.out]; omega
                have hdiv2' : Ieee.double.div (floatOfInt .f64 (sm (z0.take k ++ [(C : Int)]))) (floatOfInt .f64 (sm ((z1.take j).take j))) = some r2 := by
                  rw [e2, List.take_take, Nat.min_self, HD.out]; exact hdiv2
                refine (cap_any wB.heap.size g' (k + 1) (k + 1) (z0.take k ++ [(C : Int)]) (z1.take j) b1 j j _ r2 hpE (by omega) (by omega) (by have := HK.out; simp only [List.length_append, List.length_cons, List.length_nil]; omega) r1E hconE'
                  (fun x hx => by rcases List.mem_append.1 hx with h | h; exact (HA.out x h).1; simp at h; omega) (fun x hx => (HB.out x (by simpa [List.take_take] using hx)).1) (by rw [e2]; omega) (by rw [List.take_take, Nat.min_self, HD.out]; omega) hdiv2').mono ?_
                rintro e wF ⟨rfl, hbF⟩
                have r1F := r1E.later hbF
                have hcon4 := hcon3.later hbF
                have hbw4 := bstep hbw3 hbF
                clear hpE r1E hconE' hcon3 hbw3 hbF e2 hdiv2 hdiv2'
                obtain ⟨i0, hi, hz0, hz1, hz2⟩ := info_parts Try.info2
                go_wp2_with (at_make; refine wpList_make_own _ rfl _ _ 44 rfl wF.heap.size 2 i0 (.int .i64 0) 1 Try.underlying44 hi hz0 hz1 _ _ _ (2 * j) rfl rfl (by omega) (by rw [hz2]; omega) (by unfold maxLen; omega) (Nat.le_refl _) ?_)
                intro wG hown hgrow
                have hnx : Below wF.heap.size wF wG := (Below.refl _ _).grown hgrow (Nat.le_refl _) (by simp)
                clear hgrow
                have jz : (z1.take j).length = j := HJ.out.symm
                have HZ : Hid ((z1.take j).length = j) := jz
                clear jz
                go_wp2
                go_loopw [16, 17, 18] (fun s kk _ wr => ∃ q : Nat, q ≤ 2 ∧ kk = .int .i64 q ∧ s = .slice (some ⟨wF.heap.size, 0, none⟩) (q * j) (2 * j) ∧
                  wr.ownsRow wF.heap.size 2 1 (.slice (some ⟨wF.heap.size, 0, none⟩) (q * j) (2 * j)) (q * j) ((tw (z1.take j) q).map (Value.int .i64)) ∧ Below wF.heap.size wF wr) (fun _ kk _ _ => 2 - (intOf kk).toNat)
                case atStart => exact ⟨0, by omega, rfl, by simp, by simpa [tw_zero] using hown, hnx⟩
                case round =>
                  clear hown hnx
                  obtain ⟨q, hq, rfl, rfl, hown, hnx⟩ := hrel
                  by_cases hlt : q < 2
                  · obtain ⟨m, hm, hm2⟩ : ∃ m, q * j = m ∧ m + j ≤ 2 * j := ⟨_, rfl, by have := Nat.mul_le_mul_right j (show q ≤ 1 by omega); omega⟩
                    rw [hm]
                    rw [hm] at hown
                    have HM : Hid (q * j = m) := hm
                    have hq2 : (q : Int) < 2 := by omega
                    clear hm
                    go_wp2
                    go_loopw [16, 18] (fun s ii ws => ∃ i : Nat, i ≤ j ∧ ii = .int .i64 i ∧ s = .slice (some ⟨wF.heap.size, 0, none⟩) (m + i) (2 * j) ∧
                      ws.ownsRow wF.heap.size 2 1 (.slice (some ⟨wF.heap.size, 0, none⟩) (m + i) (2 * j)) (m + i) (acc (z1.take j) q i) ∧ Below wF.heap.size wF ws) (fun _ ii _ => j - (intOf ii).toNat)
                    case atStart => exact ⟨0, Nat.zero_le _, rfl, rfl, by rw [acc_start]; exact hown, hnx⟩
                    case round =>
                      clear hown hnx
                      obtain ⟨i, hi', rfl, rfl, hown, hnx⟩ := hrel
                      by_cases hli : i < j
                      · obtain ⟨bb, off, rfl, hcx0⟩ := r1F.at i hli
                        have hcx := cell_later hnx hcx0
                        have HS : Hid (acc (z1.take j) q i ++ [.int .i64 ((z1.take j).getD i 0)] = acc (z1.take j) q (i + 1)) := acc_step _ _ _ (by rw [HZ.out]; omega)
                        generalize (z1.take j).getD i 0 = x at hcx HS
                        clear hcx0
                        go_wp2_with (at_builtin; refine wpList_append_fits _ rfl _ _ 44 rfl wF.heap.size 2 i0 1 Try.underlying44 hi hz1 wF.heap.size (m + i) (2 * j) _ rfl (hown.alloc _) ⟨_, 0, none⟩ 1 1 [.int .i64 x] rfl rfl (cell_one_new _ _ _) (by intro u hu; simp at hu; subst hu; rfl) (by omega) ?_)
                        intro wX hownX hgrowX
                        have hnxX : Below wF.heap.size wF wX := (hnx.alloc hnx.size _).grown hgrowX (by have := hnx.size; simp; omega) (by intro y hy; cases hy; exact Nat.le_refl _)
                        rw [HS.out] at hownX
                        clear hgrowX hown hnx
                        go_wp2
                        go_roundw
                        case rel => first | exact ⟨i + 1, by omega, by go_num, rfl, hownX, hnxX⟩ | ((repeat apply Exists.intro); refine And.intro ?_ rfl; exact ⟨i + 1, by omega, by go_num, rfl, hownX, hnxX⟩)
                        case measure => simp [intOf]; omega
                      · have : i = j := by omega
                        subst this
                        rw [acc_end _ _ _ HZ.out] at hown
                        have e1 : m + i = (q + 1) * i := by have := HM.out; rw [Nat.succ_mul]; omega
                        rw [e1] at hown
                        go_wp2
                        go_roundw
                        case rel => exact ⟨q + 1, by omega, by go_num, by rw [e1], hown, hnx⟩
                        case measure => simp [intOf]; omega
                  · have : q = 2 := by omega
                    subst this
                    rw [tw_two] at hown
                    have rZ := isRow_of_owns hown (by unfold maxLen; omega) (fun x hx => wf_of_range x (HB.out x (by simpa using hx)))
                    have eZ : sm ((z1.take j ++ z1.take j).take (2 * j)) = ((2 * D : Nat) : Int) := by
                      have := HZ.out
                      rw [List.take_of_length_le (by rw [List.length_append]; omega), sm_app, HD.out]; omega
                    have hZ1 : ∀ x ∈ (z1.take j ++ z1.take j).take (2 * j), 1 ≤ x := fun x hx => (HB.out x (by simpa using List.mem_of_mem_take hx)).1
                    have hdivh' : Ieee.double.div (floatOfInt .f64 (sm (z0.take k))) (floatOfInt .f64 (sm ((z1.take j ++ z1.take j).take (2 * j)))) = some rh := by
                      rw [HC.out, eZ]; exact hdivh
                    go_wp2_with fail
                    have hal := (Below.refl wr.heap.size wr).alloc (Nat.le_refl _) (.cells #[.int .i64 0, .slice none 0 0, .slice (some ⟨wF.heap.size, 0, none⟩) (2 * j) (2 * j)] 50)
                    refine (cap_any wr.heap.size g k k (z0.take k) (z1.take j ++ z1.take j) (some ⟨wF.heap.size, 0, none⟩) (2 * j) (2 * j) _ rh (by simp [go_sem]) (by omega) (by omega) HK.out (rZ.later hal) ((hcon4.later hnx).later hal) (fun x hx => (HA.out x hx).1) hZ1 (by rw [HC.out]; omega) (by rw [eZ]; omega) hdivh').mono ?_
                    rintro e wH ⟨rfl, hbH⟩
                    clear hdivh' hdivh
                    go_wp2
                    go_ret
                    exact ⟨rfl, bstep (bstep (bstep hbw4 hnx) hal) hbH⟩
end Go.Proofs.Qxb6003230a.Cap
