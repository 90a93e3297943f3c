import Derived.Test.Qxb6602573aPl3
import Derived.Deep.CutRange
set_option linter.unusedVariables false
namespace Go.Proofs.Qxb6602573a.Pl
open Go.RowKit

set_option maxHeartbeats 4000000 in
set_option maxRecDepth 100000 in
theorem plain_off (W : World) (b : Nat) (hWb : W.heap.size ≤ b) (s : ByteArray) (st : Nat) (line ls : Int) (hs : s.size ≤ 1048576) (hst : st ≤ s.size) (w : World) (hps : Ps w b s (st : Int) line ls) (hg : Grown W w) :
    Calls Try.prog 13 #[.pointer (some ⟨b, 0, none⟩), .bool false] w fun r w' => ∃ i e : Nat, r = .returned (.string (s.extract st e)) ∧ Inv s st i e false ∧ (i < s.size → ends s i st false = true) ∧ Ps w' b s (i : Int) line ls ∧ Grown W w' := by
  have hc0 := hps.c0
  have hc1 := hps.c1
  go_enter Try.func13, Try.ntmps13
  go_wp2_with fail
  go_quiet (fail)
  have hps1 := hps.drewN nq
  have hg1 := Grown.drewN hg nq
  generalize w.drewN nq = w1 at *
  clear hc0 hc1 hps hg
  go_wp2_with fail
  go_loopw [6] (fun v6 wr => ∃ i e : Nat, v6 = .int .i64 e ∧ Inv s st i e false ∧ Ps wr b s (i : Int) line ls ∧ Grown W wr) (fun _ wr => s.size - (intOf ((wr.cell? ⟨b, 1, none⟩).getD (.int .i64 0))).toNat)
  case atStart => exact ⟨st, st, rfl, Inv.start hst, hps1, hg1⟩
  case round =>
    obtain ⟨i, e, rfl, inv, hps, hg⟩ := hrel
    clear hps1 hg1
    have h1 := inv.h1
    have h2 := inv.h2
    have h3 := inv.h3
    have h4 : st ≤ i := by omega
    have h5 : e ≤ s.size := by omega
    by_cases hlt : i < s.size
    · have hd : decide (s.size ≤ i) = false := by simp; omega
      have HM : Hid (wr.cell? ⟨b, 1, none⟩ = some (.int .i64 (i : Int))) := hps.c1
      go_wp2_with fail
      refine (atEnd_any b s i hs h3 wr hps.c0 hps.c1).mono ?_
      rintro r wA ⟨rfl, k, hwA⟩
      have hpsA := hps.drewN k
      have hgA := Grown.drewN hg k
      rw [← hwA] at hpsA hgA
      clear hwA hps hg
      go_wp2_with fail
      refine (peek_any b s i hs h3 wA hpsA.c0 hpsA.c1).mono ?_
      rintro r wB ⟨rfl, k2, hwB⟩
      have hps := hpsA.drewN k2
      have hg := Grown.drewN hgA k2
      rw [← hwB] at hps hg
      clear hwB hpsA hgA
      obtain ⟨x, hx⟩ : ∃ x, x = X s i false := ⟨_, rfl⟩
      have HX : Hid (x = X s i false) := hx
      obtain ⟨y, hy⟩ : ∃ y, y = Y s i st false := ⟨_, rfl⟩
      have HY : Hid (y = Y s i st false) := hy
      clear hx hy
      go_upto_region 4 with fail
      go_cut [39] from 16 to 83 (fun v39 wc => v39 = .bool x ∧ ∃ k, wc = wB.drewN k)
      case first =>
        have hat0 := at_any b s i 1 hs h3 (by omega) wB hps.c0 hps.c1
        have hat := fun kk : Nat => at_any b s i 1 hs h3 (by omega) (wB.drewN kk) hps.c0 hps.c1
        have c16 := isBreak_any (ch s i)
        have c17 := isSpace_any (ch s (i + 1))
        have c19 := isFlow_any (ch s (i + 1))
        by_cases hbr : brk (ch s i) = true
        · rw [hbr] at c16
          go_wp2_with (go_at_call 16; refine (c16 _).mono ?_; rintro e w' ⟨rfl, rfl⟩)
          go_meet
          case rel => exact ⟨congrArg Value.bool (by rw [HX.out]; simp [X, hbr]), 0, rfl⟩
        · have hbr : brk (ch s i) = false := by simpa using hbr
          rw [hbr] at c16
          by_cases h58 : (ch s i == 58) = true
          · by_cases hsp : spc (ch s (i + 1)) = true
            · rw [hsp] at c17
              go_wp2_with (first | (go_at_call 16; refine (c16 _).mono ?_; rintro e w' ⟨rfl, rfl⟩) | (go_at_call 17; refine (c17 _).mono ?_; rintro e w' ⟨rfl, rfl⟩) | (go_at_call 19; refine (c19 _).mono ?_; rintro e w' ⟨rfl, rfl⟩) | (go_at_call 18; (first | refine (hat0).mono ?_ | refine (hat _).mono ?_); rintro e w' ⟨rfl, kk, rfl⟩))
              go_meet
              case rel => exact ⟨congrArg Value.bool (by rw [HX.out]; simp [X, h58, hsp]), _, rfl⟩
            · have hsp : spc (ch s (i + 1)) = false := by simpa using hsp
              rw [hsp] at c17
              go_wp2_with (first | (go_at_call 16; refine (c16 _).mono ?_; rintro e w' ⟨rfl, rfl⟩) | (go_at_call 17; refine (c17 _).mono ?_; rintro e w' ⟨rfl, rfl⟩) | (go_at_call 19; refine (c19 _).mono ?_; rintro e w' ⟨rfl, rfl⟩) | (go_at_call 18; (first | refine (hat0).mono ?_ | refine (hat _).mono ?_); rintro e w' ⟨rfl, kk, rfl⟩))
              go_meet
              case rel => exact ⟨congrArg Value.bool (by rw [HX.out]; simp [X, h58, hsp, hbr]), by first | exact ⟨_, rfl⟩ | exact ⟨_, World.drewN_drewN ..⟩⟩
          · have h58 : (ch s i == 58) = false := by simpa using h58
            go_wp2_with (first | (go_at_call 16; refine (c16 _).mono ?_; rintro e w' ⟨rfl, rfl⟩))
            go_meet
            case rel => exact ⟨congrArg Value.bool (by rw [HX.out]; simp [X, h58, hbr]), 0, rfl⟩
      case rest =>
        obtain ⟨rfl, k3, hwc⟩ := hcut
        have hpsC := hps.drewN k3
        have hgC := Grown.drewN hg k3
        rw [← hwc] at hpsC hgC
        clear hwc hps hg
        cases x
        case' true =>
          have c0 := hpsC.c0
          go_wp2_with fail
          go_ret
          exact ⟨i, e, rfl, inv, fun _ => by rw [ends_is, ← HX.out]; rfl, hpsC, hgC⟩
        case' false =>
          go_upto_region 5 with fail
          go_cut [69] from 16 to 83 (fun v69 wd => v69 = .bool y ∧ ∃ k, wd = wc.drewN k)
          case first =>
            have c0 := hpsC.c0
            have c1 := hpsC.c1
            have cb := isBlank_any (ch s (i - 1))
            have cf := isFlow_any (ch s i)
            have hb := ch_at s
            by_cases h35 : (ch s i == 35) = true
            · by_cases hsi : st < i
              · have hdi : decide ((st : Int) < (i : Int)) = true := by simp; omega
                have b1 : (0 : Int) ≤ (i : Int) - 1 := by omega
                have b2 : (i : Int) - 1 < (s.size : Int) := by omega
                have b3 : ((i : Int) - 1).toNat = i - 1 := by omega
                by_cases hbk : blk (ch s (i - 1)) = true
                · rw [hbk] at cb
                  go_quiet (first | exact Calls.quiet_of_same (cb _) | exact Calls.quiet_of_same (cf _))
                  go_wp2_with fail
                  go_meet
                  case rel => exact ⟨congrArg Value.bool (by rw [HY.out]; simp [Y, h35, hsi, hbk]), _, rfl⟩
                · have hbk : blk (ch s (i - 1)) = false := by simpa using hbk
                  rw [hbk] at cb
                  go_quiet (first | exact Calls.quiet_of_same (cb _) | exact Calls.quiet_of_same (cf _))
                  go_wp2_with fail
                  go_meet
                  case rel => exact ⟨congrArg Value.bool (by rw [HY.out]; simp [Y, hbk]), _, rfl⟩
              · have hdi : decide ((st : Int) < (i : Int)) = false := by simp; omega
                go_quiet (first | exact Calls.quiet_of_same (cb _) | exact Calls.quiet_of_same (cf _))
                go_wp2_with fail
                go_meet
                case rel => exact ⟨congrArg Value.bool (by rw [HY.out]; simp [Y, hsi]), _, rfl⟩
            · have h35 : (ch s i == 35) = false := by simpa using h35
              go_quiet (first | exact Calls.quiet_of_same (cb _) | exact Calls.quiet_of_same (cf _))
              go_wp2_with fail
              go_meet
              case rel => exact ⟨congrArg Value.bool (by rw [HY.out]; simp [Y, h35]), _, rfl⟩
          case rest =>
            obtain ⟨rfl, k4, hwd⟩ := hcut
            have hps := hpsC.drewN k4
            have hg := Grown.drewN hgC k4
            rw [← hwd] at hps hg
            clear hwd hpsC hgC
            cases y
            case' true =>
              have c0 := hps.c0
              go_wp2_with fail
              go_ret
              exact ⟨i, e, rfl, inv, fun _ => by rw [ends_is, ← HX.out, ← HY.out]; rfl, hps, hg⟩
            case' false =>
              have HE : Hid (ends s i st false = false) := by unfold Hid; rw [ends_is, ← HX.out, ← HY.out]; rfl
              have c0 := hps.c0
              have c1 := hps.c1
              have hf := hps.free
              have cb := isBlank_any (ch s i)
              have hps2 := hps.set ((i : Int) + 1)
              have hg2 := hg.setCell (a := ⟨b, 1, none⟩) hWb (.int .i64 ((i : Int) + 1))
              by_cases hbk : blk (ch s i) = true
              · rw [hbk] at cb
                go_wp2_with (go_at_call 20; refine (cb _).mono ?_; rintro e w' ⟨rfl, rfl⟩)
                go_roundw
                case rel => exact ⟨i + 1, e, rfl, inv.blank hlt HE.out hbk, hps2, hg2⟩
                case measure => (have := HM.out; have := hps2.c1; simp [this, HM.out, intOf]; omega)
              · have hbk : blk (ch s i) = false := by simpa using hbk
                rw [hbk] at cb
                go_wp2_with (go_at_call 20; refine (cb _).mono ?_; rintro e w' ⟨rfl, rfl⟩)
                go_roundw
                case rel => exact ⟨i + 1, i + 1, by go_num, inv.solid hlt HE.out hbk, hps2, hg2⟩
                case measure => (have := HM.out; have := hps2.c1; simp [this, HM.out, intOf]; omega)
    · obtain rfl : i = s.size := by omega
      have hd : decide (s.size ≤ s.size) = true := by simp
      go_wp2_with fail
      refine (atEnd_any b s s.size hs h3 wr hps.c0 hps.c1).mono ?_
      rintro r wA ⟨rfl, k, hwA⟩
      have hpsA := hps.drewN k
      have hgA := Grown.drewN hg k
      rw [← hwA] at hpsA hgA
      clear hwA hps hg
      have c0 := hpsA.c0
      go_wp2_with fail
      go_ret
      exact ⟨s.size, e, rfl, inv, fun h => by omega, hpsA, hgA⟩

set_option maxHeartbeats 4000000 in
set_option maxRecDepth 100000 in
theorem plain_on (W : World) (b : Nat) (hWb : W.heap.size ≤ b) (s : ByteArray) (st : Nat) (line ls : Int) (hs : s.size ≤ 1048576) (hst : st ≤ s.size) (w : World) (hps : Ps w b s (st : Int) line ls) (hg : Grown W w) :
    Calls Try.prog 13 #[.pointer (some ⟨b, 0, none⟩), .bool true] w fun r w' => ∃ i e : Nat, r = .returned (.string (s.extract st e)) ∧ Inv s st i e true ∧ (i < s.size → ends s i st true = true) ∧ Ps w' b s (i : Int) line ls ∧ Grown W w' := by
  have hc0 := hps.c0
  have hc1 := hps.c1
  go_enter Try.func13, Try.ntmps13
  go_wp2_with fail
  go_quiet (fail)
  have hps1 := hps.drewN nq
  have hg1 := Grown.drewN hg nq
  generalize w.drewN nq = w1 at *
  clear hc0 hc1 hps hg
  go_wp2_with fail
  go_loopw [6] (fun v6 wr => ∃ i e : Nat, v6 = .int .i64 e ∧ Inv s st i e true ∧ Ps wr b s (i : Int) line ls ∧ Grown W wr) (fun _ wr => s.size - (intOf ((wr.cell? ⟨b, 1, none⟩).getD (.int .i64 0))).toNat)
  case atStart => exact ⟨st, st, rfl, Inv.start hst, hps1, hg1⟩
  case round =>
    obtain ⟨i, e, rfl, inv, hps, hg⟩ := hrel
    clear hps1 hg1
    have h1 := inv.h1
    have h2 := inv.h2
    have h3 := inv.h3
    have h4 : st ≤ i := by omega
    have h5 : e ≤ s.size := by omega
    by_cases hlt : i < s.size
    · have hd : decide (s.size ≤ i) = false := by simp; omega
      have HM : Hid (wr.cell? ⟨b, 1, none⟩ = some (.int .i64 (i : Int))) := hps.c1
      go_wp2_with fail
      refine (atEnd_any b s i hs h3 wr hps.c0 hps.c1).mono ?_
      rintro r wA ⟨rfl, k, hwA⟩
      have hpsA := hps.drewN k
      have hgA := Grown.drewN hg k
      rw [← hwA] at hpsA hgA
      clear hwA hps hg
      go_wp2_with fail
      refine (peek_any b s i hs h3 wA hpsA.c0 hpsA.c1).mono ?_
      rintro r wB ⟨rfl, k2, hwB⟩
      have hps := hpsA.drewN k2
      have hg := Grown.drewN hgA k2
      rw [← hwB] at hps hg
      clear hwB hpsA hgA
      obtain ⟨x, hx⟩ : ∃ x, x = X s i true := ⟨_, rfl⟩
      have HX : Hid (x = X s i true) := hx
      obtain ⟨y, hy⟩ : ∃ y, y = Y s i st true := ⟨_, rfl⟩
      have HY : Hid (y = Y s i st true) := hy
      clear hx hy
      go_upto_region 4 with fail
      go_cut [39] from 16 to 83 (fun v39 wc => v39 = .bool x ∧ ∃ k, wc = wB.drewN k)
      case first =>
        have hat0 := at_any b s i 1 hs h3 (by omega) wB hps.c0 hps.c1
        have hat := fun kk : Nat => at_any b s i 1 hs h3 (by omega) (wB.drewN kk) hps.c0 hps.c1
        have c16 := isBreak_any (ch s i)
        have c17 := isSpace_any (ch s (i + 1))
        have c19 := isFlow_any (ch s (i + 1))
        by_cases hbr : brk (ch s i) = true
        · rw [hbr] at c16
          go_wp2_with (go_at_call 16; refine (c16 _).mono ?_; rintro e w' ⟨rfl, rfl⟩)
          go_meet
          case rel => exact ⟨congrArg Value.bool (by rw [HX.out]; simp [X, hbr]), 0, rfl⟩
        · have hbr : brk (ch s i) = false := by simpa using hbr
          rw [hbr] at c16
          by_cases h58 : (ch s i == 58) = true
          · by_cases hsp : spc (ch s (i + 1)) = true
            · rw [hsp] at c17
              go_wp2_with (first | (go_at_call 16; refine (c16 _).mono ?_; rintro e w' ⟨rfl, rfl⟩) | (go_at_call 17; refine (c17 _).mono ?_; rintro e w' ⟨rfl, rfl⟩) | (go_at_call 19; refine (c19 _).mono ?_; rintro e w' ⟨rfl, rfl⟩) | (go_at_call 18; (first | refine (hat0).mono ?_ | refine (hat _).mono ?_); rintro e w' ⟨rfl, kk, rfl⟩))
              go_meet
              case rel => exact ⟨congrArg Value.bool (by rw [HX.out]; simp [X, h58, hsp]), _, rfl⟩
            · have hsp : spc (ch s (i + 1)) = false := by simpa using hsp
              rw [hsp] at c17
              go_wp2_with (first | (go_at_call 16; refine (c16 _).mono ?_; rintro e w' ⟨rfl, rfl⟩) | (go_at_call 17; refine (c17 _).mono ?_; rintro e w' ⟨rfl, rfl⟩) | (go_at_call 19; refine (c19 _).mono ?_; rintro e w' ⟨rfl, rfl⟩) | (go_at_call 18; (first | refine (hat0).mono ?_ | refine (hat _).mono ?_); rintro e w' ⟨rfl, kk, rfl⟩))
              go_meet
              case rel => exact ⟨congrArg Value.bool (by rw [HX.out]; simp [X, h58, hsp, hbr]), by first | exact ⟨_, rfl⟩ | exact ⟨_, World.drewN_drewN ..⟩⟩
          · have h58 : (ch s i == 58) = false := by simpa using h58
            go_wp2_with (first | (go_at_call 16; refine (c16 _).mono ?_; rintro e w' ⟨rfl, rfl⟩))
            go_meet
            case rel => exact ⟨congrArg Value.bool (by rw [HX.out]; simp [X, h58, hbr]), 0, rfl⟩
      case rest =>
        obtain ⟨rfl, k3, hwc⟩ := hcut
        have hpsC := hps.drewN k3
        have hgC := Grown.drewN hg k3
        rw [← hwc] at hpsC hgC
        clear hwc hps hg
        cases x
        case' true =>
          have c0 := hpsC.c0
          go_wp2_with fail
          go_ret
          exact ⟨i, e, rfl, inv, fun _ => by rw [ends_is, ← HX.out]; rfl, hpsC, hgC⟩
        case' false =>
          go_upto_region 5 with fail
          go_cut [69] from 16 to 83 (fun v69 wd => v69 = .bool y ∧ ∃ k, wd = wc.drewN k)
          case first =>
            have c0 := hpsC.c0
            have c1 := hpsC.c1
            have cb := isBlank_any (ch s (i - 1))
            have cf := isFlow_any (ch s i)
            have hb := ch_at s
            by_cases h35 : (ch s i == 35) = true
            · by_cases hsi : st < i
              · have hdi : decide ((st : Int) < (i : Int)) = true := by simp; omega
                have b1 : (0 : Int) ≤ (i : Int) - 1 := by omega
                have b2 : (i : Int) - 1 < (s.size : Int) := by omega
                have b3 : ((i : Int) - 1).toNat = i - 1 := by omega
                by_cases hbk : blk (ch s (i - 1)) = true
                · rw [hbk] at cb
                  go_quiet (first | exact Calls.quiet_of_same (cb _) | exact Calls.quiet_of_same (cf _))
                  go_wp2_with fail
                  go_meet
                  case rel => exact ⟨congrArg Value.bool (by rw [HY.out]; simp [Y, h35, hsi, hbk]), _, rfl⟩
                · have hbk : blk (ch s (i - 1)) = false := by simpa using hbk
                  rw [hbk] at cb
                  go_quiet (first | exact Calls.quiet_of_same (cb _) | exact Calls.quiet_of_same (cf _))
                  go_wp2_with fail
                  go_meet
                  case rel => exact ⟨congrArg Value.bool (by rw [HY.out]; simp [Y, hbk]), _, rfl⟩
              · have hdi : decide ((st : Int) < (i : Int)) = false := by simp; omega
                go_quiet (first | exact Calls.quiet_of_same (cb _) | exact Calls.quiet_of_same (cf _))
                go_wp2_with fail
                go_meet
                case rel => exact ⟨congrArg Value.bool (by rw [HY.out]; simp [Y, hsi]), _, rfl⟩
            · have h35 : (ch s i == 35) = false := by simpa using h35
              go_quiet (first | exact Calls.quiet_of_same (cb _) | exact Calls.quiet_of_same (cf _))
              go_wp2_with fail
              go_meet
              case rel => exact ⟨congrArg Value.bool (by rw [HY.out]; simp [Y, h35]), _, rfl⟩
          case rest =>
            obtain ⟨rfl, k4, hwd⟩ := hcut
            have hps := hpsC.drewN k4
            have hg := Grown.drewN hgC k4
            rw [← hwd] at hps hg
            clear hwd hpsC hgC
            cases y
            case' true =>
              have c0 := hps.c0
              go_wp2_with fail
              go_ret
              exact ⟨i, e, rfl, inv, fun _ => by rw [ends_is, ← HX.out, ← HY.out]; rfl, hps, hg⟩
            case' false =>
              have HE : Hid (ends s i st true = false) := by unfold Hid; rw [ends_is, ← HX.out, ← HY.out]; rfl
              have c0 := hps.c0
              have c1 := hps.c1
              have hf := hps.free
              have cb := isBlank_any (ch s i)
              have hps2 := hps.set ((i : Int) + 1)
              have hg2 := hg.setCell (a := ⟨b, 1, none⟩) hWb (.int .i64 ((i : Int) + 1))
              by_cases hbk : blk (ch s i) = true
              · rw [hbk] at cb
                go_wp2_with (go_at_call 20; refine (cb _).mono ?_; rintro e w' ⟨rfl, rfl⟩)
                go_roundw
                case rel => exact ⟨i + 1, e, rfl, inv.blank hlt HE.out hbk, hps2, hg2⟩
                case measure => (have := HM.out; have := hps2.c1; simp [this, HM.out, intOf]; omega)
              · have hbk : blk (ch s i) = false := by simpa using hbk
                rw [hbk] at cb
                go_wp2_with (go_at_call 20; refine (cb _).mono ?_; rintro e w' ⟨rfl, rfl⟩)
                go_roundw
                case rel => exact ⟨i + 1, i + 1, by go_num, inv.solid hlt HE.out hbk, hps2, hg2⟩
                case measure => (have := HM.out; have := hps2.c1; simp [this, HM.out, intOf]; omega)
    · obtain rfl : i = s.size := by omega
      have hd : decide (s.size ≤ s.size) = true := by simp
      go_wp2_with fail
      refine (atEnd_any b s s.size hs h3 wr hps.c0 hps.c1).mono ?_
      rintro r wA ⟨rfl, k, hwA⟩
      have hpsA := hps.drewN k
      have hgA := Grown.drewN hg k
      rw [← hwA] at hpsA hgA
      clear hwA hps hg
      have c0 := hpsA.c0
      go_wp2_with fail
      go_ret
      exact ⟨s.size, e, rfl, inv, fun h => by omega, hpsA, hgA⟩

end Go.Proofs.Qxb6602573a.Pl
