/-
  THE PLAIN LAW OF FnCapacityIsCapabilityOverCost: binary64 arithmetic over exact whole numbers; no Go in sight.
-/
import Derived.Laws.FloatArith
namespace Go.Proofs.Qxb6003230a.Fl
open Ieee

/-! ### the cut -/
/-- The rounding bit. -/
theorem cut_eq (neg : Bool) (n drop : Nat) (h : drop ≤ n.log2 + 2) :
    ∃ b : Nat, b ≤ 1 ∧ Toward.even.cut neg n drop = n / 2 ^ drop + b ∧ 2 * (n % 2 ^ drop) ≤ 2 ^ drop + 2 ^ drop * b ∧ 2 ^ drop * b ≤ 2 * (n % 2 ^ drop) := by
  have hp : 0 < 2 ^ drop := Nat.two_pow_pos _
  have hm : n % 2 ^ drop < 2 ^ drop := Nat.mod_lt _ hp
  unfold Toward.cut
  simp only [Nat.min_eq_left h, Nat.one_shiftLeft]
  refine ⟨_, ?_, rfl, ?_, ?_⟩
  · exact Bool.toNat_le _
  · rcases hb : (decide (2 ^ drop < 2 * (n % 2 ^ drop)) || 2 ^ drop == 2 * (n % 2 ^ drop) && n / 2 ^ drop % 2 == 1) with _ | _
    · simp at hb; simp; omega
    · simp; omega
  · rcases hb : (decide (2 ^ drop < 2 * (n % 2 ^ drop)) || 2 ^ drop == 2 * (n % 2 ^ drop) && n / 2 ^ drop % 2 == 1) with _ | _
    · simp
    · simp at hb; simp; omega

/-- How far off a cut is. -/
theorem cut_near (neg : Bool) (n drop : Nat) (h : drop ≤ n.log2 + 2) :
    2 * (Toward.even.cut neg n drop * 2 ^ drop) ≤ 2 * n + 2 ^ drop ∧ 2 * n ≤ 2 * (Toward.even.cut neg n drop * 2 ^ drop) + 2 ^ drop := by
  obtain ⟨b, hb, he, h1, h2⟩ := cut_eq neg n drop h
  have hd := Nat.div_add_mod n (2 ^ drop)
  rw [he, Nat.add_mul, Nat.mul_comm (n / 2 ^ drop), Nat.mul_comm b]
  have hpb : 2 ^ drop * b ≤ 2 ^ drop := by have := Nat.mul_le_mul_left (2 ^ drop) hb; omega
  generalize 2 ^ drop = p at *
  omega

/-- A cut that drops noughts alone. -/
theorem cut_exact (neg : Bool) (k drop : Nat) (h : drop ≤ (k * 2 ^ drop).log2 + 2) : Toward.even.cut neg (k * 2 ^ drop) drop = k := by
  obtain ⟨b, hb, he, h1, h2⟩ := cut_eq neg (k * 2 ^ drop) drop h
  have hp : 0 < 2 ^ drop := Nat.two_pow_pos _
  rw [he, Nat.mul_div_cancel _ hp]
  rw [Nat.mul_mod_left] at h2
  have : b = 0 := by
    rcases Nat.eq_zero_or_pos b with h | h
    · exact h
    · have := Nat.mul_le_mul_left (2 ^ drop) h; omega
  omega

/-! ### the significand that 'nearest' keeps -/
def kept (mag : Nat) : Nat := Toward.even.cut false (mag <<< (52 - mag.log2)) (mag.log2 - 52)

theorem log2_bounds {n L : Nat} (h1 : 2 ^ L ≤ n) (h2 : n < 2 ^ (L + 1)) : n.log2 = L := by
  have hn : n ≠ 0 := by have := Nat.two_pow_pos L; omega
  have := (Nat.le_log2 hn (k := L)).2 h1
  have := (Nat.log2_lt hn (k := L + 1)).2 h2
  omega

theorem log2_spec {n : Nat} (h : 0 < n) : 2 ^ n.log2 ≤ n ∧ n < 2 ^ (n.log2 + 1) :=
  ⟨Nat.log2_self_le (by omega), Nat.lt_log2_self⟩

theorem cut_false (neg : Bool) (n drop : Nat) : Toward.even.cut neg n drop = Toward.even.cut false n drop := rfl

theorem kept_small {mag : Nat} (h : mag.log2 ≤ 52) : kept mag = mag * 2 ^ (52 - mag.log2) := by
  unfold kept
  rw [show mag.log2 - 52 = 0 from by omega, Nat.shiftLeft_eq]
  have := cut_exact false (mag * 2 ^ (52 - mag.log2)) 0 (by omega)
  simpa using this

theorem kept_big {mag : Nat} (h : 52 ≤ mag.log2) : kept mag = Toward.even.cut false mag (mag.log2 - 52) := by
  unfold kept
  rw [show 52 - mag.log2 = 0 from by omega, Nat.shiftLeft_zero]

theorem log_shift {k : Nat} (h1 : 4503599627370496 ≤ k) (h2 : k < 9007199254740992) (t : Nat) : (k * 2 ^ t).log2 = 52 + t := by
  refine log2_bounds ?_ ?_
  · rw [Nat.pow_add]; exact Nat.mul_le_mul_right _ (by omega)
  · rw [show 52 + t + 1 = 53 + t from by omega, Nat.pow_add]
    exact (Nat.mul_lt_mul_right (Nat.two_pow_pos t)).2 (by omega)

/-- The same significand, further up. -/
theorem kept_shift {k : Nat} (h1 : 4503599627370496 ≤ k) (h2 : k < 9007199254740992) (t : Nat) : kept (k * 2 ^ t) = k := by
  have hl := log_shift h1 h2 t
  rw [kept_big (by omega), hl, show 52 + t - 52 = t from by omega]
  exact cut_exact _ _ _ (by rw [hl]; omega)

theorem kept_bounds {mag : Nat} (h : 0 < mag) : 4503599627370496 ≤ kept mag ∧ kept mag ≤ 9007199254740992 := by
  obtain ⟨a, b⟩ := log2_spec h
  rcases Nat.le_total mag.log2 52 with hl | hl
  · rw [kept_small hl]
    have e1 : 2 ^ mag.log2 * 2 ^ (52 - mag.log2) = 4503599627370496 := by rw [← Nat.pow_add, show mag.log2 + (52 - mag.log2) = 52 from by omega]
    have e2 : 2 ^ (mag.log2 + 1) * 2 ^ (52 - mag.log2) = 9007199254740992 := by rw [← Nat.pow_add, show mag.log2 + 1 + (52 - mag.log2) = 53 from by omega]
    exact ⟨by rw [← e1]; exact Nat.mul_le_mul_right _ a, by rw [← e2]; exact Nat.mul_le_mul_right _ (by omega)⟩
  · rw [kept_big hl]
    obtain ⟨bt, hb, he, h1, h2⟩ := cut_eq false mag (mag.log2 - 52) (by omega)
    have hp : 0 < 2 ^ (mag.log2 - 52) := Nat.two_pow_pos _
    have e1 : 4503599627370496 * 2 ^ (mag.log2 - 52) = 2 ^ mag.log2 := by rw [show (4503599627370496 : Nat) = 2 ^ 52 from rfl, ← Nat.pow_add, show 52 + (mag.log2 - 52) = mag.log2 from by omega]
    have e2 : 9007199254740992 * 2 ^ (mag.log2 - 52) = 2 ^ (mag.log2 + 1) := by rw [show (9007199254740992 : Nat) = 2 ^ 53 from rfl, ← Nat.pow_add, show 53 + (mag.log2 - 52) = mag.log2 + 1 from by omega]
    have g1 : 4503599627370496 ≤ mag / 2 ^ (mag.log2 - 52) := (Nat.le_div_iff_mul_le hp).2 (by rw [e1]; exact a)
    have g2 : mag / 2 ^ (mag.log2 - 52) < 9007199254740992 := (Nat.div_lt_iff_lt_mul hp).2 (by rw [e2]; exact b)
    rw [he]; omega

/-- How far off the kept significand is. -/
theorem kept_near {mag : Nat} (h : 52 ≤ mag.log2) :
    2 * (kept mag * 2 ^ (mag.log2 - 52)) ≤ 2 * mag + 2 ^ (mag.log2 - 52) ∧ 2 * mag ≤ 2 * (kept mag * 2 ^ (mag.log2 - 52)) + 2 ^ (mag.log2 - 52) := by
  rw [kept_big h]; exact cut_near _ _ _ (by omega)

/-! ### words -/
/-- The word of the significand K at place e (K may be 2^53). -/
def W (neg : Bool) (K : Nat) (e : Int) : Nat := double.word neg ((e + 1074).toNat * 4503599627370496 + K)

theorem fb : double.fractionBits = 52 := rfl
theorem lp : double.leastPlace = -1074 := by decide
theorem bin : double.binade = 4503599627370496 := rfl
theorem inf : double.infRung = 9218868437227405312 := rfl
theorem sw : double.signWeight = 9223372036854775808 := rfl

theorem near_gen (f : Format) (neg : Bool) (mag : Nat) (place last : Int) (h0 : 0 < mag) (hl : max (place + mag.log2 - f.fractionBits) f.leastPlace = last) :
    f.nearest neg mag place = f.word neg (min ((last - f.leastPlace).toNat * f.binade + Toward.even.cut neg (mag <<< (place - last).toNat) (last - place).toNat) f.infRung) := by
  unfold Format.nearest
  rw [if_neg (by omega)]
  simp only [hl]

theorem W_eq (neg : Bool) (K : Nat) (e : Int) (n r : Nat) (he : (e + 1074).toNat = n) (hr : r = n * 4503599627370496 + K) : W neg K e = double.word neg r := by
  unfold W; rw [he, hr]

theorem near_rung (k : Nat) (e : Int) (h1 : k ≤ 9007199254740992) (h3 : -1074 ≤ e) (h4 : e ≤ 900) : min ((e - -1074).toNat * 4503599627370496 + k) 9218868437227405312 = (e + 1074).toNat * 4503599627370496 + k := by
  omega

theorem near_eq (neg : Bool) (mag : Nat) (place : Int) (h0 : 0 < mag) (h1 : -1022 ≤ place + mag.log2) (h2 : place + mag.log2 ≤ 900) :
    double.nearest neg mag place = W neg (kept mag) (place + mag.log2 - 52) := by
  have kb := (kept_bounds h0).2
  have hmax : max (place + (mag.log2 : Int) - (double.fractionBits : Int)) double.leastPlace = place + mag.log2 - 52 := by rw [fb, lp]; omega
  have e1 : (place - (place + (mag.log2 : Int) - 52)).toNat = 52 - mag.log2 := by omega
  have e2 : (place + (mag.log2 : Int) - 52 - place).toNat = mag.log2 - 52 := by omega
  have hr := near_rung (kept mag) (place + mag.log2 - 52) kb (by omega) (by omega)
  have hg := near_gen double neg mag place _ h0 hmax
  rw [e1, e2, cut_false, lp, bin, inf] at hg
  exact hg.trans (congrArg (double.word neg) hr)

theorem read_word (f : Format) (neg : Bool) (r : Nat) (h : r < f.signWeight) (h1 : f.binade ≤ r) (h2 : r < f.infRung) :
    f.read (f.word neg r) = .number neg (f.binade + r % f.binade) (f.leastPlace + (r / f.binade - 1 : Nat)) := by
  have a : (f.word neg r / f.signWeight % 2 == 1) = neg := by
    unfold Format.word
    cases neg
    · simp [Nat.div_eq_of_lt h]
    · simp [Nat.add_div_left _ (show 0 < f.signWeight by omega), Nat.div_eq_of_lt h]
  have b : f.word neg r % f.signWeight = r := by
    unfold Format.word
    cases neg
    · simp [Nat.mod_eq_of_lt h]
    · simp [Nat.mod_eq_of_lt h]
  unfold Format.read
  simp only [a, b]
  rw [if_neg (by omega), if_pos h2]

theorem num_eq {neg : Bool} {a b : Nat} {i j : Int} (h : a = b) (h' : i = j) : Datum.number neg a i = .number neg b j := by rw [h, h']

theorem read_W (neg : Bool) (K : Nat) (e : Int) (h1 : 4503599627370496 ≤ K) (h2 : K < 9007199254740992) (h3 : -1074 ≤ e) (h4 : e ≤ 901) : double.read (W neg K e) = .number neg K e := by
  obtain ⟨n, hn⟩ : ∃ n : Nat, e + 1074 = n := ⟨(e + 1074).toNat, by omega⟩
  have he : (e + 1074).toNat = n := by omega
  unfold W
  rw [he]
  refine (read_word double neg _ (by rw [sw]; omega) (by rw [bin]; omega) (by rw [inf]; omega)).trans (num_eq ?_ ?_)
  · rw [bin]; omega
  · rw [bin, lp]; omega

/-- The word with K = 2^53 is the one with 2^52 a place higher. -/
theorem W_carry (neg : Bool) (e : Int) (h : -1074 ≤ e) : W neg 9007199254740992 e = W neg 4503599627370496 (e + 1) := by
  refine (W_eq neg _ _ _ _ rfl ?_)
  omega

/-- What 'nearest' reads as: normal. -/
theorem read_near (neg : Bool) (mag : Nat) (place : Int) (h0 : 0 < mag) (h1 : -1022 ≤ place + mag.log2) (h2 : place + mag.log2 ≤ 900) :
    ∃ k e, double.nearest neg mag place = W neg k e ∧ double.read (double.nearest neg mag place) = .number neg k e ∧ 4503599627370496 ≤ k ∧ k < 9007199254740992 ∧
      ((k = kept mag ∧ e = place + mag.log2 - 52) ∨ (kept mag = 9007199254740992 ∧ k = 4503599627370496 ∧ e = place + mag.log2 - 51)) := by
  have kb := kept_bounds h0
  have hn := near_eq neg mag place h0 h1 h2
  by_cases hk : kept mag = 9007199254740992
  · refine ⟨4503599627370496, place + mag.log2 - 51, ?_, ?_, by omega, by omega, .inr ⟨hk, rfl, rfl⟩⟩
    · rw [hn, hk, W_carry _ _ (by omega)]; congr 1; omega
    · rw [hn, hk, W_carry _ _ (by omega), read_W _ _ _ (by omega) (by omega) (by omega) (by omega)]; congr 1; omega
  · exact ⟨kept mag, _, hn, by rw [hn, read_W _ _ _ (by omega) (by omega) (by omega) (by omega)], by omega, by omega, .inl ⟨rfl, rfl⟩⟩

/-! ### integers -/
theorem rd_int (c : Nat) (h0 : 0 < c) (h1 : c ≤ 4503599627370496) : ∃ (m : Nat) (i : Int), double.read (double.nearest false c 0) = .number false m i ∧ double.read (double.nearest false (2 * c) 0) = .number false m (i + 1) ∧
    4503599627370496 ≤ m ∧ m < 9007199254740992 ∧ -52 ≤ i ∧ i ≤ 0 := by
  obtain ⟨a, b⟩ := log2_spec h0
  have hL : c.log2 ≤ 52 := by
    have := (Nat.log2_lt (n := c) (by omega) (k := 53)).2 (by omega)
    omega
  have kb := kept_bounds h0
  have ks := kept_small hL
  have e2 : 2 ^ (c.log2 + 1) * 2 ^ (52 - c.log2) = 9007199254740992 := by rw [← Nat.pow_add, show c.log2 + 1 + (52 - c.log2) = 53 from by omega]
  have klt : kept c < 9007199254740992 := by
    rw [ks, ← e2]; exact (Nat.mul_lt_mul_right (Nat.two_pow_pos _)).2 b
  have l2 : (2 * c).log2 = c.log2 + 1 := by
    refine log2_bounds ?_ ?_
    · rw [Nat.pow_succ]; omega
    · rw [Nat.pow_succ]; omega
  have k2 : kept (2 * c) = kept c := by
    rcases Nat.lt_or_ge c.log2 52 with h | h
    · rw [kept_small (by omega), l2, ks, show 52 - c.log2 = (52 - (c.log2 + 1)) + 1 from by omega, Nat.pow_succ, Nat.mul_comm 2 c, Nat.mul_assoc, Nat.mul_comm 2]
    · have hc : c.log2 = 52 := by omega
      rw [ks, hc] 
      rw [hc] at a
      have := kept_shift (k := c) (by omega) (by omega) 1
      rw [Nat.mul_comm 2 c]; simpa using this
  obtain ⟨k, e, -, hr, -, -, hk⟩ := read_near false c 0 h0 (by omega) (by omega)
  obtain ⟨k', e', -, hr', -, -, hk'⟩ := read_near false (2 * c) 0 (by omega) (by omega) (by omega)
  rw [k2, l2] at hk'
  refine ⟨kept c, c.log2 - 52, ?_, ?_, by omega, klt, by omega, by omega⟩
  · rw [hr]; exact num_eq (by omega) (by omega)
  · rw [hr']; exact num_eq (by omega) (by omega)

/-! ### the four operations -/
theorem log52 {m : Nat} (h1 : 4503599627370496 ≤ m) (h2 : m < 9007199254740992) : m.log2 = 52 := log2_bounds (by omega) (by omega)

def Q (m n : Nat) : Nat := 2 * (m * 18014398509481984 / n) + (m * 18014398509481984 % n != 0).toNat

theorem quo_gen (digits m n d more : Nat) (i j : Int) (hn : n ≠ 0) (hm : digits + n.log2 - m.log2 = more) (hd : m <<< more = d) :
    Datum.quotient digits (.number false m i) (.number false n j) = some (.number false (2 * (d / n) + (d % n != 0).toNat) (i - j - more - 1)) := by
  unfold Datum.quotient
  simp only [hm, hd]
  rw [if_neg hn]
  rfl

theorem p54 : (2 : Nat) ^ 54 = 18014398509481984 := by decide
theorem shl54 (m : Nat) : m <<< 54 = m * 18014398509481984 := (Nat.shiftLeft_eq m 54).trans (congrArg (m * ·) p54)

theorem div_eq {x y m n : Nat} {i j : Int} (hx : double.read x = .number false m i) (hy : double.read y = .number false n j) (m1 : 4503599627370496 ≤ m) (m2 : m < 9007199254740992)
    (n1 : 4503599627370496 ≤ n) (n2 : n < 9007199254740992) : double.div x y = some (double.nearest false (Q m n) (i - j - 55)) := by
  have hq := quo_gen (double.fractionBits + 2) m n _ 54 i j (by omega) (by rw [fb, log52 m1 m2, log52 n1 n2]) (shl54 m)
  unfold Format.div Q
  rw [hx, hy, hq, show i - j - ((54 : Nat) : Int) - 1 = i - j - 55 from by omega]
  rfl

theorem mul_eq {x y m n : Nat} {i j : Int} (hx : double.read x = .number false m i) (hy : double.read y = .number false n j) : double.mul x y = some (double.nearest false (m * n) (i + j)) := by
  unfold Format.mul
  rw [hx, hy]
  rfl

theorem Q_exact (m : Nat) : Q m 4503599627370496 = m * 2 ^ 3 := by
  unfold Q
  have e : m * 18014398509481984 = (m * 4) * 4503599627370496 := by omega
  rw [e, Nat.mul_div_cancel _ (by omega), Nat.mul_mod_left]
  simp; omega

theorem err_gen (d n : Nat) (hn : 0 < n) : (2 * (d / n) + (d % n != 0).toNat) * n < 2 * d + n ∧ 2 * d < (2 * (d / n) + (d % n != 0).toNat) * n + n := by
  have hd := Nat.div_add_mod d n
  have hm := Nat.mod_lt d hn
  rw [Nat.add_mul, Nat.mul_assoc, Nat.mul_comm (d / n) n]
  by_cases h : d % n = 0
  · simp [h]; omega
  · have : (d % n != 0).toNat = 1 := by simp [h]
    rw [this]; omega

theorem Q_err (m n : Nat) (hn : 0 < n) : Q m n * n < 2 * (m * 18014398509481984) + n ∧ 2 * (m * 18014398509481984) < Q m n * n + n := err_gen _ n hn

theorem Q_bounds {m n : Nat} (m1 : 4503599627370496 ≤ m) (m2 : m < 9007199254740992) (n1 : 4503599627370496 ≤ n) (n2 : n < 9007199254740992) :
    18014398509481984 ≤ Q m n ∧ Q m n < 72057594037927936 := by
  have g1 : 9007199254740992 ≤ m * 18014398509481984 / n := (Nat.le_div_iff_mul_le (by omega)).2 (by omega)
  have g2 : m * 18014398509481984 / n < 36028797018963968 := (Nat.div_lt_iff_lt_mul (by omega)).2 (by omega)
  have g3 : (m * 18014398509481984 % n != 0).toNat ≤ 1 := Bool.toNat_le _
  unfold Q
  omega

/-- The quotient's own reading: k * 2^s is the quotient to within. -/
theorem rd_div {m n : Nat} (place : Int) (m1 : 4503599627370496 ≤ m) (m2 : m < 9007199254740992) (n1 : 4503599627370496 ≤ n) (n2 : n < 9007199254740992) (h1 : -900 ≤ place) (h2 : place ≤ 800) :
    ∃ k s : Nat, double.nearest false (Q m n) place = W false k (place + s) ∧ double.nearest false (Q m n) (place + 1) = W false k (place + s + 1) ∧ double.nearest false (Q m n) (place - 1) = W false k (place + s - 1) ∧
      4503599627370496 ≤ k ∧ k < 9007199254740992 ∧ 2 ≤ s ∧ s ≤ 4 ∧ 2 * (k * n * 2 ^ s) < m * 72057594037927936 + 10 * n ∧ m * 72057594037927936 < 2 * (k * n * 2 ^ s) + 10 * n := by
  have qb := Q_bounds m1 m2 n1 n2
  have qe := Q_err m n (by omega)
  have hL : (Q m n).log2 = 54 ∨ (Q m n).log2 = 55 := by
    have a := (Nat.le_log2 (n := Q m n) (by omega) (k := 54)).2 (by omega)
    have b := (Nat.log2_lt (n := Q m n) (by omega) (k := 56)).2 (by omega)
    omega
  have kn := kept_near (mag := Q m n) (by omega)
  obtain ⟨k, e, w0, -, k1, k2, hk⟩ := read_near false (Q m n) place (by omega) (by omega) (by omega)
  obtain ⟨k', e', w1, -, k1', k2', hk'⟩ := read_near false (Q m n) (place + 1) (by omega) (by omega) (by omega)
  obtain ⟨k'', e'', w2, -, k1'', k2'', hk''⟩ := read_near false (Q m n) (place - 1) (by omega) (by omega) (by omega)
  -- the bound, with s = log2 - 52 or one more
  have key : ∀ s0 : Nat, 2 * (kept (Q m n) * 2 ^ s0) ≤ 2 * Q m n + 2 ^ s0 → 2 * Q m n ≤ 2 * (kept (Q m n) * 2 ^ s0) + 2 ^ s0 → 2 ^ s0 ≤ 8 →
      2 * (kept (Q m n) * n * 2 ^ s0) < m * 72057594037927936 + 10 * n ∧ m * 72057594037927936 < 2 * (kept (Q m n) * n * 2 ^ s0) + 10 * n := by
    intro s0 b1 b2 b3
    have c1 := Nat.mul_le_mul_right n b1
    have c2 := Nat.mul_le_mul_right n b2
    have c3 := Nat.mul_le_mul_right n b3
    rw [Nat.add_mul, Nat.mul_assoc 2, Nat.mul_assoc 2] at c1 c2
    have e1 : kept (Q m n) * n * 2 ^ s0 = kept (Q m n) * 2 ^ s0 * n := by rw [Nat.mul_right_comm]
    rw [e1]
    generalize kept (Q m n) * 2 ^ s0 * n = X at *
    generalize Q m n * n = Y at *
    generalize 2 ^ s0 * n = Z at *
    omega
  have hh := key _ kn.1 kn.2 (by rcases hL with h | h <;> rw [h] <;> decide)
  rcases hk with ⟨rfl, rfl⟩ | ⟨hc, rfl, rfl⟩
  · refine ⟨kept (Q m n), (Q m n).log2 - 52, ?_, ?_, ?_, k1, k2, by omega, by omega, hh.1, hh.2⟩
    · rw [w0]; congr 1; omega
    · rw [w1, show k' = kept (Q m n) from by omega]; congr 1; omega
    · rw [w2, show k'' = kept (Q m n) from by omega]; congr 1; omega
  · refine ⟨4503599627370496, (Q m n).log2 - 52 + 1, ?_, ?_, ?_, by omega, by omega, by omega, by omega, ?_⟩
    · rw [w0]; congr 1; omega
    · rw [w1, show k' = 4503599627370496 from by omega]; congr 1; omega
    · rw [w2, show k'' = 4503599627370496 from by omega]; congr 1; omega
    · rw [hc] at hh
      rw [Nat.pow_succ]
      have e2 : 4503599627370496 * n * (2 ^ ((Q m n).log2 - 52) * 2) = 9007199254740992 * n * 2 ^ ((Q m n).log2 - 52) := by
        rw [Nat.mul_comm (2 ^ ((Q m n).log2 - 52)) 2, ← Nat.mul_assoc, Nat.mul_right_comm _ n 2]
      rw [e2]; exact hh

/-! ### comparisons -/
theorem cmp_lt {a b : Int} (h : a < b) : compare a b = Ordering.lt := by
  show compareOfLessAndEq a b = _
  unfold compareOfLessAndEq; rw [if_pos h]
theorem cmp_gt {a b : Int} (h : b < a) : compare a b = Ordering.gt := by
  show compareOfLessAndEq a b = _
  unfold compareOfLessAndEq; rw [if_neg (by omega), if_neg (by omega)]
theorem cmp_eq (a : Int) : compare a a = Ordering.eq := by
  show compareOfLessAndEq a a = _
  unfold compareOfLessAndEq; rw [if_neg (by omega), if_pos rfl]

theorem order_num {x y m n : Nat} {s t : Bool} {i j : Int} (hx : double.read x = .number s m i) (hy : double.read y = .number t n j) :
    double.order x y = some (compare (signed s m (i - min i j).toNat) (signed t n (j - min i j).toNat)) := by
  unfold Format.order
  rw [hx, hy]
  rfl

theorem order_self {x m : Nat} {s : Bool} {i : Int} (hx : double.read x = .number s m i) : double.order x x = some .eq := by
  rw [order_num hx hx, cmp_eq]

theorem read_zero : double.read 0 = .number false 0 (-1074) := by decide

theorem shl_pos {k : Nat} (h : 0 < k) (s : Nat) : 0 < k <<< s := by rw [Nat.shiftLeft_eq]; exact Nat.mul_pos h (Nat.two_pow_pos _)

theorem order_pos {x m : Nat} {i : Int} (hx : double.read x = .number false m i) (hm : 0 < m) : double.order x 0 = some .gt := by
  rw [order_num hx read_zero]
  congr 1
  apply cmp_gt
  have := shl_pos hm (i - min i (-1074)).toNat
  unfold signed
  generalize m <<< (i - min i (-1074)).toNat = q at *
  simp only [Bool.false_eq_true, if_false, Nat.zero_shiftLeft]
  omega

theorem order_neg {x m : Nat} {i : Int} (hx : double.read x = .number true m i) (hm : 0 < m) : double.order x 0 = some .lt := by
  rw [order_num hx read_zero]
  congr 1
  apply cmp_lt
  have := shl_pos hm (i - min i (-1074)).toNat
  unfold signed
  generalize m <<< (i - min i (-1074)).toNat = q at *
  simp only [Bool.false_eq_true, if_false, if_true, Nat.zero_shiftLeft]
  omega

/-! ### the difference -/
theorem sub_gen {x y a m : Nat} {i j : Int} {T base : Int} (hx : double.read x = .number false a i) (hy : double.read y = .number false m j) (hb : min i j = base)
    (hT : signed false a (i - base).toNat + signed true m (j - base).toNat = T) : double.sub x y = some (double.nearest (if T = 0 then false else decide (T < 0)) T.natAbs base) := by
  unfold Format.sub
  rw [hx, hy]
  unfold Datum.sum Datum.opposite
  simp only [Bool.not_false, hb, hT, Bool.false_and]
  rfl

theorem xor_sign (r : Nat) (h : r < 2 ^ 63) : (2 ^ 63 + r) ^^^ 2 ^ 63 = r := by
  apply Nat.eq_of_testBit_eq
  intro i
  rw [Nat.testBit_xor]
  rcases Nat.lt_trichotomy i 63 with hi | hi | hi
  · rw [Nat.testBit_two_pow_add_gt hi, Nat.testBit_two_pow_of_ne (by omega)]; simp
  · subst hi
    rw [Nat.testBit_two_pow_add_eq, Nat.testBit_lt_two_pow h, Nat.testBit_two_pow_self]; rfl
  · have a : (2 ^ 63 + r).testBit i = false := Nat.testBit_lt_two_pow (Nat.lt_of_lt_of_le (show 2 ^ 63 + r < 2 ^ 64 by omega) (Nat.pow_le_pow_right (by omega) hi))
    have b : r.testBit i = false := Nat.testBit_lt_two_pow (Nat.lt_of_lt_of_le h (Nat.pow_le_pow_right (by omega) (by omega)))
    rw [a, b, Nat.testBit_two_pow_of_ne (by omega)]; rfl

theorem neg_W (K : Nat) (e : Int) (h2 : K < 9007199254740992) (h3 : -1074 ≤ e) (h4 : e ≤ 901) : Op.negFloat .f64 (W true K e) = W false K e := by
  unfold Op.negFloat W Format.word
  have : (e + 1074).toNat * 4503599627370496 + K < 2 ^ 63 := by omega
  exact xor_sign _ this

/-- A small whole number of units, rounded: itself. -/
theorem rd_small (neg : Bool) (N : Nat) (base : Int) (h0 : 0 < N) (h1 : N ≤ 3) (h2 : -200 ≤ base) (h3 : base ≤ 200) :
    ∃ (K : Nat) (e : Int), double.nearest neg N base = W neg K e ∧ 0 < K ∧ K < 9007199254740992 ∧ base - 52 ≤ e ∧ e ≤ base - 51 ∧ double.read (W neg K e) = .number neg K e ∧ double.read (W false K e) = .number false K e := by
  have hl : N.log2 ≤ 1 := by
    have := (Nat.log2_lt (n := N) (by omega) (k := 2)).2 (by omega)
    omega
  have hk := kept_bounds h0
  have hs := kept_small (mag := N) (by omega)
  have hlt : kept N < 9007199254740992 := by
    have := (log2_spec h0).2
    rw [hs]
    have h01 : N.log2 = 0 ∨ N.log2 = 1 := by omega
    rcases h01 with h | h <;> rw [h] at this ⊢ <;> omega
  have hn := near_eq neg N base h0 (by omega) (by omega)
  exact ⟨kept N, base + N.log2 - 52, hn, by omega, hlt, by omega, by omega, read_W _ _ _ (by omega) hlt (by omega) (by omega), read_W _ _ _ (by omega) hlt (by omega) (by omega)⟩

theorem not_gt {x t K m : Nat} {e i : Int} (hx : double.read x = .number false K e) (ht : double.read t = .number false m (i - 50)) (hK : K < 9007199254740992) (hm : 4503599627370496 ≤ m) (he : e ≤ i - 51) :
    (double.order x t == some .gt) = false := by
  rw [order_num hx ht, show min e (i - 50) = e from by omega]
  obtain ⟨s, hs⟩ : ∃ s : Nat, (i - 50 - e).toNat = s + 1 := ⟨(i - 51 - e).toNat, by omega⟩
  have h1 : signed false K (e - e).toNat = (K : Int) := by simp [signed]
  have h2 : signed false m (i - 50 - e).toNat = ((m * 2 ^ (s + 1) : Nat) : Int) := by rw [hs]; simp [signed, Nat.shiftLeft_eq]
  have h3 : 9007199254740992 ≤ m * 2 ^ (s + 1) := by
    have := Nat.mul_le_mul hm (show 2 ≤ 2 ^ (s + 1) from by have := Nat.two_pow_pos s; rw [Nat.pow_succ]; omega)
    omega
  rw [h1, h2, cmp_lt (by omega)]
  rfl

theorem diff_law {x y t a m : Nat} {ep i T base : Int} (hx : double.read x = .number false a ep) (hy : double.read y = .number false m i) (ht : double.read t = .number false m (i - 50)) (hm : 4503599627370496 ≤ m)
    (hb : min ep i = base) (hT : signed false a (ep - base).toNat + signed true m (i - base).toNat = T) (h1 : -3 ≤ T) (h2 : T ≤ 3) (hbi : base ≤ i) (hbl : -200 ≤ base) (hbu : base ≤ 200) :
    ∃ df, double.sub x y = some df ∧ ((double.order df 0 == some .lt) = true → (double.order (Op.negFloat .f64 df) t == some .gt) = false) ∧
      ((double.order df 0 == some .lt) = false → (double.order df t == some .gt) = false) := by
  refine ⟨_, sub_gen hx hy hb hT, ?_⟩
  rcases Int.lt_trichotomy T 0 with h | h | h
  · obtain ⟨K, e, hn, k0, k1, e1, e2, r1, r2⟩ := rd_small true T.natAbs base (by omega) (by omega) hbl hbu
    rw [if_neg (by omega), decide_eq_true h, hn, neg_W K e k1 (by omega) (by omega)]
    refine ⟨fun _ => not_gt r2 ht k1 hm (by omega), fun hh => ?_⟩
    rw [order_neg r1 k0] at hh; cases hh
  · subst h
    have h0 : double.nearest (if (0 : Int) = 0 then false else decide ((0 : Int) < 0)) (0 : Int).natAbs base = 0 := by
      simp [Format.nearest, Format.word]
    rw [h0]
    refine ⟨fun hh => ?_, fun _ => ?_⟩
    · rw [order_self read_zero] at hh; cases hh
    · by_cases hc : -1074 ≤ i - 51
      · exact not_gt read_zero ht (by omega) hm hc
      · omega
  · obtain ⟨K, e, hn, k0, k1, e1, e2, r1, r2⟩ := rd_small false T.natAbs base (by omega) (by omega) hbl hbu
    rw [if_neg (by omega), decide_eq_false (by omega : ¬ T < 0), hn]
    refine ⟨fun hh => ?_, fun _ => not_gt r2 ht k1 hm (by omega)⟩
    rw [order_pos r1 k0] at hh; cases hh

/-! ### the law -/
theorem floor_case {kp m n A s u u' v : Nat} {b : Nat} (hA1 : 2 * (A * 2 ^ s) < m * 72057594037927936 + 10 * n) (hA2 : m * 72057594037927936 < 2 * (A * 2 ^ s) + 10 * n)
    (hp1 : 2 * (kp * 2 ^ u') ≤ 2 * A + 2 ^ u) (hp2 : 2 * A ≤ 2 * (kp * 2 ^ u') + 2 ^ u) (hu : u ≤ u') (hv : u' + s = v) (n2 : n < 9007199254740992) (hb : b = 2 ^ v) :
    2 * (kp * b) < m * 72057594037927936 + b + 90071992547409920 ∧ m * 72057594037927936 < 2 * (kp * b) + b + 90071992547409920 := by
  have e : kp * b = kp * 2 ^ u' * 2 ^ s := by rw [hb, ← hv, Nat.pow_add, Nat.mul_assoc]
  have eb : 2 ^ u * 2 ^ s ≤ b := by rw [hb, ← hv, Nat.pow_add]; exact Nat.mul_le_mul_right _ (Nat.pow_le_pow_right (by omega) hu)
  have c1 := Nat.mul_le_mul_right (2 ^ s) hp1
  have c2 := Nat.mul_le_mul_right (2 ^ s) hp2
  rw [Nat.add_mul, Nat.mul_assoc 2, Nat.mul_assoc 2] at c1 c2
  rw [e]
  generalize kp * 2 ^ u' * 2 ^ s = X at *
  generalize A * 2 ^ s = Y at *
  generalize 2 ^ u * 2 ^ s = Z at *
  omega

theorem diff_nums {kp m : Nat} {i : Int} {v : Nat} (k1 : 4503599627370496 ≤ kp) (k2 : kp < 9007199254740992) (m1 : 4503599627370496 ≤ m) (m2 : m < 9007199254740992) (v1 : 54 ≤ v) (v2 : v ≤ 58)
    (h : ∀ b, b = 2 ^ v → 2 * (kp * b) < m * 72057594037927936 + b + 90071992547409920 ∧ m * 72057594037927936 < 2 * (kp * b) + b + 90071992547409920) :
    ∃ T base : Int, min (i - 55 + v) i = base ∧ signed false kp (i - 55 + v - base).toNat + signed true m (i - base).toNat = T ∧ -3 ≤ T ∧ T ≤ 3 ∧ base ≤ i ∧ i - 1 ≤ base := by
  have hv : v = 54 ∨ v = 55 ∨ v = 56 ∨ v = 57 ∨ v = 58 := by omega
  rcases hv with rfl | rfl | rfl | rfl | rfl
  · obtain ⟨a, b⟩ := h 18014398509481984 (by decide)
    refine ⟨kp - 2 * m, i - 1, by omega, ?_, by omega, by omega, by omega, by omega⟩
    rw [show (i - 55 + ((54 : Nat) : Int) - (i - 1)).toNat = 0 from by omega, show (i - (i - 1)).toNat = 1 from by omega]
    simp [signed, Nat.shiftLeft_eq]; omega
  · obtain ⟨a, b⟩ := h 36028797018963968 (by decide)
    refine ⟨kp - m, i, by omega, ?_, by omega, by omega, by omega, by omega⟩
    rw [show (i - 55 + ((55 : Nat) : Int) - i).toNat = 0 from by omega, show (i - i).toNat = 0 from by omega]
    simp [signed]; omega
  · obtain ⟨a, b⟩ := h 72057594037927936 (by decide)
    refine ⟨2 * kp - m, i, by omega, ?_, by omega, by omega, by omega, by omega⟩
    rw [show (i - 55 + ((56 : Nat) : Int) - i).toNat = 1 from by omega, show (i - i).toNat = 0 from by omega]
    simp [signed, Nat.shiftLeft_eq]; omega
  · obtain ⟨a, b⟩ := h 144115188075855872 (by decide); omega
  · obtain ⟨a, b⟩ := h 288230376151711744 (by decide); omega

theorem fOf (c : Nat) : floatOfInt .f64 (c : Int) = double.nearest false c 0 := by
  have h : ¬ ((c : Int) < 0) := by omega
  unfold floatOfInt FloatKind.nearest FloatKind.encode
  rw [decide_eq_false h]
  rfl

theorem two_W : (4611686018427387904 : Nat) = W false 4503599627370496 (-51) := by unfold W Format.word; simp
theorem fifty_W : (4832362400168542208 : Nat) = W false 4503599627370496 (-2) := by unfold W Format.word; simp

/-- ALL THAT THE LAW ASKS OF binary64, for whole numbers c, d from 1 to 2^52. -/
theorem law (c d : Nat) (c0 : 0 < c) (c1 : c ≤ 4503599627370496) (d0 : 0 < d) (d1 : d ≤ 4503599627370496) : ∃ r p df t r2 rh : Nat,
    double.div (floatOfInt .f64 (c : Int)) (floatOfInt .f64 (d : Int)) = some r ∧ double.order r 0 = some .gt ∧
    double.mul r (floatOfInt .f64 (d : Int)) = some p ∧ double.sub p (floatOfInt .f64 (c : Int)) = some df ∧ double.div (floatOfInt .f64 (c : Int)) 4832362400168542208 = some t ∧
    ((double.order df 0 == some .lt) = true → (double.order (Op.negFloat .f64 df) t == some .gt) = false) ∧ ((double.order df 0 == some .lt) = false → (double.order df t == some .gt) = false) ∧
    double.div (floatOfInt .f64 ((2 * c : Nat) : Int)) (floatOfInt .f64 (d : Int)) = some r2 ∧ double.mul 4611686018427387904 r = some r2 ∧ double.order r2 r2 = some .eq ∧
    double.div (floatOfInt .f64 (c : Int)) (floatOfInt .f64 ((2 * d : Nat) : Int)) = some rh ∧ double.div r 4611686018427387904 = some rh ∧ double.order rh rh = some .eq := by
  obtain ⟨m, i, hc, hc2, m1, m2, i1, i2⟩ := rd_int c c0 c1
  obtain ⟨n, j, hd, hd2, n1, n2, j1, j2⟩ := rd_int d d0 d1
  simp only [fOf]
  rw [two_W, fifty_W]
  have rd2 : double.read (W false 4503599627370496 (-51)) = .number false 4503599627370496 (-51) := read_W _ _ _ (by omega) (by omega) (by omega) (by omega)
  have rd50 : double.read (W false 4503599627370496 (-2)) = .number false 4503599627370496 (-2) := read_W _ _ _ (by omega) (by omega) (by omega) (by omega)
  obtain ⟨k, s, w0, w1, w2, k1, k2, s1, s2, hA1, hA2⟩ := rd_div (i - j - 55) m1 m2 n1 n2 (by omega) (by omega)
  have rr := read_W false k (i - j - 55 + s) k1 k2 (by omega) (by omega)
  have rr2 := read_W false k (i - j - 55 + s + 1) k1 k2 (by omega) (by omega)
  have rrh := read_W false k (i - j - 55 + s - 1) k1 k2 (by omega) (by omega)
  -- the product
  have b1 := Nat.mul_le_mul k1 n1
  have b2 := Nat.mul_lt_mul_of_lt_of_le k2 (Nat.le_of_lt n2) (by omega)
  have hLA : (k * n).log2 = 104 ∨ (k * n).log2 = 105 := by
    have a := (Nat.le_log2 (n := k * n) (by omega) (k := 104)).2 (by omega)
    have b := (Nat.log2_lt (n := k * n) (by omega) (k := 106)).2 (by omega)
    omega
  have kn := kept_near (mag := k * n) (by omega)
  obtain ⟨kp, ep, wp, rp, kp1, kp2, hkp⟩ := read_near false (k * n) (i - j - 55 + s + j) (by omega) (by omega) (by omega)
  obtain ⟨u', hu, hu2, hep, hp1, hp2⟩ : ∃ u' : Nat, (k * n).log2 - 52 ≤ u' ∧ u' ≤ 54 ∧ ep = i - 55 + s + u' ∧ 2 * (kp * 2 ^ u') ≤ 2 * (k * n) + 2 ^ ((k * n).log2 - 52) ∧ 2 * (k * n) ≤ 2 * (kp * 2 ^ u') + 2 ^ ((k * n).log2 - 52) := by
    rcases hkp with ⟨rfl, rfl⟩ | ⟨hcar, rfl, rfl⟩
    · exact ⟨(k * n).log2 - 52, by omega, by omega, by omega, kn.1, kn.2⟩
    · refine ⟨(k * n).log2 - 52 + 1, by omega, by omega, by omega, ?_⟩
      rw [hcar] at kn
      have e2 : 4503599627370496 * 2 ^ ((k * n).log2 - 52 + 1) = 9007199254740992 * 2 ^ ((k * n).log2 - 52) := by rw [Nat.pow_succ]; omega
      rw [e2]; exact kn
  have key := fun b hb => floor_case (kp := kp) (m := m) (n := n) (A := k * n) (s := s) (u := (k * n).log2 - 52) (u' := u') (v := u' + s) (b := b) hA1 hA2 hp1 hp2 hu rfl n2 hb
  obtain ⟨T, base, hb, hT, t1, t2, bi, bl⟩ := diff_nums (i := i) kp1 kp2 m1 m2 (show 54 ≤ u' + s by omega) (by omega) key
  have hep' : ep = i - 55 + ((u' + s : Nat) : Int) := by omega
  rw [← hep'] at hb hT
  -- fc / 2^50
  have ht := div_eq hc rd50 m1 m2 (by omega) (by omega)
  have hL8 : (m * 2 ^ 3).log2 = 55 := log_shift m1 m2 3
  have wt := near_eq false (m * 2 ^ 3) (i - -2 - 55) (by omega) (by omega) (by omega)
  rw [kept_shift m1 m2, hL8, show i - -2 - 55 + ((55 : Nat) : Int) - 52 = i - 50 from by omega] at wt
  rw [Q_exact, wt] at ht
  have rt := read_W false m (i - 50) m1 m2 (by omega) (by omega)
  obtain ⟨df, hs, hlt, hge⟩ := diff_law rp hc rt m1 hb hT t1 t2 bi (by omega) (by omega)
  -- 2 * r
  have hm2 := mul_eq rd2 rr
  have hL52 : (k * 2 ^ 52).log2 = 104 := log_shift k1 k2 52
  have wm := near_eq false (k * 2 ^ 52) (-51 + (i - j - 55 + s)) (by omega) (by omega) (by omega)
  rw [kept_shift k1 k2, hL52, show -51 + (i - j - 55 + (s : Int)) + ((104 : Nat) : Int) - 52 = i - j - 55 + s + 1 from by omega] at wm
  rw [show 4503599627370496 * k = k * 2 ^ 52 from by omega, wm] at hm2
  -- r / 2
  have hh := div_eq rr rd2 k1 k2 (by omega) (by omega)
  have hL8' : (k * 2 ^ 3).log2 = 55 := log_shift k1 k2 3
  have wh := near_eq false (k * 2 ^ 3) (i - j - 55 + s - -51 - 55) (by omega) (by omega) (by omega)
  rw [kept_shift k1 k2, hL8', show i - j - 55 + (s : Int) - -51 - 55 + ((55 : Nat) : Int) - 52 = i - j - 55 + s - 1 from by omega] at wh
  rw [Q_exact, wh] at hh
  refine ⟨W false k (i - j - 55 + s), _, df, W false m (i - 50), W false k (i - j - 55 + s + 1), W false k (i - j - 55 + s - 1), ?_, order_pos rr (by omega), mul_eq rr hd, hs, ht, hlt, hge, ?_, hm2, order_self rr2, ?_, hh, order_self rrh⟩
  · rw [div_eq hc hd m1 m2 n1 n2, w0]
  · rw [div_eq hc2 hd m1 m2 n1 n2, show i + 1 - j - 55 = i - j - 55 + 1 from by omega, w1]
  · rw [div_eq hc hd2 m1 m2 n1 n2, show i - (j + 1) - 55 = i - j - 55 - 1 from by omega, w2]

/-! ### nought -/
theorem fZero : floatOfInt .f64 (0 : Int) = 0 := by
  have := fOf 0
  refine this.trans ?_
  simp [Format.nearest, Format.word]

theorem inf_gt : double.order 9218868437227405312 9218868437227405311 = some .gt := by decide

theorem div_zero (c : Nat) (c0 : 0 < c) (c1 : c ≤ 4503599627370496) : double.div (floatOfInt .f64 (c : Int)) 0 = some 9218868437227405312 := by
  obtain ⟨m, i, hc, -, m1, m2, i1, i2⟩ := rd_int c c0 c1
  rw [fOf]
  unfold Format.div
  rw [hc, read_zero]
  unfold Datum.quotient
  simp only [if_true]
  rw [if_neg (by omega)]
  rfl

theorem zero_div (d : Nat) (d0 : 0 < d) (d1 : d ≤ 4503599627370496) : double.div 0 (floatOfInt .f64 (d : Int)) = some 0 := by
  obtain ⟨n, j, hd, -, n1, n2, j1, j2⟩ := rd_int d d0 d1
  rw [fOf]
  unfold Format.div
  rw [hd, read_zero]
  unfold Datum.quotient
  simp only
  rw [if_neg (by omega)]
  simp [Format.write, Format.nearest, Format.word]

theorem zero_zero : double.div 0 0 = none := by decide

theorem nan_order (t : Nat) : (double.order (t % 2 * 2 ^ 63 + 0x7ff0000000000000 + 1 + t / 2 % (2 ^ 52 - 1)) (t % 2 * 2 ^ 63 + 0x7ff0000000000000 + 1 + t / 2 % (2 ^ 52 - 1)) != some .eq) = true := by
  have h : ∃ s f, double.read (t % 2 * 2 ^ 63 + 0x7ff0000000000000 + 1 + t / 2 % (2 ^ 52 - 1)) = .nan s f := by
    have hlt : t / 2 % (2 ^ 52 - 1) < 2 ^ 52 - 1 := Nat.mod_lt _ (by decide)
    generalize t / 2 % (2 ^ 52 - 1) = q at *
    have h2 : t % 2 < 2 := Nat.mod_lt _ (by decide)
    generalize t % 2 = s at *
    unfold Format.read
    have e : (s * 2 ^ 63 + 0x7ff0000000000000 + 1 + q) % double.signWeight = 0x7ff0000000000000 + 1 + q := by rw [sw]; omega
    simp only [e]
    rw [if_neg (by rw [bin]; omega), if_neg (by rw [inf]; omega), if_neg (by rw [inf]; omega)]
    exact ⟨_, _, rfl⟩
  obtain ⟨s, f, h⟩ := h
  unfold Format.order
  rw [h]
  rfl

end Go.Proofs.Qxb6003230a.Fl
