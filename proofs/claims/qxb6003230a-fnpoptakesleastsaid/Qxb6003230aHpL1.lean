/-
  THE PLAIN LAWS: the two orders on events; merging; no Go in sight.
-/
import Derived.Test.Qxb6003230aHp2
namespace Go.Proofs.Qxb6003230a.Hp

/-! ### lexicographic orders -/
def lx (x y : Int) (r : Bool) : Bool := if x = y then r else decide (x < y)

theorem lx_trans {x y z : Int} {rba rcb rca : Bool} (h : rba = false → rcb = false → rca = false) (h1 : lx y x rba = false) (h2 : lx z y rcb = false) : lx z x rca = false := by
  unfold lx at *
  by_cases e1 : y = x
  · subst e1
    by_cases e2 : z = y
    · subst e2; simp at h1 h2 ⊢; exact h h1 h2
    · simp [e2] at h2 ⊢; exact h2
  · rw [if_neg e1] at h1
    by_cases e2 : z = y
    · subst e2; rw [if_neg e1]; exact h1
    · rw [if_neg e2] at h2
      simp at h1 h2
      rw [if_neg (by omega)]
      simp; omega
theorem lx_total {x y : Int} {rab rba : Bool} (h : rab = false ∨ rba = false) : lx x y rab = false ∨ lx y x rba = false := by
  unfold lx
  by_cases e : x = y
  · subst e; simpa using h
  · rw [if_neg e, if_neg (Ne.symm e)]; simp; omega
theorem lx_anti {x y : Int} {rab rba : Bool} (h1 : lx x y rab = false) (h2 : lx y x rba = false) : x = y ∧ rab = false ∧ rba = false := by
  unfold lx at *
  by_cases e : x = y
  · subst e; simp at h1 h2; exact ⟨rfl, h1, h2⟩
  · rw [if_neg e] at h1; rw [if_neg (Ne.symm e)] at h2; simp at h1 h2; omega
theorem lx_asymm {x y : Int} {rab rba : Bool} (h : rab = true → rba = false) (h1 : lx x y rab = true) : lx y x rba = false := by
  unfold lx at *
  by_cases e : x = y
  · subst e; simp at h1 ⊢; exact h h1
  · rw [if_neg e] at h1; rw [if_neg (Ne.symm e)]; simp at h1 ⊢; omega
theorem dc_trans {x y z : Int} (h1 : decide (y < x) = false) (h2 : decide (z < y) = false) : decide (z < x) = false := by simp at *; omega
theorem dc_total {x y : Int} : decide (x < y) = false ∨ decide (y < x) = false := by simp; omega
theorem dc_anti {x y : Int} (h1 : decide (x < y) = false) (h2 : decide (y < x) = false) : x = y := by simp at *; omega

theorem bef_eq (a b : E) : bef a b = lx a.tick b.tick (lx a.kind b.kind (decide (a.seq < b.seq))) := rfl
theorem les_eq (a b : E) : les a b = lx a.tick b.tick (lx a.kind b.kind (lx a.seq b.seq (lx a.bid b.bid (lx a.task b.task (lx a.con b.con (decide (a.perf < b.perf))))))) := rfl

/-- a ≤ b in the event order: b does not come before a. -/
theorem bef_trans {a b c : E} (h1 : bef b a = false) (h2 : bef c b = false) : bef c a = false := by
  rw [bef_eq] at *; exact lx_trans (fun h1 h2 => lx_trans (fun h1 h2 => dc_trans h1 h2) h1 h2) h1 h2
theorem bef_total (a b : E) : bef a b = false ∨ bef b a = false := by
  rw [bef_eq, bef_eq]; exact lx_total (lx_total dc_total)
theorem bef_asymm {a b : E} (h : bef a b = true) : bef b a = false := by
  rcases bef_total a b with h' | h'
  · rw [h] at h'; cases h'
  · exact h'
theorem bef_refl (a : E) : bef a a = false := by rcases bef_total a a with h | h <;> exact h

theorem les_trans {a b c : E} (h1 : les b a = false) (h2 : les c b = false) : les c a = false := by
  rw [les_eq] at *
  exact lx_trans (fun h1 h2 => lx_trans (fun h1 h2 => lx_trans (fun h1 h2 => lx_trans (fun h1 h2 => lx_trans (fun h1 h2 => lx_trans (fun h1 h2 => dc_trans h1 h2) h1 h2) h1 h2) h1 h2) h1 h2) h1 h2) h1 h2
theorem les_total (a b : E) : les a b = false ∨ les b a = false := by
  rw [les_eq, les_eq]; exact lx_total (lx_total (lx_total (lx_total (lx_total (lx_total dc_total)))))
theorem les_anti {a b : E} (h1 : les a b = false) (h2 : les b a = false) : a = b := by
  rw [les_eq] at *
  obtain ⟨e1, h1, h2⟩ := lx_anti h1 h2
  obtain ⟨e2, h1, h2⟩ := lx_anti h1 h2
  obtain ⟨e3, h1, h2⟩ := lx_anti h1 h2
  obtain ⟨e4, h1, h2⟩ := lx_anti h1 h2
  obtain ⟨e5, h1, h2⟩ := lx_anti h1 h2
  obtain ⟨e6, h1, h2⟩ := lx_anti h1 h2
  have e7 := dc_anti h1 h2
  cases a; cases b; simp_all

/-! ### sorted lists -/
def le (a b : E) : Bool := !les b a
theorem le_trans' (a b c : E) (h1 : le a b = true) (h2 : le b c = true) : le a c = true := by
  unfold le at *; simp at *; exact les_trans h1 h2
theorem le_total' (a b : E) : (le a b || le b a) = true := by
  unfold le; rcases les_total a b with h | h <;> simp [h]
def Sorted (l : List E) : Prop := l.Pairwise (fun a b => le a b = true)

theorem sorted_unique {l m : List E} (h1 : Sorted l) (h2 : Sorted m) (hp : l.Perm m) : l = m :=
  hp.eq_of_pairwise (fun a b _ _ h h' => by unfold le at h h'; simp at h h'; exact les_anti h' h) h1 h2

/-- Sorted runs of width q: within one run nothing comes before what stands ahead of it. -/
def Runs (q : Nat) (l : List E) (n : Nat) : Prop := ∀ (i j : Nat) (_hi : i < j) (hj : j < l.length), j < n → i / q = j / q → le (l[i]'(by omega)) l[j] = true

theorem runs_one (l : List E) (n : Nat) : Runs 1 l n := by
  intro i j hi hj hn h
  simp at h; omega

theorem runs_sorted {q : Nat} {l : List E} (h : Runs q l l.length) (hq : l.length ≤ q) : Sorted l := by
  unfold Sorted
  rw [List.pairwise_iff_getElem]
  intro i j hi hj hij
  exact h i j hij hj hj (by rw [Nat.div_eq_of_lt (by omega), Nat.div_eq_of_lt (by omega)])

/-- A stretch inside one run is sorted. -/
theorem run_stretch {q : Nat} {l : List E} (h : Runs q l l.length) (a b : Nat) (hb : b ≤ l.length) (hd : ∀ i, a ≤ i → i < b → i / q = a / q) : Sorted ((l.drop a).take (b - a)) := by
  unfold Sorted
  rw [List.pairwise_iff_getElem]
  intro i j hi hj hij
  simp only [List.length_take, List.length_drop] at hi hj
  simp only [List.getElem_take, List.getElem_drop]
  refine h (a + i) (a + j) (by omega) (by omega) (by omega) ?_
  rw [hd (a + i) (by omega) (by omega), hd (a + j) (by omega) (by omega)]

/-! ### the merge of two neighbouring runs -/
def mg (A B : List E) : List E := A.merge B le

theorem mg_perm (A B : List E) : (mg A B).Perm (A ++ B) := List.merge_perm_append le
theorem mg_len (A B : List E) : (mg A B).length = A.length + B.length := by rw [(mg_perm A B).length_eq, List.length_append]
theorem mg_sorted {A B : List E} (h1 : Sorted A) (h2 : Sorted B) : Sorted (mg A B) := List.pairwise_merge le_trans' le_total' A B h1 h2
theorem mg_left (a : E) (A : List E) (B : List E) (h : ∀ b, B.head? = some b → les b a = false) : mg (a :: A) B = a :: mg A B := by
  unfold mg
  cases B with
  | nil => simp
  | cons b B =>
    have := h b rfl
    rw [List.cons_merge_cons, if_pos (by simp [le, this])]
theorem mg_right (b : E) (A : List E) (B : List E) (h : ∀ a, A.head? = some a → les b a = true) : mg A (b :: B) = b :: mg A B := by
  unfold mg
  cases A with
  | nil => simp
  | cons a A =>
    have := h a rfl
    rw [List.cons_merge_cons, if_neg (by simp [le, this])]

/-- The stretch [a, b) of l. -/
def st (l : List E) (a b : Nat) : List E := (l.drop a).take (b - a)
theorem st_len (l : List E) (a b : Nat) (hb : b ≤ l.length) : (st l a b).length = b - a := by simp [st]; omega
theorem st_nil (l : List E) (a b : Nat) (h : b ≤ a) : st l a b = [] := by unfold st; rw [show b - a = 0 from by omega]; simp
theorem st_cons (l : List E) (a b : Nat) (h : a < b) (hb : b ≤ l.length) : st l a b = l[a]'(by omega) :: st l (a + 1) b := by
  unfold st
  rw [List.drop_eq_getElem_cons (by omega), show b - a = (b - (a + 1)) + 1 from by omega, List.take_succ_cons]
theorem st_head (l : List E) (a b : Nat) (h : a < b) (hb : b ≤ l.length) (x : E) (hx : (st l a b).head? = some x) : x = l[a]'(by omega) := by
  rw [st_cons l a b h hb] at hx; simpa using hx.symm

/-- THE MERGE LOOP's STATE: what is gathered, and what is left, make the merge. -/
def Mst (s : List E) (lo mid hi i j : Nat) (M : List E) : Prop := M ++ mg (st s i mid) (st s j hi) = mg (st s lo mid) (st s mid hi)

theorem mst_start (s : List E) (lo mid hi : Nat) : Mst s lo mid hi lo mid [] := rfl
theorem mst_left {s : List E} {lo mid hi i j : Nat} {M : List E} (h : Mst s lo mid hi i j M) (hi' : i < mid) (hm : mid ≤ s.length) (hh : hi ≤ s.length)
    (hc : ∀ (hj : j < hi), les (s[j]'(by omega)) (s[i]'(by omega)) = false) : Mst s lo mid hi (i + 1) j (M ++ [s[i]'(by omega)]) := by
  unfold Mst at *
  rw [← h, st_cons s i mid hi' hm, mg_left]
  · simp
  · intro b hb
    by_cases hj : j < hi
    · rw [st_head s j hi hj hh b hb]; exact hc hj
    · rw [st_nil s j hi (by omega)] at hb; simp at hb
theorem mst_right {s : List E} {lo mid hi i j : Nat} {M : List E} (h : Mst s lo mid hi i j M) (hj : j < hi) (hm : mid ≤ s.length) (hh : hi ≤ s.length)
    (hc : ∀ (hi' : i < mid), les (s[j]'(by omega)) (s[i]'(by omega)) = true) : Mst s lo mid hi i (j + 1) (M ++ [s[j]'(by omega)]) := by
  unfold Mst at *
  rw [← h, st_cons s j hi hj hh, mg_right]
  · simp
  · intro a ha
    by_cases hi' : i < mid
    · rw [st_head s i mid hi' hm a ha]; exact hc hi'
    · rw [st_nil s i mid (by omega)] at ha; simp at ha
theorem mst_end {s : List E} {lo mid hi i j : Nat} {M : List E} (h : Mst s lo mid hi i j M) (h1 : mid ≤ i) (h2 : hi ≤ j) : M = mg (st s lo mid) (st s mid hi) := by
  unfold Mst at h
  rw [st_nil s i mid h1, st_nil s j hi h2] at h
  simpa [mg] using h

/-- ONE BLOCK OF A PASS IS DONE: up to 'lo' the target holds runs of width 2q, a rearrangement of the source; behind the merge, up to lo + 2q. -/
structure Pass (q : Nat) (s d : List E) (lo : Nat) : Prop where
  len : d.length = s.length
  runs : Runs (2 * q) d lo
  perm : (d.take lo).Perm (s.take lo)

theorem pass_start (q : Nat) (s d : List E) (h : d.length = s.length) : Pass q s d 0 := ⟨h, fun i j _ _ h => by omega, by simp⟩

theorem pass_step {q : Nat} {s d d' : List E} {lo : Nat} (h : Pass q s d lo) (hq : 0 < q) (hlo : lo < s.length) (hdiv : lo % (2 * q) = 0) (hr : Runs q s s.length)
    (hd' : d' = d.take lo ++ mg (st s lo (min (lo + q) s.length)) (st s (min (lo + q) s.length) (min (lo + 2 * q) s.length)) ++ d.drop (min (lo + 2 * q) s.length)) : Pass q s d' (lo + 2 * q) := by
  obtain ⟨m, hm⟩ : ∃ m, min (lo + q) s.length = m := ⟨_, rfl⟩
  obtain ⟨t, ht⟩ : ∃ t, min (lo + 2 * q) s.length = t := ⟨_, rfl⟩
  rw [hm, ht] at hd'
  have hlm : lo ≤ m ∧ m ≤ t ∧ t ≤ s.length ∧ lo < t ∧ m ≤ lo + q ∧ t ≤ lo + 2 * q := by omega
  obtain ⟨g1, g2, g3, g4, g5, g6⟩ := hlm
  obtain ⟨c, hc⟩ : ∃ c, lo = 2 * q * c := ⟨lo / (2 * q), by have := Nat.div_add_mod lo (2 * q); omega⟩
  have hmid : lo + q = q * (2 * c + 1) := by rw [hc, Nat.mul_add, Nat.mul_one, ← Nat.mul_assoc, Nat.mul_comm q 2]
  have hlo2 : lo = q * (2 * c) := by rw [hc, ← Nat.mul_assoc, Nat.mul_comm q 2]
  have sA : Sorted (st s lo m) := run_stretch hr lo m (by omega) (fun i hi hi' => by
    have e1 : lo / q = 2 * c := by rw [hlo2, Nat.mul_div_cancel_left _ hq]
    have e2 : i / q = 2 * c := Nat.div_eq_of_lt_le (by rw [Nat.mul_comm, ← hlo2]; exact hi) (by rw [Nat.mul_comm, show 2 * c + 1 = 2 * c + 1 from rfl, ← hmid]; omega)
    rw [e1, e2])
  have sB : Sorted (st s m t) := by
    by_cases hmm : m = lo + q
    · refine run_stretch hr m t (by omega) (fun i hi hi' => ?_)
      have e1 : m / q = 2 * c + 1 := by rw [hmm, hmid, Nat.mul_div_cancel_left _ hq]
      have e2 : i / q = 2 * c + 1 := Nat.div_eq_of_lt_le (by rw [Nat.mul_comm, ← hmid]; omega) (by rw [Nat.add_mul, Nat.mul_comm, ← hmid]; omega)
      rw [e1, e2]
    · rw [st_nil s m t (by omega)]; exact List.Pairwise.nil
  have sM := mg_sorted sA sB
  have lM : (mg (st s lo m) (st s m t)).length = t - lo := by rw [mg_len, st_len _ _ _ (by omega), st_len _ _ _ (by omega)]; omega
  have lT : (d.take lo).length = lo := by simp [h.len]; omega
  have len' : d'.length = s.length := by
    rw [hd']; simp only [List.length_append, lT, lM, List.length_drop, h.len]; omega
  refine ⟨len', ?_, ?_⟩
  · intro i j hi hj hn hd
    by_cases hjlo : j < lo
    · have e1 : ∀ x (hx : x < lo) (hx' : x < d'.length), d'[x] = d[x]'(by rw [h.len]; omega) := by
        intro x hx hx'
        simp only [hd']
        rw [List.getElem_append_left (by rw [List.length_append, lT, lM]; omega), List.getElem_append_left (by rw [lT]; exact hx)]
        simp
      rw [e1 i (by omega), e1 j hjlo]
      exact h.runs i j hi _ hjlo hd
    · by_cases hilo : i < lo
      · exfalso
        have d1 : i / (2 * q) < c := (Nat.div_lt_iff_lt_mul (by omega)).2 (by rw [Nat.mul_comm]; omega)
        have d2 : c ≤ j / (2 * q) := (Nat.le_div_iff_mul_le (by omega)).2 (by rw [Nat.mul_comm]; omega)
        omega
      · have hjt : j < t := by omega
        have e1 : ∀ x (hx : lo ≤ x) (hx2 : x < t) (hx' : x < d'.length), d'[x] = (mg (st s lo m) (st s m t))[x - lo]'(by rw [lM]; omega) := by
          intro x hx hx2 hx'
          simp only [hd']
          rw [List.getElem_append_left (by rw [List.length_append, lT, lM]; omega), List.getElem_append_right (by rw [lT]; exact hx)]
          simp only [lT]
        rw [e1 i (by omega) (by omega), e1 j (by omega) hjt]
        unfold Sorted at sM
        rw [List.pairwise_iff_getElem] at sM
        exact sM _ _ _ _ (by omega)
  · have e1 : d'.take (lo + 2 * q) = d.take lo ++ mg (st s lo m) (st s m t) ++ (d.drop t).take (lo + 2 * q - t) := by
      rw [hd', List.take_append, List.take_of_length_le (by rw [List.length_append, lT, lM]; omega), List.length_append, lT, lM, show lo + 2 * q - (lo + (t - lo)) = lo + 2 * q - t from by omega]
    have e2 : (d.drop t).take (lo + 2 * q - t) = [] := by
      by_cases hh : t = lo + 2 * q
      · rw [hh]; simp
      · have : t = s.length := by omega
        rw [List.drop_of_length_le (by rw [h.len]; omega)]; simp
    have e3 : s.take (lo + 2 * q) = s.take lo ++ (st s lo m ++ st s m t) := by
      have a1 : s.take (lo + 2 * q) = s.take t := by
        by_cases hh : t = lo + 2 * q
        · rw [hh]
        · rw [List.take_of_length_le (by omega), List.take_of_length_le (by omega)]
      have a2 : ∀ a b, a ≤ b → s.take b = s.take a ++ st s a b := fun a b hab => by
        unfold st
        have := List.take_append_drop a (s.take b)
        rw [List.take_take, Nat.min_eq_left hab, List.drop_take] at this
        exact this.symm
      rw [a1, a2 m t g2, a2 lo m g1, List.append_assoc]
    rw [e1, e2, List.append_nil, e3]
    exact h.perm.append (mg_perm _ _)

theorem pass_end {q : Nat} {s d : List E} {lo : Nat} (h : Pass q s d lo) (hlo : s.length ≤ lo) : Runs (2 * q) d d.length ∧ d.Perm s := by
  refine ⟨fun i j hi hj hn hd => h.runs i j hi hj (by have := h.len; omega) hd, ?_⟩
  have := h.perm
  rwa [List.take_of_length_le (by rw [h.len]; exact hlo), List.take_of_length_le hlo] at this

end Go.Proofs.Qxb6003230a.Hp
