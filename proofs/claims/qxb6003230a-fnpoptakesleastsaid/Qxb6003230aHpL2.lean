/-
  THE PLAIN LAWS OF THE HEAP: sifting up, sifting down; no Go in sight.
-/
import Derived.Test.Qxb6003230aHpL1
import Derived.Test.Qxb6003230aHp4
namespace Go.Proofs.Qxb6003230a.Hp

def gt (l : List E) (j : Nat) : E := l.getD j E0
theorem gt_eq (l : List E) (j : Nat) (h : j < l.length) : gt l j = l[j] := by simp [gt, List.getD, h]
theorem gt_set (l : List E) (i j : Nat) (x : E) (hi : i < l.length) : gt (l.set i x) j = if i = j then x else gt l j := by
  unfold gt
  simp only [List.getD, List.getElem?_set, hi, if_true]
  split <;> simp
theorem gt_mem (l : List E) (j : Nat) (h : j < l.length) : gt l j ∈ l := by rw [gt_eq l j h]; exact List.getElem_mem h
theorem mem_gt {l : List E} {x : E} (h : x ∈ l) : ∃ j, j < l.length ∧ x = gt l j := by
  obtain ⟨j, hj, rfl⟩ := List.getElem_of_mem h
  exact ⟨j, hj, (gt_eq l j hj).symm⟩

/-- Two events change places. -/
def sw (l : List E) (i p : Nat) : List E := (l.set i (gt l p)).set p (gt l i)
theorem sw_len (l : List E) (i p : Nat) : (sw l i p).length = l.length := by simp [sw]
theorem sw_gt (l : List E) (i p j : Nat) (hi : i < l.length) (hp : p < l.length) : gt (sw l i p) j = if p = j then gt l i else if i = j then gt l p else gt l j := by
  unfold sw
  rw [gt_set _ _ _ _ (by simpa using hp), gt_set _ _ _ _ hi]
theorem sw_perm (l : List E) (i p : Nat) (hi : i < l.length) (hp : p < l.length) : (sw l i p).Perm l := by
  unfold sw
  rw [gt_eq l p hp, gt_eq l i hi]
  exact List.set_set_perm hi hp

/-- No event comes before its parent. -/
def Heap (l : List E) : Prop := ∀ j, 0 < j → j < l.length → bef (gt l j) (gt l ((j - 1) / 2)) = false

/-! ### up -/
/-- A heap but for what stands at i. -/
structure Up (l : List E) (i : Nat) : Prop where
  lt : i < l.length
  ord : ∀ j, 0 < j → j < l.length → j ≠ i → bef (gt l j) (gt l ((j - 1) / 2)) = false
  gp : 0 < i → ∀ j, 0 < j → j < l.length → (j - 1) / 2 = i → bef (gt l j) (gt l ((i - 1) / 2)) = false

theorem up_start {h : List E} (e : E) (hh : Heap h) : Up (h ++ [e]) h.length := by
  have g : ∀ j, j < h.length → gt (h ++ [e]) j = gt h j := fun j hj => by
    unfold gt; simp only [List.getD]; rw [List.getElem?_append_left hj]
  refine ⟨by simp, fun j h0 hj hne => ?_, fun h0 j _ hj hp => ?_⟩
  · have : j < h.length := by simp at hj; omega
    rw [g j this, g _ (by omega)]
    exact hh j h0 this
  · exfalso; simp at hj; omega

theorem up_step {l : List E} {i : Nat} (h : Up l i) (h0 : 0 < i) (hb : bef (gt l i) (gt l ((i - 1) / 2)) = true) : Up (sw l i ((i - 1) / 2)) ((i - 1) / 2) := by
  obtain ⟨p, hp⟩ : ∃ p, (i - 1) / 2 = p := ⟨_, rfl⟩
  have hlt := h.lt
  have hpi : p < i := by omega
  have hpl : p < l.length := by omega
  have g := fun j => sw_gt l i p j hlt hpl
  have ha := bef_asymm hb
  rw [hp] at hb ha ⊢
  refine ⟨by rw [sw_len]; exact hpl, fun j j0 hj hne => ?_, fun p0 j j0 hj hpar => ?_⟩
  · rw [sw_len] at hj
    rw [g j, g ((j - 1) / 2), if_neg (by omega)]
    by_cases hji : i = j
    · subst hji
      rw [if_pos rfl, if_pos hp.symm]; exact ha
    · rw [if_neg hji]
      have hord := h.ord j j0 hj (by omega)
      by_cases hpj : p = (j - 1) / 2
      · rw [if_pos hpj]
        rw [← hpj] at hord
        exact bef_trans ha hord
      · rw [if_neg hpj]
        by_cases hij : i = (j - 1) / 2
        · rw [if_pos hij]
          have := h.gp h0 j j0 hj hij.symm
          rw [hp] at this; exact this
        · rw [if_neg hij]; exact hord
  · rw [sw_len] at hj
    rw [g j, g ((p - 1) / 2), if_neg (show ¬ p = j by omega), if_neg (show ¬ p = (p - 1) / 2 by omega), if_neg (show ¬ i = (p - 1) / 2 by omega)]
    have hordp := h.ord p p0 hpl (by omega)
    by_cases hji : i = j
    · rw [if_pos hji]; exact hordp
    · rw [if_neg hji]
      have hord := h.ord j j0 hj (by omega)
      rw [hpar] at hord
      exact bef_trans hordp hord

theorem up_end {l : List E} {i : Nat} (h : Up l i) (hb : 0 < i → bef (gt l i) (gt l ((i - 1) / 2)) = false) : Heap l := by
  intro j j0 hj
  by_cases hji : j = i
  · subst hji; exact hb j0
  · exact h.ord j j0 hj hji

/-! ### down -/
/-- Below s and its like all is ordered but for what stands at i. -/
structure Dn (s : Nat) (l : List E) (i : Nat) : Prop where
  ord : ∀ j, 0 < j → j < l.length → s ≤ (j - 1) / 2 → (j - 1) / 2 ≠ i → bef (gt l j) (gt l ((j - 1) / 2)) = false
  gp : 0 < i → s ≤ (i - 1) / 2 → ∀ j, 0 < j → j < l.length → (j - 1) / 2 = i → bef (gt l j) (gt l ((i - 1) / 2)) = false

/-- c: that child of i which no other child comes before. -/
theorem dn_step {s : Nat} {l : List E} {i c : Nat} (h : Dn s l i) (hc0 : 0 < c) (hcl : c < l.length) (hci : (c - 1) / 2 = i) (hs : s ≤ i)
    (hb : bef (gt l c) (gt l i) = true) (hmin : ∀ j, 0 < j → j < l.length → (j - 1) / 2 = i → bef (gt l j) (gt l c) = false) : Dn s (sw l i c) c := by
  have hil : i < l.length := by omega
  have hic : i < c := by omega
  have g := fun j => sw_gt l i c j hil hcl
  have ha := bef_asymm hb
  refine ⟨fun j j0 hj hsj hne => ?_, fun _ _ j j0 hj hpar => ?_⟩
  · rw [sw_len] at hj
    rw [g j, g ((j - 1) / 2), if_neg (show ¬ c = (j - 1) / 2 by omega)]
    by_cases hpi : i = (j - 1) / 2
    · rw [if_pos hpi]
      by_cases hcj : c = j
      · rw [if_pos hcj]; exact ha
      · rw [if_neg hcj, if_neg (by omega)]; exact hmin j j0 hj hpi.symm
    · rw [if_neg hpi]
      by_cases hcj : c = j
      · exfalso; subst hcj; omega
      · rw [if_neg hcj]
        by_cases hij : i = j
        · subst hij
          rw [if_pos rfl]
          exact h.gp j0 hsj c hc0 hcl hci
        · rw [if_neg hij]; exact h.ord j j0 hj hsj (by omega)
  · rw [sw_len] at hj
    rw [hci, g j, g i, if_neg (by omega), if_neg (by omega), if_neg (by omega), if_pos rfl]
    have := h.ord j j0 hj (by omega) (by omega)
    rw [hpar] at this; exact this

theorem dn_end {s : Nat} {l : List E} {i : Nat} (h : Dn s l i) (hc : ∀ j, 0 < j → j < l.length → (j - 1) / 2 = i → bef (gt l j) (gt l i) = false) :
    ∀ j, 0 < j → j < l.length → s ≤ (j - 1) / 2 → bef (gt l j) (gt l ((j - 1) / 2)) = false := by
  intro j j0 hj hs
  by_cases hji : (j - 1) / 2 = i
  · rw [hji]; exact hc j j0 hj hji
  · exact h.ord j j0 hj hs hji

/-- Nothing comes before the root. -/
theorem heap_root {l : List E} (h : Heap l) (j : Nat) (hj : j < l.length) : bef (gt l j) (gt l 0) = false := by
  induction j using Nat.strongRecOn with
  | _ j ih =>
    rcases Nat.eq_zero_or_pos j with rfl | h0
    · exact bef_refl _
    · exact bef_trans (ih ((j - 1) / 2) (by omega) (by omega)) (h j h0 hj)

theorem heap_min {l : List E} (h : Heap l) {x : E} (hx : x ∈ l) : bef x (gt l 0) = false := by
  obtain ⟨j, hj, rfl⟩ := mem_gt hx
  exact heap_root h j hj

/-! ### taking the root -/
/-- What is left ahead of the sifting: the last in the root's place. -/
def lp (l : List E) : List E := (l.set 0 (gt l (l.length - 1))).take (l.length - 1)
theorem lp_len (l : List E) : (lp l).length = l.length - 1 := by simp [lp]
theorem lp_gt (l : List E) (j : Nat) (hj : j < l.length - 1) : gt (lp l) j = if 0 = j then gt l (l.length - 1) else gt l j := by
  have h0 : 0 < l.length := by omega
  have : gt (lp l) j = gt (l.set 0 (gt l (l.length - 1))) j := by
    unfold lp gt
    simp only [List.getD]
    rw [List.getElem?_take, if_pos hj]
  rw [this, gt_set _ _ _ _ h0]
theorem lp_perm (l : List E) (h0 : 0 < l.length) : (gt l 0 :: lp l).Perm l := by
  match l, h0 with
  | [x], _ => simp [gt, lp]
  | x :: y :: r, _ =>
    have hne : y :: r ≠ [] := by simp
    have e1 : gt (x :: y :: r) ((x :: y :: r).length - 1) = (y :: r).getLast hne := by
      rw [gt_eq _ _ (by simp), List.getLast_eq_getElem]; simp
    have e2 : lp (x :: y :: r) = (y :: r).getLast hne :: (y :: r).dropLast := by
      unfold lp
      rw [e1, List.set_cons_zero]
      rw [show (x :: y :: r).length - 1 = (y :: r).length - 1 + 1 from by simp, List.take_succ_cons, List.dropLast_eq_take]
    rw [e2]
    have e3 := List.dropLast_concat_getLast hne
    refine List.Perm.cons x ?_
    refine (List.perm_append_comm (l₁ := [(y :: r).getLast hne]) (l₂ := (y :: r).dropLast)).trans ?_
    rw [e3]

theorem lp_dn {l : List E} (h : Heap l) : Dn 0 (lp l) 0 := by
  refine ⟨fun j j0 hj _ hne => ?_, fun h0 => by omega⟩
  rw [lp_len] at hj
  rw [lp_gt l j hj, lp_gt l _ (by omega), if_neg (by omega), if_neg (by omega)]
  exact h j j0 (by omega)

end Go.Proofs.Qxb6003230a.Hp
