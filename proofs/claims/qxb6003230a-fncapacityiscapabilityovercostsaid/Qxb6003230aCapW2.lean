import Derived.Test.Qxb6003230aCapW1
namespace Go.Proofs.Qxb6003230a.Cap
open Go.RowKit

theorem rep_get {α : Type} (l : List α) (n j : Nat) : ((List.replicate n l).flatten)[j]? = if j < n * l.length then l[j % l.length]? else none := by
  induction n generalizing j with
  | zero => simp
  | succ n ih =>
    rw [List.replicate_succ, List.flatten_cons]
    by_cases hj : j < l.length
    · rw [List.getElem?_append_left hj, if_pos (by rw [Nat.succ_mul]; omega), Nat.mod_eq_of_lt hj]
    · rw [List.getElem?_append_right (by omega), ih, Nat.mod_eq_sub_mod (by omega : j ≥ l.length)]
      by_cases h : j < (n + 1) * l.length
      · rw [if_pos h, if_pos (by rw [Nat.succ_mul] at h; omega)]
      · rw [if_neg h, if_neg (by rw [Nat.succ_mul] at h; omega)]

theorem made_flat (z : List Value) (n : Nat) (h0 : 0 < z.length) : (madeCells z.toArray (n * z.length)).toList = (List.replicate n z).flatten := by
  apply List.ext_getElem?
  intro j
  rw [rep_get]
  by_cases hj : j < n * z.length
  · have hm : j % z.length < z.length := Nat.mod_lt _ h0
    simp [madeCells, hj, hm]
  · simp [madeCells, hj]

def conC (k : Int) : List Value := [.string ByteArray.empty, .int .i64 0, .int .i64 0, .int .i64 k]
def conCells (ks : List Int) : List Value := ks.flatMap conC

theorem con_len (ks : List Int) : (conCells ks).length = ks.length * 4 := by
  induction ks with
  | nil => rfl
  | cons k ks ih =>
    have e : conCells (k :: ks) = conC k ++ conCells ks := rfl
    rw [e, List.length_append, ih]; simp [conC]; omega

theorem con_made (n : Nat) : (madeCells #[.string ByteArray.empty, .int .i64 0, .int .i64 0, .int .i64 0] (n * 4)).toList = conCells (List.replicate n 0) := by
  have := made_flat (conC 0) n (by simp [conC])
  refine this.trans ?_
  unfold conCells
  rw [List.flatMap_def, List.map_replicate]

theorem con_set (ks : List Int) (i : Nat) (v : Int) (hi : i < ks.length) : (conCells ks).set (i * 4 + 3) (.int .i64 v) = conCells (ks.set i v) := by
  induction ks generalizing i with
  | nil => simp at hi
  | cons k ks ih =>
    cases i with
    | zero => simp [conCells, conC]
    | succ i =>
      have := ih i (by simpa using hi)
      simp only [conCells, List.flatMap_cons, List.set_cons_succ] at this ⊢
      rw [← this, List.set_append_right _ _ (by simp [conC]; omega)]
      congr 1
      rw [show (i + 1) * 4 + 3 - (conC k).length = i * 4 + 3 from by simp [conC]; omega]

theorem con_get (ks : List Int) (i j : Nat) (hi : i < ks.length) (hj : j < 4) : (conCells ks)[i * 4 + j]? = (conC (ks.getD i 0))[j]? := by
  induction ks generalizing i with
  | nil => simp at hi
  | cons k ks ih =>
    cases i with
    | zero => simp only [conCells, List.flatMap_cons]; rw [List.getElem?_append_left (by simp [conC]; omega)]; simp
    | succ i =>
      have := ih i (by simpa using hi)
      simp only [conCells, List.flatMap_cons] at this ⊢
      rw [List.getElem?_append_right (by simp [conC]; omega), show (i + 1) * 4 + j - (conC k).length = i * 4 + j from by simp [conC]; omega, this]
      simp

/-- What is owned while the contractors are filled. -/
def cq (zs : List Int) (n k : Nat) : List Int := zs.take k ++ List.replicate (n - k) 0
theorem cq_len (zs : List Int) (n k : Nat) (hz : k ≤ zs.length) (hn : k ≤ n) : (cq zs n k).length = n := by simp [cq]; omega
theorem cq_set (zs : List Int) (n k : Nat) (hk : k < n) (hz : k < zs.length) : (cq zs n k).set k (zs.getD k 0) = cq zs n (k + 1) := by
  unfold cq
  have e : List.replicate (n - k) (0 : Int) = 0 :: List.replicate (n - (k + 1)) 0 := by rw [show n - k = (n - (k + 1)) + 1 from by omega, List.replicate_succ]
  have hl : (zs.take k).length = k := by simp; omega
  have hg : zs.getD k 0 = zs[k]'(by omega) := by simp [List.getD, show k < zs.length by omega]
  rw [e, hg, List.set_append_right _ _ (by omega), hl, Nat.sub_self, List.set_cons_zero, List.take_succ_eq_append_getElem hz]
  simp only [List.append_assoc, List.singleton_append]

theorem cq_last (zs : List Int) (k : Nat) (ex : Int) (h : k ≤ zs.length) : (cq zs (k + 1) k).set k ex = zs.take k ++ [ex] := by
  unfold cq
  have hl : (zs.take k).length = k := by simp; omega
  rw [List.set_append_right _ _ (by omega), show k + 1 - k = 1 from by omega, hl, Nat.sub_self]
  rfl

set_option maxHeartbeats 400000 in
theorem con_false (b off len cap : Nat) (zs : List Int) (w : World) (hl : len ≤ 4096) (hlz : len ≤ zs.length) (hc : ∀ i, i < zs.length → w.cell? ⟨b, off + i, none⟩ = some (.int .i64 (zs.getD i 0))) :
    Calls Try.prog 24 #[.slice (some ⟨b, off, none⟩) len cap, .int .i64 0, .bool false] w fun e w' => e = .returned (.slice (some ⟨w.heap.size, 0, none⟩) len len) ∧ w'.ownsRow w.heap.size 61 4 (.slice (some ⟨w.heap.size, 0, none⟩) len len) len (conCells (zs.take len)) ∧ Below w.heap.size w w' := by
  obtain ⟨i0, hi, hz0, hz1, hz2⟩ := info_parts Try.info61
  go_enter Try.func24, Try.ntmps24
  go_wp2_with (first | (at_make; refine wpList_make_full _ rfl _ _ 51 rfl w.heap.size 61 i0 _ 4 Try.underlying51 hi hz0 hz1 _ _ _ _ len rfl rfl rfl rfl (by rw [hz2]; omega) (by unfold maxLen; omega) (Nat.le_refl _) ?_))
  intro w1 hown hgrow
  rw [con_made, show List.replicate len (0 : Int) = cq zs len 0 from by simp [cq]] at hown
  have hb1 : Below w.heap.size w w1 := (Below.refl _ _).grown hgrow (Nat.le_refl _) (by simp)
  clear hgrow hz0 hz1 hz2 hi
  go_wp2
  go_loopw [9] (fun i wr => ∃ k : Nat, k ≤ len ∧ i = .int .i64 k ∧ wr.ownsRow w.heap.size 61 4 (.slice (some ⟨w.heap.size, 0, none⟩) len len) len (conCells (cq zs len k)) ∧ Below w.heap.size w wr) (fun i _ => len - (intOf i).toNat)
  case atStart => exact ⟨0, Nat.zero_le _, rfl, hown, hb1⟩
  case round =>
    obtain ⟨k, hk, rfl, hown, hnx⟩ := hrel
    by_cases hlt : k < len
    · have hcx : wr.cell? ⟨b, off + k, none⟩ = some (.int .i64 (zs.getD k 0)) := cell_later hnx (hc k (by omega))
      obtain ⟨hst, hgr⟩ := hown.stored (k * 4 + 3) (.int .i64 (zs.getD k 0))
      have hnx' := hnx.grown hgr hnx.size (by intro j hj; cases hj; exact Nat.le_refl _)
      rw [con_set _ _ _ (by rw [cq_len _ _ _ (by omega) (by omega)]; omega), cq_set zs len k hlt (by omega)] at hst
      have hfz := hown.frozenAt (k * 4 + 3)
      obtain ⟨v0, hcl⟩ : ∃ v0, wr.cell? ⟨w.heap.size, k * 4 + 3, none⟩ = some v0 := by
        rw [hown.cellAt (k * 4 + 3) (by omega), List.getElem?_eq_getElem (by rw [hown.1]; omega)]; exact ⟨_, rfl⟩
      clear hgr hown
      go_wp2
      go_roundw
      case rel => exact ⟨k + 1, by omega, by go_num, by simpa using hst, by simpa using hnx'⟩
      case measure => simp [intOf]; omega
    · have : k = len := by omega
      subst this
      rw [show cq zs k k = zs.take k from by simp [cq]] at hown
      go_wp2
      go_ret
      exact ⟨rfl, hown, hnx⟩

set_option maxHeartbeats 400000 in
theorem con_true (b off len cap : Nat) (zs : List Int) (ex : Int) (w : World) (hl : len ≤ 4096) (hlz : len ≤ zs.length) (hc : ∀ i, i < zs.length → w.cell? ⟨b, off + i, none⟩ = some (.int .i64 (zs.getD i 0))) :
    Calls Try.prog 24 #[.slice (some ⟨b, off, none⟩) len cap, .int .i64 ex, .bool true] w fun e w' => e = .returned (.slice (some ⟨w.heap.size, 0, none⟩) (len + 1) (len + 1)) ∧ w'.ownsRow w.heap.size 61 4 (.slice (some ⟨w.heap.size, 0, none⟩) (len + 1) (len + 1)) (len + 1) (conCells (zs.take len ++ [ex])) ∧ Below w.heap.size w w' := by
  obtain ⟨i0, hi, hz0, hz1, hz2⟩ := info_parts Try.info61
  go_enter Try.func24, Try.ntmps24
  go_wp2_with (first | (at_make; refine wpList_make_full _ rfl _ _ 51 rfl w.heap.size 61 i0 _ 4 Try.underlying51 hi hz0 hz1 _ _ _ _ (len + 1) rfl rfl (by omega) (by omega) (by rw [hz2]; omega) (by unfold maxLen; omega) (Nat.le_refl _) ?_))
  intro w1 hown hgrow
  rw [con_made, show List.replicate (len + 1) (0 : Int) = cq zs (len + 1) 0 from by simp [cq]] at hown
  have hb1 : Below w.heap.size w w1 := (Below.refl _ _).grown hgrow (Nat.le_refl _) (by simp)
  clear hgrow hz0 hz1 hz2 hi
  go_wp2
  go_loopw [9] (fun i wr => ∃ k : Nat, k ≤ len ∧ i = .int .i64 k ∧ wr.ownsRow w.heap.size 61 4 (.slice (some ⟨w.heap.size, 0, none⟩) (len + 1) (len + 1)) (len + 1) (conCells (cq zs (len + 1) k)) ∧ Below w.heap.size w wr) (fun i _ => len - (intOf i).toNat)
  case atStart => exact ⟨0, Nat.zero_le _, rfl, hown, hb1⟩
  case round =>
    obtain ⟨k, hk, rfl, hown, hnx⟩ := hrel
    by_cases hlt : k < len
    · have hcx : wr.cell? ⟨b, off + k, none⟩ = some (.int .i64 (zs.getD k 0)) := cell_later hnx (hc k (by omega))
      obtain ⟨hst, hgr⟩ := hown.stored (k * 4 + 3) (.int .i64 (zs.getD k 0))
      have hnx' := hnx.grown hgr hnx.size (by intro j hj; cases hj; exact Nat.le_refl _)
      rw [con_set _ _ _ (by rw [cq_len _ _ _ (by omega) (by omega)]; omega), cq_set zs (len + 1) k (by omega) (by omega)] at hst
      have hfz := hown.frozenAt (k * 4 + 3)
      obtain ⟨v0, hcl⟩ : ∃ v0, wr.cell? ⟨w.heap.size, k * 4 + 3, none⟩ = some v0 := by
        rw [hown.cellAt (k * 4 + 3) (by omega), List.getElem?_eq_getElem (by rw [hown.1]; omega)]; exact ⟨_, rfl⟩
      clear hgr hown
      go_wp2
      go_roundw
      case rel => exact ⟨k + 1, by omega, by go_num, by simpa using hst, by simpa using hnx'⟩
      case measure => simp [intOf]; omega
    · have : k = len := by omega
      subst this
      obtain ⟨hst, hgr⟩ := hown.stored (k * 4 + 3) (.int .i64 ex)
      have hnx' := hnx.grown hgr hnx.size (by intro j hj; cases hj; exact Nat.le_refl _)
      rw [con_set _ _ _ (by rw [cq_len _ _ _ (by omega) (by omega)]; omega), cq_last zs k ex (by omega)] at hst
      have hfz := hown.frozenAt (k * 4 + 3)
      obtain ⟨v0, hcl⟩ : ∃ v0, wr.cell? ⟨w.heap.size, k * 4 + 3, none⟩ = some v0 := by
        rw [hown.cellAt (k * 4 + 3) (by omega), List.getElem?_eq_getElem (by rw [hown.1]; omega)]; exact ⟨_, rfl⟩
      clear hgr hown
      go_wp2
      go_ret
      exact ⟨rfl, hst, hnx'⟩

theorem con_false0 (a : Option Addr) (cap : Nat) (w : World) :
    Calls Try.prog 24 #[.slice a 0 cap, .int .i64 0, .bool false] w fun e w' => e = .returned (.slice (some ⟨w.heap.size, 0, none⟩) 0 0) ∧ w'.ownsRow w.heap.size 61 4 (.slice (some ⟨w.heap.size, 0, none⟩) 0 0) 0 (conCells []) ∧ Below w.heap.size w w' := by
  obtain ⟨i0, hi, hz0, hz1, hz2⟩ := info_parts Try.info61
  go_enter Try.func24, Try.ntmps24
  go_wp2_with (first | (at_make; refine wpList_make_full _ rfl _ _ 51 rfl w.heap.size 61 i0 _ 4 Try.underlying51 hi hz0 hz1 _ _ _ _ 0 rfl rfl rfl rfl (by rw [hz2]; omega) (by unfold maxLen; omega) (Nat.le_refl _) ?_))
  intro w1 hown hgrow
  have hb1 : Below w.heap.size w w1 := (Below.refl _ _).grown hgrow (Nat.le_refl _) (by simp)
  have e0 := con_made 0
  simp only [Nat.zero_mul, List.replicate_zero] at e0
  rw [e0] at hown
  clear hgrow e0
  go_wp2
  refine wp_loop_rounds 1 ?_; rw [rounds_succ]
  go_wp2
  go_ret
  exact ⟨rfl, hown, hb1⟩
end Go.Proofs.Qxb6003230a.Cap
