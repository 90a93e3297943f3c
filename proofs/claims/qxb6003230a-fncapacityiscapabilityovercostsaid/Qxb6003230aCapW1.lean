import Derived.Test.Qxb6003230aRows
import Derived.Test.Qxb6003230aFloat
import Derived.WalkKit
import Derived.WalkSpells
import Derived.WalkLawsBesides
import Derived.Below
namespace Go.Proofs.Qxb6003230a.Cap
open Go.RowKit

/-- A slice of integers: nil; or it leads to a row of 'cap' cells, the numbers 'zs'. -/
def IsRow (k : IntKind) (w : World) (a : Option Addr) (len cap : Nat) (zs : List Int) : Prop :=
  (a = none ∧ len = 0 ∧ cap = 0 ∧ zs = []) ∨
  ∃ x, a = some x ∧ len ≤ cap ∧ cap ≤ maxLen ∧ zs.length = cap ∧ (∀ i, i < zs.length → w.cell? (x.add i) = some (.int k (zs.getD i 0))) ∧ ∀ n ∈ zs, (Lit.int k n).wf = true

theorem Try.info2 : (Try.prog.info? 2).map (fun i => (i.zero, i.size, i.bytes)) = some (some (.int .i64 0), 1, 8) := by kernel_rfl
theorem Try.info61 : (Try.prog.info? 61).map (fun i => (i.zero, i.size, i.bytes)) = some (some (.agg #[.string ByteArray.empty, .int .i64 0, .int .i64 0, .int .i64 0]), 4, 40) := by kernel_rfl

theorem ret_bool {a b : Bool} (h : a = b) : Ending.returned (.bool a) = .returned (.bool b) := by rw [h]

set_option maxHeartbeats 400000 in
theorem bytes_any (a0 a1 : Option Addr) (n0 c0 n1 c1 : Nat) (h0 : n0 ≤ maxLen) (h1 : n1 ≤ maxLen) (w : World) :
    Calls Try.prog 22 #[.slice a0 n0 c0, .slice a1 n1 c1] w fun e w' => e = .returned (.bool (decide (n0 + n1 ≤ 1048576))) ∧ w' = w := by
  unfold maxLen at h0 h1
  go_enter Try.func22, Try.ntmps22
  go_wp2
  all_goals go_ret
  · exact ⟨ret_bool (by simp; omega), rfl⟩
  · exact ⟨ret_bool (by simp; omega), rfl⟩
  · exact ⟨ret_bool (by simp; omega), rfl⟩
  · exact ⟨ret_bool (by simp; omega), rfl⟩

/-- What is owned while the copying goes on. -/
def cp (zs : List Int) (len k : Nat) : List Value := (zs.take k ++ List.replicate (len - k) 0).map (Value.int .i64)

theorem cp_zero (zs : List Int) (len : Nat) : (madeCells #[.int .i64 0] len).toList = cp zs len 0 := by
  rw [toList_madeCells_one]
  simp [cp]

theorem cp_set (zs : List Int) (len k : Nat) (hk : k < len) (hz : len ≤ zs.length) : (cp zs len k).set k (.int .i64 (zs.getD k 0)) = cp zs len (k + 1) := by
  unfold cp
  have e : List.replicate (len - k) (0 : Int) = 0 :: List.replicate (len - (k + 1)) 0 := by rw [show len - k = (len - (k + 1)) + 1 from by omega, List.replicate_succ]
  have hl : (zs.take k).length = k := by simp; omega
  have hg : zs.getD k 0 = zs[k]'(by omega) := by simp [List.getD, show k < zs.length by omega]
  rw [e, hg]
  simp only [List.map_append, List.map_cons]
  rw [List.set_append_right _ _ (by simp; omega)]
  simp only [List.length_map, hl, Nat.sub_self, List.set_cons_zero]
  rw [List.take_succ_eq_append_getElem (show k < zs.length by omega)]
  simp only [List.map_append, List.map_cons, List.map_nil, List.append_assoc, List.singleton_append]

theorem cp_end (zs : List Int) (len : Nat) : cp zs len len = (zs.take len).map (Value.int .i64) := by simp [cp]

set_option maxHeartbeats 400000 in
theorem clone_some (b off : Nat) (len cap : Nat) (zs : List Int) (w : World) (hl : len ≤ 4096) (hlz : len ≤ zs.length) (hc : ∀ i, i < zs.length → w.cell? ⟨b, off + i, none⟩ = some (.int .i64 (zs.getD i 0))) :
    Calls Try.prog 23 #[.slice (some ⟨b, off, none⟩) len cap] w fun e w' => e = .returned (.slice (some ⟨w.heap.size, 0, none⟩) len len) ∧ w'.ownsRow w.heap.size 2 1 (.slice (some ⟨w.heap.size, 0, none⟩) len len) len ((zs.take len).map (Value.int .i64)) ∧ Below w.heap.size w w' := by
  obtain ⟨i0, hi, hz0, hz1, hz2⟩ := info_parts Try.info2
  have q44 : ∀ (w : World) (a : Option Addr) (n c n' c' : Nat), (binOp .eql 44 (.slice a n c) (.slice none n' c')).run Try.prog w = .ok (.bool a.isNone) w := fun w a n c n' c' => Lib.run_eql_slice_nil w _ _ a n c n' c' Try.underlying44
  go_enter Try.func23, Try.ntmps23
  go_wp2_with (first | (at_make; refine wpList_make_full _ rfl _ _ 44 rfl w.heap.size 2 i0 (.int .i64 0) 1 Try.underlying44 hi hz0 hz1 _ _ _ _ len rfl rfl rfl rfl (by rw [hz2]; omega) (by unfold maxLen; omega) (Nat.le_refl _) ?_))
  intro w1 hown hgrow
  rw [cp_zero zs len] at hown
  have hb1 : Below w.heap.size w w1 := (Below.refl _ _).grown hgrow (Nat.le_refl _) (by simp)
  clear hgrow
  go_wp2
  go_loopw [4] (fun i wr => ∃ k : Nat, k ≤ len ∧ i = .int .i64 k ∧ wr.ownsRow w.heap.size 2 1 (.slice (some ⟨w.heap.size, 0, none⟩) len len) len (cp zs len k) ∧ Below w.heap.size w wr) (fun i _ => len - (intOf i).toNat)
  case atStart => exact ⟨0, Nat.zero_le _, rfl, hown, hb1⟩
  case round =>
    obtain ⟨k, hk, rfl, hown, hnx⟩ := hrel
    by_cases hlt : k < len
    · have hcx : wr.cell? ⟨b, off + k, none⟩ = some (.int .i64 (zs.getD k 0)) := cell_later hnx (hc k (by omega))
      obtain ⟨hst, hgr⟩ := hown.stored k (.int .i64 (zs.getD k 0))
      have hnx' := hnx.grown hgr hnx.size (by intro j hj; cases hj; exact Nat.le_refl _)
      rw [cp_set zs len k hlt hlz] at hst
      have hfz := hown.frozenAt k
      obtain ⟨v0, hcl⟩ : ∃ v0, wr.cell? ⟨w.heap.size, k, none⟩ = some v0 := by
        rw [hown.cellAt k (by omega), List.getElem?_eq_getElem (by rw [hown.1]; omega)]; exact ⟨_, rfl⟩
      clear hgr hown
      go_wp2
      go_roundw
      case rel => exact ⟨k + 1, by omega, by go_num, by simpa using hst, by simpa using hnx'⟩
      case measure => simp [intOf]; omega
    · have : k = len := by omega
      subst this
      rw [cp_end] at hown
      go_wp2
      go_ret
      exact ⟨rfl, hown, hnx⟩

theorem clone_nil (w : World) : Calls Try.prog 23 #[.slice none 0 0] w fun e w' => e = .returned (.slice none 0 0) ∧ w' = w := by
  have q44 : ∀ (w : World) (a : Option Addr) (n c n' c' : Nat), (binOp .eql 44 (.slice a n c) (.slice none n' c')).run Try.prog w = .ok (.bool a.isNone) w := fun w a n c n' c' => Lib.run_eql_slice_nil w _ _ a n c n' c' Try.underlying44
  go_enter Try.func23, Try.ntmps23
  go_wp2
  go_ret
  exact ⟨rfl, rfl⟩

theorem clone_empty (x : Addr) (cap : Nat) (w : World) : Calls Try.prog 23 #[.slice (some x) 0 cap] w fun e w' => e = .returned (.slice (some ⟨w.heap.size, 0, none⟩) 0 0) ∧ Below w.heap.size w w' := by
  obtain ⟨i0, hi, hz0, hz1, hz2⟩ := info_parts Try.info2
  have q44 : ∀ (w : World) (a : Option Addr) (n c n' c' : Nat), (binOp .eql 44 (.slice a n c) (.slice none n' c')).run Try.prog w = .ok (.bool a.isNone) w := fun w a n c n' c' => Lib.run_eql_slice_nil w _ _ a n c n' c' Try.underlying44
  go_enter Try.func23, Try.ntmps23
  go_wp2_with (first | (at_make; refine wpList_make_full _ rfl _ _ 44 rfl w.heap.size 2 i0 (.int .i64 0) 1 Try.underlying44 hi hz0 hz1 _ _ _ _ 0 rfl rfl rfl rfl (by rw [hz2]; omega) (by unfold maxLen; omega) (Nat.le_refl _) ?_))
  intro w1 hown hgrow
  have hb1 : Below w.heap.size w w1 := (Below.refl _ _).grown hgrow (Nat.le_refl _) (by simp)
  clear hgrow hown
  go_wp2
  refine wp_loop_rounds 1 ?_; rw [rounds_succ]
  go_wp2
  go_ret
  exact ⟨rfl, hb1⟩

theorem IsRow.later {k : IntKind} {w w1 : World} {a : Option Addr} {len cap : Nat} {zs : List Int} (h : IsRow k w a len cap zs) (hb : Below w.heap.size w w1) : IsRow k w1 a len cap zs := by
  rcases h with h | ⟨x, rfl, h1, h2, h3, h4, h5⟩
  · exact .inl h
  · exact .inr ⟨x, rfl, h1, h2, h3, fun i hi => cell_later hb (h4 i hi), h5⟩

/-- zzCloneI64: a fresh copy of the elements. -/
theorem clone_any (a : Option Addr) (len cap : Nat) (zs : List Int) (w : World) (hl : len ≤ 4096) (h : IsRow .i64 w a len cap zs) :
    Calls Try.prog 23 #[.slice a len cap] w fun e w' => ∃ a', e = .returned (.slice a' len len) ∧ IsRow .i64 w' a' len len (zs.take len) ∧ Below w.heap.size w w' := by
  rcases h with ⟨rfl, rfl, rfl, rfl⟩ | ⟨x, rfl, h1, h2, h3, h4, h5⟩
  · refine (clone_nil w).mono ?_
    rintro e w' ⟨rfl, rfl⟩
    exact ⟨none, rfl, .inl ⟨rfl, rfl, rfl, rfl⟩, Below.refl _ _⟩
  · by_cases h0 : len = 0
    · subst h0
      refine (clone_empty x cap w).mono ?_
      rintro e w' ⟨rfl, hb⟩
      exact ⟨_, rfl, .inr ⟨_, rfl, Nat.le_refl _, by unfold maxLen; omega, rfl, by simp, by simp⟩, hb⟩
    · obtain ⟨b, off, sp⟩ := x
      have hsp : sp = none := by simpa [Addr.add] using World.cell?_spot (h4 0 (by omega))
      subst hsp
      refine (clone_some b off len cap zs w hl (by omega) (fun i hi => by rw [← Addr.add_lit]; exact h4 i hi)).mono ?_
      rintro e w' ⟨rfl, hown, hb⟩
      refine ⟨_, rfl, .inr ⟨_, rfl, Nat.le_refl _, by unfold maxLen; omega, by simp; omega, ?_, ?_⟩, hb⟩
      · intro i hi
        have hi' : i < len := by simp at hi; omega
        rw [Addr.add_lit, Nat.zero_add, hown.cellAt i (by omega)]
        simp [hi', show i < zs.length by omega, List.getD]
      · intro n hn; exact h5 n (List.mem_of_mem_take hn)

end Go.Proofs.Qxb6003230a.Cap
