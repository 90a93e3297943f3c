import Derived.Test.Qxb6003230aHp3
namespace Go.Proofs.Qxb6003230a.Hp
open Go.RowKit

theorem rep_get {α : Type} (l : List α) (n j : Nat) : ((List.replicate n l).flatten)[j]? = if j < n * l.length then l[j % l.length]? else none := by
  induction n generalizing j with
  | zero => simp
  | succ n ih =>
    rw [List.replicate_succ, List.flatten_cons]
    by_cases hj : j < l.length
    · rw [List.getElem?_append_left hj, if_pos (by rw [Nat.succ_mul]; omega), Nat.mod_eq_of_lt hj]
    · rw [List.getElem?_append_right (by omega), ih, Nat.mod_eq_sub_mod (by omega : j ≥ l.length)]
      by_cases h : j < (n + 1) * l.length
      · rw [if_pos h, if_pos (by rw [Nat.succ_mul] at h; omega)]
      · rw [if_neg h, if_neg (by rw [Nat.succ_mul] at h; omega)]

theorem made_flat (z : List Value) (n : Nat) (h0 : 0 < z.length) : (madeCells z.toArray (n * z.length)).toList = (List.replicate n z).flatten := by
  apply List.ext_getElem?
  intro j
  rw [rep_get]
  by_cases hj : j < n * z.length
  · have hm : j % z.length < z.length := Nat.mod_lt _ h0
    simp [madeCells, hj, hm]
  · simp [madeCells, hj]

def E0 : E := ⟨0, 0, 0, 0, 0, 0, 0⟩

theorem ev_made (n : Nat) : (madeCells #[.int .i64 0, .int .u64 0, .int .i64 0, .int .i32 0, .int .i32 0, .int .u8 0, .int .i64 0] (n * 7)).toList = evCells (List.replicate n E0) := by
  have := made_flat E0.cells n (by simp [E.cells])
  refine this.trans ?_
  unfold evCells
  rw [List.flatMap_def, List.map_replicate]

/-- A row out of 'make'. -/
theorem row_made {w : World} {B : Nat} {T : TypeId} {g n : Nat} {l : List E} (hl : l.length = n) (h : w.ownsRow B T 7 (.slice (some ⟨g, 0, none⟩) n n) n (evCells l)) : Row w T g n l := by
  rcases h.2 with ⟨h', _⟩ | ⟨g', cap', cur, h', _, hg, hle, hmx, hcs, htake⟩
  · simp at h'
  · simp only [Value.slice.injEq, Option.some.injEq, Addr.mk.injEq, and_true, true_and] at h'
    obtain ⟨rfl, rfl⟩ := h'
    exact ⟨⟨cur, hg, hcs, by rw [hl]; exact htake⟩, by omega, hmx⟩

/-- What came in: the events of the slice. -/
def In (w : World) (a : Option Addr) (l : List E) : Prop := ∀ (i : Nat) (h : i < l.length), ∃ b off, a = some ⟨b, off, none⟩ ∧ At w b (off + i * 7) l[i]

theorem At.later {w w' : World} {g o : Nat} {e : E} (h : At w g o e) (hb : Below w.heap.size w w') : At w' g o e :=
  ⟨cell_later hb h.c0, cell_later hb h.c1, cell_later hb h.c2, cell_later hb h.c3, cell_later hb h.c4, cell_later hb h.c5, cell_later hb h.c6⟩

/-- What is owned while the copying goes on. -/
def cp (l : List E) (k : Nat) : List E := l.take k ++ List.replicate (l.length - k) E0
theorem cp_zero (l : List E) : cp l 0 = List.replicate l.length E0 := by simp [cp]
theorem cp_len (l : List E) (k : Nat) (hk : k ≤ l.length) : (cp l k).length = l.length := by simp [cp]; omega
theorem cp_set (l : List E) (k : Nat) (hk : k < l.length) : (cp l k).set k l[k] = cp l (k + 1) := by
  unfold cp
  have e : List.replicate (l.length - k) E0 = E0 :: List.replicate (l.length - (k + 1)) E0 := by rw [show l.length - k = (l.length - (k + 1)) + 1 from by omega, List.replicate_succ]
  have hl : (l.take k).length = k := by simp; omega
  rw [e, List.set_append_right _ _ (by omega), hl, Nat.sub_self, List.set_cons_zero, List.take_succ_eq_append_getElem hk]
  simp only [List.append_assoc, List.singleton_append]
theorem cp_end (l : List E) : cp l l.length = l := by simp [cp]

set_option maxHeartbeats 1000000 in
theorem clone_some (x : Addr) (n cap : Nat) (l : List E) (w : World) (hn : n ≤ 4096) (hl : n = l.length) (hin : In w (some x) l) :
    Calls Try.prog 8 #[.slice (some x) n cap] w fun e w' => e = .returned (.slice (some ⟨w.heap.size, 0, none⟩) n n) ∧ Row w' 35 w.heap.size n l ∧ Below w.heap.size w w' := by
  obtain ⟨i0, hi, hz0, hz1, hz2⟩ := info_parts Try.info35
  have q22 : ∀ (w : World) (a : Option Addr) (n c n' c' : Nat), (binOp .eql 22 (.slice a n c) (.slice none n' c')).run Try.prog w = .ok (.bool a.isNone) w := fun w a n c n' c' => Lib.run_eql_slice_nil w _ _ a n c n' c' Try.underlying22
  have HL : Hid (n = l.length) := hl
  clear hl
  go_enter Try.func8, Try.ntmps8
  go_wp2_with (first | (at_make; refine wpList_make_full _ rfl _ _ 22 rfl w.heap.size 35 i0 _ 7 Try.underlying22 hi hz0 hz1 _ _ _ _ n rfl rfl rfl rfl (by rw [hz2]; omega) (by unfold maxLen; omega) (Nat.le_refl _) ?_))
  intro w1 hown hgrow
  rw [ev_made] at hown
  have hrow : Row w1 35 w.heap.size n (cp l 0) := by rw [cp_zero, ← HL.out]; exact row_made (by simp) hown
  have hb1 : Below w.heap.size w w1 := (Below.refl _ _).grown hgrow (Nat.le_refl _) (by simp)
  clear hgrow hown hz0 hz1 hz2 hi
  go_wp2
  go_loopw [4] (fun i wr => ∃ k : Nat, k ≤ n ∧ i = .int .i64 k ∧ Row wr 35 w.heap.size n (cp l k) ∧ Below w.heap.size w wr) (fun i _ => n - (intOf i).toNat)
  case atStart => exact ⟨0, Nat.zero_le _, rfl, hrow, hb1⟩
  case round =>
    clear hrow hb1
    obtain ⟨k, hk, rfl, hrow, hnx⟩ := hrel
    by_cases hlt : k < n
    · have hlk : k < l.length := by rw [← HL.out]; exact hlt
      obtain ⟨b, off, hx, hat⟩ := hin k hlk
      cases hx
      obtain ⟨p0, p1, p2, p3, p4, p5, p6⟩ := hat.later hnx
      have hle : k < (cp l k).length := by rw [cp_len _ _ (by omega)]; exact hlk
      have hst := hrow.store k hle l[k]
      rw [cp_set _ _ hlk] at hst
      have hkp : Below w.heap.size w (put7 wr w.heap.size (k * 7) l[k]) := hnx.trans ((Keep.put7 (S := fun j => j = w.heap.size) (.refl _ wr) _ _ _ rfl).below hnx.size (fun j hj => by omega))
      obtain ⟨t0, t1, t2, t3, t4, t5, t6⟩ := hrow.at k hle
      have hf := hrow.free
      generalize l[k] = e at *
      go_wp2
      go_roundw
      case rel => exact ⟨k + 1, by omega, by go_num, hst, hkp⟩
      case measure => simp [intOf]; omega
    · have : k = n := by omega
      subst this
      have hrow' : Row wr 35 w.heap.size k l := by have h := hrow; rw [HL.out, cp_end, ← HL.out] at h; exact h
      clear hrow
      go_wp2
      go_ret
      exact ⟨rfl, hrow', hnx⟩

theorem clone_nil (w : World) : Calls Try.prog 8 #[.slice none 0 0] w fun e w' => e = .returned (.slice none 0 0) ∧ w' = w := by
  have q22 : ∀ (w : World) (a : Option Addr) (n c n' c' : Nat), (binOp .eql 22 (.slice a n c) (.slice none n' c')).run Try.prog w = .ok (.bool a.isNone) w := fun w a n c n' c' => Lib.run_eql_slice_nil w _ _ a n c n' c' Try.underlying22
  go_enter Try.func8, Try.ntmps8
  go_wp2
  go_ret
  exact ⟨rfl, rfl⟩

/-- A slice of events of the call's own: nil, or at the head of a row. -/
def Sl (w : World) (T : TypeId) (a : Option Addr) (n c : Nat) (l : List E) : Prop :=
  l.length = n ∧ ((a = none ∧ n = 0 ∧ c = 0) ∨ ∃ g, a = some ⟨g, 0, none⟩ ∧ Row w T g c l)

theorem Sl.later {w w' : World} {T : TypeId} {a : Option Addr} {n c : Nat} {l : List E} (h : Sl w T a n c l) (hb : Below w.heap.size w w') : Sl w' T a n c l := by
  obtain ⟨h0, h | ⟨g, h1, h2⟩⟩ := h
  · exact ⟨h0, .inl h⟩
  · exact ⟨h0, .inr ⟨g, h1, h2.later hb⟩⟩

theorem Sl.row {w : World} {T : TypeId} {a : Option Addr} {n c : Nat} {l : List E} (h : Sl w T a n c l) (hn : 0 < n) : ∃ g, a = some ⟨g, 0, none⟩ ∧ Row w T g c l := by
  obtain ⟨h0, h | h⟩ := h
  · omega
  · exact h

theorem Sl.mk {w : World} {T : TypeId} {g n c : Nat} {l : List E} (h : Row w T g c l) (hl : l.length = n) : Sl w T (some ⟨g, 0, none⟩) n c l := ⟨hl, .inr ⟨g, rfl, h⟩⟩

/-- zzCloneEvs. -/
theorem clone_any (a : Option Addr) (n cap : Nat) (l : List E) (w : World) (hn : n ≤ 4096) (hl : l.length = n) (hnil : a = none → n = 0 ∧ cap = 0) (hin : In w a l) :
    Calls Try.prog 8 #[.slice a n cap] w fun e w' => ∃ a', e = .returned (.slice a' n n) ∧ Sl w' 35 a' n n l ∧ Below w.heap.size w w' ∧ ∀ g, a' = some ⟨g, 0, none⟩ → w.heap.size ≤ g := by
  cases a with
  | none =>
    obtain ⟨rfl, rfl⟩ := hnil rfl
    refine (clone_nil w).mono ?_
    rintro e w' ⟨rfl, rfl⟩
    exact ⟨none, rfl, ⟨hl, .inl ⟨rfl, rfl, rfl⟩⟩, Below.refl _ _, by simp⟩
  | some x =>
    refine (clone_some x n cap l w hn hl.symm hin).mono ?_
    rintro e w' ⟨rfl, hr, hb⟩
    exact ⟨_, rfl, .mk hr hl, hb, fun g hg => by cases hg; exact Nat.le_refl _⟩
end Go.Proofs.Qxb6003230a.Hp
