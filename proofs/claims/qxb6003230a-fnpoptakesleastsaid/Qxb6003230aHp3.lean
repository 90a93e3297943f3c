import Derived.Test.Qxb6003230aHp2
namespace Go.Proofs.Qxb6003230a.Hp
open Go.RowKit

def evCells (l : List E) : List Value := l.flatMap E.cells

theorem ev_cons (e : E) (l : List E) : evCells (e :: l) = e.cells ++ evCells l := rfl
theorem ev_app (l m : List E) : evCells (l ++ m) = evCells l ++ evCells m := by simp [evCells]
theorem cells_len (e : E) : e.cells.length = 7 := rfl
theorem ev_len (l : List E) : (evCells l).length = l.length * 7 := by
  induction l with
  | nil => rfl
  | cons e l ih => rw [ev_cons, List.length_append, ih, cells_len, List.length_cons]; omega

theorem ev_get (l : List E) (i j : Nat) (hi : i < l.length) (hj : j < 7) : (evCells l)[i * 7 + j]? = (l[i]).cells[j]? := by
  induction l generalizing i with
  | nil => simp at hi
  | cons e l ih =>
    rw [ev_cons]
    cases i with
    | zero => rw [List.getElem?_append_left (by rw [cells_len]; omega)]; simp
    | succ i =>
      rw [List.getElem?_append_right (by rw [cells_len]; omega), cells_len, show (i + 1) * 7 + j - 7 = i * 7 + j from by omega, ih i (by simpa using hi)]
      simp

theorem ev_take (l : List E) (k : Nat) : (evCells l).take (k * 7) = evCells (l.take k) := by
  induction l generalizing k with
  | nil => simp [evCells]
  | cons e l ih =>
    cases k with
    | zero => simp [evCells]
    | succ k =>
      rw [ev_cons, List.take_succ_cons, ev_cons, List.take_append, cells_len, show (k + 1) * 7 - 7 = k * 7 from by omega, ih, List.take_of_length_le (by rw [cells_len]; omega)]

theorem ev_set (l : List E) (i : Nat) (e : E) (hi : i < l.length) : ((((((((evCells l).set (i * 7) (.int .i64 e.tick)).set (i * 7 + 1) (.int .u64 e.seq)).set (i * 7 + 2) (.int .i64 e.bid)).set (i * 7 + 3) (.int .i32 e.task)).set (i * 7 + 4) (.int .i32 e.con)).set (i * 7 + 5) (.int .u8 e.kind)).set (i * 7 + 6) (.int .i64 e.perf)) = evCells (l.set i e) := by
  induction l generalizing i with
  | nil => simp at hi
  | cons d l ih =>
    cases i with
    | zero =>
      rw [List.set_cons_zero, ev_cons, ev_cons]
      simp [E.cells]
    | succ i =>
      have := ih i (by simpa using hi)
      rw [List.set_cons_succ, ev_cons, ev_cons, ← this]
      have h7 : ∀ (X : List Value) (k : Nat) (v : Value), (d.cells ++ X).set ((i + 1) * 7 + k) v = d.cells ++ X.set (i * 7 + k) v := fun X k v => by
        rw [List.set_append_right _ _ (by rw [cells_len]; omega), cells_len, show (i + 1) * 7 + k - 7 = i * 7 + k from by omega]
      have h70 := h7 (evCells l) 0 (.int .i64 e.tick)
      simp only [Nat.add_zero] at h70
      rw [h70, h7, h7, h7, h7, h7, h7]

/-- A ROW OF EVENTS: block g of element type T, room for cap; its first events are l. -/
structure Row (w : World) (T : TypeId) (g cap : Nat) (l : List E) : Prop where
  ex : ∃ cur, w.heap[g]? = some (.cells cur T (0, 0)) ∧ cur.size = cap * 7 ∧ cur.toList.take (l.length * 7) = evCells l
  le : l.length ≤ cap
  mx : cap ≤ maxLen

theorem Row.lt {w : World} {T : TypeId} {g cap : Nat} {l : List E} (h : Row w T g cap l) : g < w.heap.size := by
  obtain ⟨cur, h1, -⟩ := h.ex
  exact (Array.getElem?_eq_some_iff.1 h1).1

theorem Row.of_block {w w' : World} {T : TypeId} {g cap : Nat} {l : List E} (h : Row w T g cap l) (hb : w'.heap[g]? = w.heap[g]?) : Row w' T g cap l := by
  obtain ⟨⟨cur, h1, h2⟩, h3, h4⟩ := h
  exact ⟨⟨cur, by rw [hb]; exact h1, h2⟩, h3, h4⟩

theorem Row.later {w w' : World} {T : TypeId} {g cap : Nat} {l : List E} (h : Row w T g cap l) (hb : Below w.heap.size w w') : Row w' T g cap l :=
  h.of_block (hb.block g h.lt)

theorem Row.take {w : World} {T : TypeId} {g cap : Nat} {l : List E} (h : Row w T g cap l) (k : Nat) : Row w T g cap (l.take k) := by
  obtain ⟨⟨cur, h1, h2, h3⟩, h4, h5⟩ := h
  refine ⟨⟨cur, h1, h2, ?_⟩, by simp; omega, h5⟩
  rw [← ev_take, ← h3, List.take_take]
  congr 1
  simp only [List.length_take]
  have : min k l.length * 7 = min (k * 7) (l.length * 7) := by omega
  rw [this]

theorem Row.cell {w : World} {T : TypeId} {g cap : Nat} {l : List E} (h : Row w T g cap l) (i j : Nat) (hi : i < l.length) (hj : j < 7) : w.cell? ⟨g, i * 7 + j, none⟩ = (l[i]).cells[j]? := by
  obtain ⟨⟨cur, h1, h2, h3⟩, h4, h5⟩ := h
  rw [cell_of_row w g (i * 7 + j) cur T (0, 0) h1, ← ev_get l i j hi hj, ← h3, List.getElem?_take, if_pos (by omega)]
  simp

theorem Row.at {w : World} {T : TypeId} {g cap : Nat} {l : List E} (h : Row w T g cap l) (i : Nat) (hi : i < l.length) : At w g (i * 7) l[i] :=
  ⟨h.cell i 0 hi (by omega), h.cell i 1 hi (by omega), h.cell i 2 hi (by omega), h.cell i 3 hi (by omega), h.cell i 4 hi (by omega), h.cell i 5 hi (by omega), h.cell i 6 hi (by omega)⟩

theorem Row.free {w : World} {T : TypeId} {g cap : Nat} {l : List E} (h : Row w T g cap l) (j : Nat) : w.frozen? ⟨g, j, none⟩ = false := by
  obtain ⟨⟨cur, h1, -⟩, -⟩ := h
  exact frozen_of_row w g j cur T h1

/-- A store of one event. -/
def put7 (w : World) (g off : Nat) (e : E) : World :=
  ((((((w.setCell ⟨g, off, none⟩ (.int .i64 e.tick)).setCell ⟨g, off + 1, none⟩ (.int .u64 e.seq)).setCell ⟨g, off + 2, none⟩ (.int .i64 e.bid)).setCell ⟨g, off + 3, none⟩ (.int .i32 e.task)).setCell ⟨g, off + 4, none⟩ (.int .i32 e.con)).setCell ⟨g, off + 5, none⟩ (.int .u8 e.kind)).setCell ⟨g, off + 6, none⟩ (.int .i64 e.perf)

theorem put7_other (w : World) (g off : Nat) (e : E) (k : Nat) (hk : k ≠ g) : (put7 w g off e).heap[k]? = w.heap[k]? := by
  unfold put7
  simp only [heap_setCell_other _ _ k _ (show k ≠ (⟨g, _, none⟩ : Addr).block from hk)]

theorem put7_size (w : World) (g off : Nat) (e : E) : (put7 w g off e).heap.size = w.heap.size := by
  unfold put7; simp

theorem Row.store {w : World} {T : TypeId} {g cap : Nat} {l : List E} (h : Row w T g cap l) (i : Nat) (hi : i < l.length) (e : E) : Row (put7 w g (i * 7) e) T g cap (l.set i e) := by
  obtain ⟨⟨cur, h1, h2, h3⟩, h4, h5⟩ := h
  refine ⟨⟨((((((cur.setIfInBounds (i * 7) (.int .i64 e.tick)).setIfInBounds (i * 7 + 1) (.int .u64 e.seq)).setIfInBounds (i * 7 + 2) (.int .i64 e.bid)).setIfInBounds (i * 7 + 3) (.int .i32 e.task)).setIfInBounds (i * 7 + 4) (.int .i32 e.con)).setIfInBounds (i * 7 + 5) (.int .u8 e.kind)).setIfInBounds (i * 7 + 6) (.int .i64 e.perf), ?_, by simpa using h2, ?_⟩, by simpa using h4, h5⟩
  · unfold put7
    exact heap_setCell_same _ g _ _ T _ (heap_setCell_same _ g _ _ T _ (heap_setCell_same _ g _ _ T _ (heap_setCell_same _ g _ _ T _ (heap_setCell_same _ g _ _ T _ (heap_setCell_same _ g _ _ T _ (heap_setCell_same w g _ cur T _ h1))))))
  · simp only [Array.toList_setIfInBounds, List.take_set, List.length_set]
    rw [h3]
    exact ev_set l i e hi

/-- THE FRAME: what was there stays, but for the blocks in S. -/
structure Keep (S : Nat → Prop) (w w' : World) : Prop where
  os : w'.os = w.os
  tape : w'.tape = w.tape
  output : w'.output = w.output
  size : w.heap.size ≤ w'.heap.size
  block : ∀ k, k < w.heap.size → ¬ S k → w'.heap[k]? = w.heap[k]?

theorem Keep.refl (S : Nat → Prop) (w : World) : Keep S w w := ⟨rfl, rfl, rfl, Nat.le_refl _, fun _ _ _ => rfl⟩
theorem Keep.trans {S : Nat → Prop} {a b c : World} (h : Keep S a b) (k : Keep S b c) : Keep S a c :=
  ⟨k.os.trans h.os, k.tape.trans h.tape, k.output.trans h.output, Nat.le_trans h.size k.size, fun i hi hs => (k.block i (Nat.lt_of_lt_of_le hi h.size) hs).trans (h.block i hi hs)⟩
theorem Keep.mono {S S' : Nat → Prop} {a b : World} (h : Keep S a b) (hs : ∀ k, k < a.heap.size → S k → S' k) : Keep S' a b :=
  ⟨h.os, h.tape, h.output, h.size, fun k hk hn => h.block k hk (fun h => hn (hs k hk h))⟩
theorem Keep.below {S : Nat → Prop} {a b : World} (h : Keep S a b) {B : Nat} (hB : B ≤ a.heap.size) (hs : ∀ k, S k → B ≤ k) : Below B a b :=
  ⟨h.os, h.tape, h.output, h.size, fun k hk => h.block k (by omega) (fun hS => by have := hs k hS; omega)⟩
theorem Keep.of_below {S : Nat → Prop} {a b : World} (h : Below a.heap.size a b) : Keep S a b := ⟨h.os, h.tape, h.output, h.size, fun k hk _ => h.block k hk⟩
theorem Keep.of_grown {S : Nat → Prop} {a b : World} {r : Option Nat} (h : a.grownBy b r) (hr : ∀ k, r = some k → S k) : Keep S a b :=
  ⟨h.os, h.tape, h.output, h.size, fun k hk hn => h.block k hk (fun e => hn (hr k e.symm))⟩
theorem Keep.drewN {S : Nat → Prop} {a b : World} (h : Keep S a b) (n : Nat) : Keep S a (b.drewN n) := h.trans ⟨rfl, rfl, rfl, Nat.le_refl _, fun _ _ _ => rfl⟩
theorem Keep.drew {S : Nat → Prop} {a b : World} (h : Keep S a b) : Keep S a b.drew := h.trans ⟨rfl, rfl, rfl, Nat.le_refl _, fun _ _ _ => rfl⟩
theorem Keep.alloc {S : Nat → Prop} {a b : World} (h : Keep S a b) (o : Obj) : Keep S a (b.alloc o) :=
  h.trans (.of_below ((Below.refl _ _).alloc (Nat.le_refl _) _))
theorem Keep.setCell {S : Nat → Prop} {a b : World} (h : Keep S a b) (p : Addr) (hp : S p.block) (u : Value) : Keep S a (b.setCell p u) :=
  h.trans ⟨rfl, rfl, rfl, by simp, fun k _ hn => heap_setCell_other b p k u (fun e => hn (e ▸ hp))⟩
theorem Keep.put7 {S : Nat → Prop} {a b : World} (h : Keep S a b) (g off : Nat) (e : E) (hg : S g) : Keep S a (put7 b g off e) :=
  ((((((h.setCell _ hg _).setCell _ hg _).setCell _ hg _).setCell _ hg _).setCell _ hg _).setCell _ hg _).setCell _ hg _
theorem Row.keep {S : Nat → Prop} {w w' : World} {T : TypeId} {g cap : Nat} {l : List E} (h : Row w T g cap l) (hk : Keep S w w') (hg : ¬ S g) : Row w' T g cap l :=
  h.of_block (hk.block g h.lt hg)
theorem cell_keep {S : Nat → Prop} {w w' : World} {p : Addr} {v : Value} (hk : Keep S w w') (h : w.cell? p = some v) (hp : ¬ S p.block) : w'.cell? p = some v :=
  (World.cell?_of_block (hk.block p.block (World.block_lt_of_cell? _ _ h) hp)).trans h

end Go.Proofs.Qxb6003230a.Hp
