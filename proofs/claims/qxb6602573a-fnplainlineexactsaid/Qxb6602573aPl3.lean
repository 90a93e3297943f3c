import Derived.Test.Qxb6602573aPl2
set_option linter.unusedVariables false
namespace Go.Proofs.Qxb6602573a.Pl
open Go.RowKit

/-- The parser's four fields that count, in the block b. -/
structure Ps (w : World) (b : Nat) (s : ByteArray) (pos line ls : Int) : Prop where
  c0 : w.cell? ⟨b, 0, none⟩ = some (.string s)
  c1 : w.cell? ⟨b, 1, none⟩ = some (.int .i64 pos)
  c2 : w.cell? ⟨b, 2, none⟩ = some (.int .i64 line)
  c3 : w.cell? ⟨b, 3, none⟩ = some (.int .i64 ls)
  free : w.frozen? ⟨b, 1, none⟩ = false

theorem atEnd_any (b : Nat) (s : ByteArray) (pos : Nat) (hs : s.size ≤ 1048576) (hp : pos ≤ s.size) (w : World) (c0 : w.cell? ⟨b, 0, none⟩ = some (.string s)) (c1 : w.cell? ⟨b, 1, none⟩ = some (.int .i64 (pos : Int))) :
    Calls Try.prog 14 #[.pointer (some ⟨b, 0, none⟩)] w fun e w' => e = .returned (.bool (decide (s.size ≤ pos))) ∧ ∃ k, w' = w.drewN k := by
  go_enter Try.func14, Try.ntmps14
  go_wp2
  go_quiet (fail)
  go_wp2
  go_ret
  exact ⟨ret_bool (by simp), _, rfl⟩

theorem at_any (b : Nat) (s : ByteArray) (pos j : Nat) (hs : s.size ≤ 1048576) (hp : pos ≤ s.size) (hj : j ≤ 1) (w : World) (c0 : w.cell? ⟨b, 0, none⟩ = some (.string s)) (c1 : w.cell? ⟨b, 1, none⟩ = some (.int .i64 (pos : Int))) :
    Calls Try.prog 18 #[.pointer (some ⟨b, 0, none⟩), .int .i64 (j : Int)] w fun e w' => e = .returned (.int .u8 (ch s (pos + j))) ∧ ∃ k, w' = w.drewN k := by
  have hb := ch_at s
  by_cases h : pos + j < s.size
  · go_enter Try.func18, Try.ntmps18
    go_wp2
    go_quiet (fail)
    go_wp2
    go_quiet (fail)
    go_wp2
    go_ret
    exact ⟨rfl, _, World.drewN_drewN ..⟩
  · have hn : ch s (pos + j) = 0 := ch_end s (by omega)
    go_enter Try.func18, Try.ntmps18
    go_wp2
    go_quiet (fail)
    go_wp2
    go_ret
    exact ⟨ret_int hn.symm, _, rfl⟩

theorem peek_any (b : Nat) (s : ByteArray) (pos : Nat) (hs : s.size ≤ 1048576) (hp : pos ≤ s.size) (w : World) (c0 : w.cell? ⟨b, 0, none⟩ = some (.string s)) (c1 : w.cell? ⟨b, 1, none⟩ = some (.int .i64 (pos : Int))) :
    Calls Try.prog 15 #[.pointer (some ⟨b, 0, none⟩)] w fun e w' => e = .returned (.int .u8 (ch s pos)) ∧ ∃ k, w' = w.drewN k := by
  have hc := at_any b s pos 0 hs hp (by omega) w c0 c1
  go_enter Try.func15, Try.ntmps15
  go_wp2_with fail
  refine hc.mono ?_
  rintro e w' ⟨rfl, k, rfl⟩
  go_wp2
  go_ret
  exact ⟨rfl, k, rfl⟩

theorem Ps.drewN {w : World} {b : Nat} {s : ByteArray} {pos line ls : Int} (h : Ps w b s pos line ls) (k : Nat) : Ps (w.drewN k) b s pos line ls := ⟨h.c0, h.c1, h.c2, h.c3, h.free⟩
theorem Ps.lt {w : World} {b : Nat} {s : ByteArray} {pos line ls : Int} (h : Ps w b s pos line ls) : b < w.heap.size := World.block_lt_of_cell? _ _ h.c0
theorem Ps.set {w : World} {b : Nat} {s : ByteArray} {pos line ls : Int} (h : Ps w b s pos line ls) (p : Int) : Ps (w.setCell ⟨b, 1, none⟩ (.int .i64 p)) b s p line ls := by
  refine ⟨?_, ?_, ?_, ?_, ?_⟩
  · have := h.c0; simp [go_sem, this]
  · have := h.c1; simp [go_sem, this]
  · have := h.c2; simp [go_sem, this]
  · have := h.c3; simp [go_sem, this]
  · rw [World.frozen?_setCell]; exact h.free

/-- How far the line has been read: up to i; what counts of it: up to e. -/
structure Inv (s : ByteArray) (st i e : Nat) (fl : Bool) : Prop where
  h1 : st ≤ e
  h2 : e ≤ i
  h3 : i ≤ s.size
  no : ∀ j, st ≤ j → j < i → ends s j st fl = false
  bl : ∀ j, e ≤ j → j < i → blk (ch s j) = true
  nb : e = st ∨ blk (ch s (e - 1)) = false
theorem Inv.start {s : ByteArray} {st : Nat} {fl : Bool} (h : st ≤ s.size) : Inv s st st st fl :=
  ⟨Nat.le_refl _, Nat.le_refl _, h, fun j _ _ => by omega, fun j _ _ => by omega, .inl rfl⟩
theorem Inv.blank {s : ByteArray} {st i e : Nat} {fl : Bool} (h : Inv s st i e fl) (hi : i < s.size) (he : ends s i st fl = false) (hb : blk (ch s i) = true) : Inv s st (i + 1) e fl :=
  ⟨h.h1, by have := h.h2; omega, hi, fun j j1 j2 => by
    by_cases hj : j = i
    · rw [hj]; exact he
    · exact h.no j j1 (by omega), fun j j1 j2 => by
    by_cases hj : j = i
    · rw [hj]; exact hb
    · exact h.bl j j1 (by omega), h.nb⟩
theorem Inv.solid {s : ByteArray} {st i e : Nat} {fl : Bool} (h : Inv s st i e fl) (hi : i < s.size) (he : ends s i st fl = false) (hb : blk (ch s i) = false) : Inv s st (i + 1) (i + 1) fl :=
  ⟨by have := h.h1; have := h.h2; omega, Nat.le_refl _, hi, fun j j1 j2 => by
    by_cases hj : j = i
    · rw [hj]; exact he
    · exact h.no j j1 (by omega), fun j j1 j2 => by omega, .inr hb⟩

def X (s : ByteArray) (i : Nat) (fl : Bool) : Bool := brk (ch s i) || (ch s i == 58 && (spc (ch s (i + 1)) || (fl && fli (ch s (i + 1)))))
def Y (s : ByteArray) (i st : Nat) (fl : Bool) : Bool := (ch s i == 35 && decide (st < i) && blk (ch s (i - 1))) || (fl && fli (ch s i))
theorem ends_is (s : ByteArray) (i st : Nat) (fl : Bool) : ends s i st fl = (X s i fl || Y s i st fl) := rfl

theorem Grown.drewN {W w' : World} (h : Grown W w') (n : Nat) : Grown W (w'.drewN n) := h
end Go.Proofs.Qxb6602573a.Pl
