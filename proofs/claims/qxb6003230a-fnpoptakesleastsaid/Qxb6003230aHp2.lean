import Derived.Test.Qxb6003230aHp1
namespace Go.Proofs.Qxb6003230a.Hp
open Go.RowKit

/-- The event order: tick, then kind, then seq. -/
def bef (a b : E) : Bool := if a.tick = b.tick then (if a.kind = b.kind then decide (a.seq < b.seq) else decide (a.kind < b.kind)) else decide (a.tick < b.tick)

/-- The full order. -/
def les (a b : E) : Bool :=
  if a.tick = b.tick then if a.kind = b.kind then if a.seq = b.seq then if a.bid = b.bid then if a.task = b.task then if a.con = b.con then decide (a.perf < b.perf)
    else decide (a.con < b.con) else decide (a.task < b.task) else decide (a.bid < b.bid) else decide (a.seq < b.seq) else decide (a.kind < b.kind) else decide (a.tick < b.tick)

theorem ret_bool {a b : Bool} (h : a = b) : Ending.returned (.bool a) = .returned (.bool b) := by rw [h]

set_option maxHeartbeats 1000000 in
theorem zzBefore_any (a b : E) (w : World) : Calls Try.prog 13 #[a.val, b.val] w fun r w' => r = .returned (.bool (bef a b)) ∧ Below w.heap.size w w' := by
  obtain ⟨a1, a2, a3, a4, a5, a6, a7⟩ := a
  obtain ⟨b1, b2, b3, b4, b5, b6, b7⟩ := b
  unfold E.val bef
  simp only
  by_cases h1 : a1 = b1
  · subst h1
    by_cases h2 : a6 = b6
    · subst h2
      go_enter Try.func13, Try.ntmps13
      go_wp2
      go_ret
      exact ⟨ret_bool (by simp), ((Below.refl _ _).alloc (Nat.le_refl _) _).alloc (by simp) _⟩
    · have h2' : (a6 != b6) = true := by simpa using h2
      go_enter Try.func13, Try.ntmps13
      go_wp2
      go_ret
      exact ⟨ret_bool (by simp), ((Below.refl _ _).alloc (Nat.le_refl _) _).alloc (by simp) _⟩
  · have h1' : (a1 != b1) = true := by simpa using h1
    go_enter Try.func13, Try.ntmps13
    go_wp2
    go_ret
    exact ⟨ret_bool (by simp), ((Below.refl _ _).alloc (Nat.le_refl _) _).alloc (by simp) _⟩

set_option maxHeartbeats 2000000 in
theorem less_any (a b : E) (w : World) : Calls Try.prog 30 #[a.val, b.val] w fun r w' => r = .returned (.bool (les a b)) ∧ Below w.heap.size w w' := by
  obtain ⟨a1, a2, a3, a4, a5, a6, a7⟩ := a
  obtain ⟨b1, b2, b3, b4, b5, b6, b7⟩ := b
  unfold E.val les
  simp only
  by_cases h1 : a1 = b1
  · subst h1
    by_cases h6 : a6 = b6
    · subst h6
      by_cases h2 : a2 = b2
      · subst h2
        by_cases h3 : a3 = b3
        · subst h3
          by_cases h4 : a4 = b4
          · subst h4
            by_cases h5 : a5 = b5
            · subst h5
              go_enter Try.func30, Try.ntmps30
              go_wp2
              go_ret
              exact ⟨ret_bool (by simp), ((Below.refl _ _).alloc (Nat.le_refl _) _).alloc (by simp) _⟩
            · have h5' : (a5 != b5) = true := by simpa using h5
              go_enter Try.func30, Try.ntmps30
              go_wp2
              go_ret
              exact ⟨ret_bool (by simp), ((Below.refl _ _).alloc (Nat.le_refl _) _).alloc (by simp) _⟩
          · have h4' : (a4 != b4) = true := by simpa using h4
            go_enter Try.func30, Try.ntmps30
            go_wp2
            go_ret
            exact ⟨ret_bool (by simp), ((Below.refl _ _).alloc (Nat.le_refl _) _).alloc (by simp) _⟩
        · have h3' : (a3 != b3) = true := by simpa using h3
          go_enter Try.func30, Try.ntmps30
          go_wp2
          go_ret
          exact ⟨ret_bool (by simp), ((Below.refl _ _).alloc (Nat.le_refl _) _).alloc (by simp) _⟩
      · have h2' : (a2 != b2) = true := by simpa using h2
        go_enter Try.func30, Try.ntmps30
        go_wp2
        go_ret
        exact ⟨ret_bool (by simp), ((Below.refl _ _).alloc (Nat.le_refl _) _).alloc (by simp) _⟩
    · have h6' : (a6 != b6) = true := by simpa using h6
      go_enter Try.func30, Try.ntmps30
      go_wp2
      go_ret
      exact ⟨ret_bool (by simp), ((Below.refl _ _).alloc (Nat.le_refl _) _).alloc (by simp) _⟩
  · have h1' : (a1 != b1) = true := by simpa using h1
    go_enter Try.func30, Try.ntmps30
    go_wp2
    go_ret
    exact ⟨ret_bool (by simp), ((Below.refl _ _).alloc (Nat.le_refl _) _).alloc (by simp) _⟩

/-- The seven cells of the event at place 'off' of block 'g'. -/
structure At (w : World) (g off : Nat) (e : E) : Prop where
  c0 : w.cell? ⟨g, off, none⟩ = some (.int .i64 e.tick)
  c1 : w.cell? ⟨g, off + 1, none⟩ = some (.int .u64 e.seq)
  c2 : w.cell? ⟨g, off + 2, none⟩ = some (.int .i64 e.bid)
  c3 : w.cell? ⟨g, off + 3, none⟩ = some (.int .i32 e.task)
  c4 : w.cell? ⟨g, off + 4, none⟩ = some (.int .i32 e.con)
  c5 : w.cell? ⟨g, off + 5, none⟩ = some (.int .u8 e.kind)
  c6 : w.cell? ⟨g, off + 6, none⟩ = some (.int .i64 e.perf)

set_option maxHeartbeats 2000000 in
theorem before_any (a b : E) (g o p : Nat) (w : World) (ha : At w g o a) (hb : At w g p b) : Calls Try.prog 32 #[.pointer (some ⟨g, o, none⟩), .pointer (some ⟨g, p, none⟩)] w fun r w' => r = .returned (.bool (bef a b)) ∧ ∃ n, w.drewN n = w' := by
  obtain ⟨a1, a2, a3, a4, a5, a6, a7⟩ := a
  obtain ⟨b1, b2, b3, b4, b5, b6, b7⟩ := b
  obtain ⟨p0, p1, _, _, _, p5, _⟩ := ha
  obtain ⟨q0, q1, _, _, _, q5, _⟩ := hb
  simp only at p0 p1 p5 q0 q1 q5
  unfold bef
  simp only
  by_cases h1 : a1 = b1
  · subst h1
    by_cases h2 : a6 = b6
    · subst h2
      go_enter Try.func32, Try.ntmps32
      go_wp2
      go_quiet (fail)
      go_wp2
      go_quiet (fail)
      go_wp2
      go_quiet (fail)
      go_wp2
      go_ret
      exact ⟨ret_bool (by simp), _, rfl⟩
    · have h2' : (a6 != b6) = true := by simpa using h2
      go_enter Try.func32, Try.ntmps32
      go_wp2
      go_quiet (fail)
      go_wp2
      go_quiet (fail)
      go_wp2
      go_quiet (fail)
      go_wp2
      go_ret
      exact ⟨ret_bool (by simp), _, rfl⟩
  · have h1' : (a1 != b1) = true := by simpa using h1
    go_enter Try.func32, Try.ntmps32
    go_wp2
    go_quiet (fail)
    go_wp2
    go_quiet (fail)
    go_wp2
    go_ret
    exact ⟨ret_bool (by simp), _, rfl⟩
end Go.Proofs.Qxb6003230a.Hp
