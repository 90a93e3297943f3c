import Derived.Test.Qxb6003230aRows
import Derived.WalkKit
import Derived.WalkSpells
import Derived.WalkLawsBesides
import Derived.Below
import Derived.Deep.QuietTactic
import Derived.BigQuiet
import Derived.BigRegion
import Derived.ChangeAlike
namespace Go.Proofs.Qxb6003230a.Hp
open Go.RowKit

/-- An event, as plain numbers. -/
structure E where
  tick : Int
  seq : Int
  bid : Int
  task : Int
  con : Int
  kind : Int
  perf : Int

def E.cells (e : E) : List Value := [.int .i64 e.tick, .int .u64 e.seq, .int .i64 e.bid, .int .i32 e.task, .int .i32 e.con, .int .u8 e.kind, .int .i64 e.perf]
def E.val (e : E) : Value := .agg #[.int .i64 e.tick, .int .u64 e.seq, .int .i64 e.bid, .int .i32 e.task, .int .i32 e.con, .int .u8 e.kind, .int .i64 e.perf]

theorem Try.info35 : (Try.prog.info? 35).map (fun i => (i.zero, i.size, i.bytes)) = some (some (.agg #[.int .i64 0, .int .u64 0, .int .i64 0, .int .i32 0, .int .i32 0, .int .u8 0, .int .i64 0]), 7, 48) := by kernel_rfl
theorem Try.info32 : (Try.prog.info? 32).map (fun i => (i.zero, i.size, i.bytes)) = some (some (.agg #[.int .i64 0, .int .u64 0, .int .i64 0, .int .i32 0, .int .i32 0, .int .u8 0, .int .i64 0]), 7, 48) := by kernel_rfl

set_option maxHeartbeats 400000 in
theorem make_any (a b c d e f g : Int) (w : World) :
    Calls Try.prog 27 #[.int .i64 a, .int .u64 b, .int .i64 c, .int .i32 d, .int .i32 e, .int .u8 f, .int .i64 g] w fun r w' =>
      r = .returned (.agg #[.int .i64 a, .int .u64 b, .int .i64 c, .int .i32 d, .int .i32 e, .int .u8 f, .int .i64 g]) ∧ w.alloc (.cells #[.int .i64 a, .int .u64 b, .int .i64 c, .int .i32 d, .int .i32 e, .int .u8 f, .int .i64 g] 32) = w' := by
  go_enter Try.func27, Try.ntmps27
  go_wp2
  exact bodyPost_ret (v := .agg #[.int .i64 a, .int .u64 b, .int .i64 c, .int .i32 d, .int .i32 e, .int .u8 f, .int .i64 g]) (by simp [results, Try.results27, go_sem]) rfl ⟨rfl, rfl⟩

set_option maxHeartbeats 400000 in
theorem fields_any (a b c d e f g : Int) (w : World) :
    Calls Try.prog 28 #[.agg #[.int .i64 a, .int .u64 b, .int .i64 c, .int .i32 d, .int .i32 e, .int .u8 f, .int .i64 g]] w fun r w' =>
      r = .returned (.tuple #[.int .i64 a, .int .u64 b, .int .i64 c, .int .i32 d, .int .i32 e, .int .u8 f, .int .i64 g]) ∧ ∃ n, (w.alloc (.cells #[.int .i64 a, .int .u64 b, .int .i64 c, .int .i32 d, .int .i32 e, .int .u8 f, .int .i64 g] 32)).drewN n = w' := by
  go_enter Try.func28, Try.ntmps28
  go_wp2
  go_quiet (fail)
  go_wp2
  exact bodyPost_ret (v := .tuple #[.int .i64 a, .int .u64 b, .int .i64 c, .int .i32 d, .int .i32 e, .int .u8 f, .int .i64 g]) (by simp [results, Try.results28, go_sem]) rfl ⟨rfl, _, rfl⟩

set_option maxHeartbeats 400000 in
theorem toSim_any (e : E) (w : World) : Calls Try.prog 10 #[e.val] w fun r w' => r = .returned e.val ∧ Below w.heap.size w w' := by
  obtain ⟨a, b, c, d, e, f, g⟩ := e
  unfold E.val
  simp only
  go_enter Try.func10, Try.ntmps10
  go_wp2_with (go_at_call 27; refine (make_any a b c d e f g _).mono ?_; rintro r w1 ⟨rfl, rfl⟩)
  exact bodyPost_ret (v := .agg #[.int .i64 a, .int .u64 b, .int .i64 c, .int .i32 d, .int .i32 e, .int .u8 f, .int .i64 g]) (by simp [results, Try.results10, go_sem]) rfl ⟨rfl, (((Below.refl _ _).alloc (Nat.le_refl _) _).alloc (by simp) _).alloc (by simp; omega) _⟩

set_option maxHeartbeats 400000 in
theorem fromSim_any (e : E) (w : World) : Calls Try.prog 11 #[e.val] w fun r w' => r = .returned e.val ∧ Below w.heap.size w w' := by
  obtain ⟨a, b, c, d, e, f, g⟩ := e
  unfold E.val
  simp only
  go_enter Try.func11, Try.ntmps11
  go_wp2_with (go_at_call 28; refine (fields_any a b c d e f g _).mono ?_; rintro r w1 ⟨rfl, n, rfl⟩)
  refine bodyPost_ret (v := .agg #[.int .i64 a, .int .u64 b, .int .i64 c, .int .i32 d, .int .i32 e, .int .u8 f, .int .i64 g]) (by simp [results, Try.results11, go_sem]) rfl ⟨rfl, ?_⟩
  refine Below.setCell ?_ (by simp) _
  refine Below.setCell ?_ (by simp) _
  refine Below.setCell ?_ (by simp) _
  refine Below.setCell ?_ (by simp) _
  refine Below.setCell ?_ (by simp) _
  refine Below.setCell ?_ (by simp) _
  refine Below.setCell ?_ (by simp) _
  exact below_drewN ((((Below.refl _ _).alloc (Nat.le_refl _) _).alloc (by simp) _).alloc (by simp; omega) _) _

end Go.Proofs.Qxb6003230a.Hp
