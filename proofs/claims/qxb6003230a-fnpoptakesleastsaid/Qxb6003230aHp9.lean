import Derived.Test.Qxb6003230aHp8
namespace Go.Proofs.Qxb6003230a.Hp
open Go.RowKit

theorem zzpop_end {w w' : World} {bq g n cap : Nat} {h' : List E} {top : E} {o : Obj} (hqlt : bq < w.heap.size) (hglt : g < w.heap.size) (h2 : Qu w' bq (some ⟨g, 0, none⟩) n cap h') (h5 : Keep (fun k => k = bq ∨ k = g) (w.alloc o) w') :
    Qu (put7 w' w.heap.size 0 top) bq (some ⟨g, 0, none⟩) n cap h' ∧ Keep (fun k => k = bq ∨ k = g) w (put7 w' w.heap.size 0 top) := by
  have k1 : Keep (fun k => k = w.heap.size) w' (put7 w' w.heap.size 0 top) := (Keep.refl _ _).put7 _ _ _ rfl
  have hne : bq ≠ w.heap.size := by omega
  have hng : g ≠ w.heap.size := by omega
  refine ⟨⟨cell_keep k1 h2.cell hne, keep_frozen k1 h2.free (World.block_lt_of_cell? _ _ h2.cell) hne, ?_, h2.ne⟩, ?_⟩
  · obtain ⟨h0, h | ⟨gg, h1, hr⟩⟩ := h2.sl
    · exact ⟨h0, .inl h⟩
    · cases h1
      exact ⟨h0, .inr ⟨g, rfl, hr.keep k1 hng⟩⟩
  · have k0 : Keep (fun k => k = bq ∨ k = g ∨ k = w.heap.size) w (put7 w' w.heap.size 0 top) :=
      ((Keep.of_below ((Below.refl _ w).alloc (Nat.le_refl _) o)).trans (h5.mono (fun k _ h => h.elim .inl (fun h => .inr (.inl h))))).put7 _ _ _ (.inr (.inr rfl))
    exact k0.mono (fun k hk h => by omega)

set_option maxHeartbeats 1000000 in
theorem zzpop_any (bq g n cap : Nat) (h : List E) (w : World) (hn : n + 1 ≤ 8193) (hq : Qu w bq (some ⟨g, 0, none⟩) (n + 1) cap h) (hh : Heap h) :
    Calls Try.prog 12 #[.pointer (some ⟨bq, 0, none⟩)] w fun r w' => r = .returned (gt h 0).val ∧ ∃ h', Qu w' bq (some ⟨g, 0, none⟩) n cap h' ∧ (gt h 0 :: h').Perm h ∧ Heap h' ∧ Keep (fun k => k = bq ∨ k = g) w w' := by
  have hb : Below w.heap.size w (w.alloc (.cells #[.int .i64 0, .int .u64 0, .int .i64 0, .int .i32 0, .int .i32 0, .int .u8 0, .int .i64 0] 32)) := (Below.refl _ _).alloc (Nat.le_refl _) _
  have hqlt : bq < w.heap.size := World.block_lt_of_cell? _ _ hq.cell
  obtain ⟨g', hg', hrow⟩ := hq.sl.row (by omega)
  cases hg'
  have hglt := hrow.lt
  have hq2 : Qu (w.alloc (.cells #[.int .i64 0, .int .u64 0, .int .i64 0, .int .i32 0, .int .i32 0, .int .u8 0, .int .i64 0] 32)) bq (some ⟨g, 0, none⟩) (n + 1) cap h := ⟨cell_later hb hq.cell, below_frozen hb hqlt hq.free, hq.sl.later hb, hq.ne⟩
  have hc := pop_any bq g n cap h _ hn hq2 hh
  have hk0 : ∀ j u, (w.alloc (.cells #[.int .i64 0, .int .u64 0, .int .i64 0, .int .i32 0, .int .i32 0, .int .u8 0, .int .i64 0] 32)).cell? ⟨w.heap.size, j, none⟩ = some u → ∀ w', Keep (fun k => k = bq ∨ k = g) (w.alloc (.cells #[.int .i64 0, .int .u64 0, .int .i64 0, .int .i32 0, .int .i32 0, .int .u8 0, .int .i64 0] 32)) w' → w'.cell? ⟨w.heap.size, j, none⟩ = some u := fun j u hu w' hk => cell_keep hk hu (by show ¬ (w.heap.size = bq ∨ w.heap.size = g); omega)
  have hfr : ∀ j, ∀ w', Keep (fun k => k = bq ∨ k = g) (w.alloc (.cells #[.int .i64 0, .int .u64 0, .int .i64 0, .int .i32 0, .int .i32 0, .int .u8 0, .int .i64 0] 32)) w' → w'.frozen? ⟨w.heap.size, j, none⟩ = false := fun j w' hk => keep_frozen hk (by simp [go_sem]) (by simp) (by show ¬ (w.heap.size = bq ∨ w.heap.size = g); omega)
  clear hq hq2
  unfold E.val at hc ⊢
  go_enter Try.func12, Try.ntmps12
  go_wp2_with fail
  refine hc.mono ?_
  rintro r w' ⟨rfl, h', h2, h3, h4, h5⟩
  have e0 := hk0 0 (.int .i64 0) (by simp [go_sem]) w' h5
  have e1 := hk0 1 (.int .u64 0) (by simp [go_sem]) w' h5
  have e2 := hk0 2 (.int .i64 0) (by simp [go_sem]) w' h5
  have e3 := hk0 3 (.int .i32 0) (by simp [go_sem]) w' h5
  have e4 := hk0 4 (.int .i32 0) (by simp [go_sem]) w' h5
  have e5 := hk0 5 (.int .u8 0) (by simp [go_sem]) w' h5
  have e6 := hk0 6 (.int .i64 0) (by simp [go_sem]) w' h5
  have ef := fun j => hfr j w' h5
  clear hc hk0 hfr
  have HE := zzpop_end hqlt hglt h2 h5 (top := gt h 0)
  unfold put7 at HE
  simp only [Nat.zero_add] at HE
  have HF : Hid _ := HE
  clear HE
  go_wp2
  exact bodyPost_ret (v := .agg #[.int .i64 (gt h 0).tick, .int .u64 (gt h 0).seq, .int .i64 (gt h 0).bid, .int .i32 (gt h 0).task, .int .i32 (gt h 0).con, .int .u8 (gt h 0).kind, .int .i64 (gt h 0).perf]) (by simp [results, Try.results12, go_sem, e0, e1, e2, e3, e4, e5, e6]) rfl ⟨rfl, h', HF.out.1, h3, h4, HF.out.2⟩
end Go.Proofs.Qxb6003230a.Hp
