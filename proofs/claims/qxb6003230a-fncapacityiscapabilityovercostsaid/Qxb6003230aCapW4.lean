import Derived.Test.Qxb6003230aCapW3
namespace Go.Proofs.Qxb6003230a.Cap
open Go.RowKit

theorem zzcap (pb g n c2 : Nat) (w : World) (R : Nat → World → Prop)
    (h : Calls Try.prog 31 #[.pointer (some ⟨pb, 0, none⟩), .slice (some ⟨g, 0, none⟩) n c2] w fun e w' => ∃ r, e = .returned (.float .f64 r) ∧ R r w') :
    Calls Try.prog 25 #[.pointer (some ⟨pb, 0, none⟩), .slice (some ⟨g, 0, none⟩) n c2] w fun e w' => ∃ r, e = .returned (.float .f64 r) ∧ R r w' := by
  go_enter Try.func25, Try.ntmps25
  go_wp2_with (go_at_call 31; refine h.mono ?_; rintro e w' ⟨r, rfl, hr⟩)
  go_ret
  exact ⟨r, rfl, hr⟩

theorem IsRow.at {k : IntKind} {w : World} {a : Option Addr} {len cap : Nat} {zs : List Int} (h : IsRow k w a len cap zs) : ∀ j, j < len → ∃ b off, a = some ⟨b, off, none⟩ ∧ w.cell? ⟨b, off + j, none⟩ = some (.int k (zs.getD j 0)) := by
  intro j hj
  rcases h with ⟨_, h0, _⟩ | ⟨x, rfl, h1, h2, h3, h4, h5⟩
  · omega
  · obtain ⟨b, off, sp⟩ := x
    have hsp : sp = none := by simpa [Addr.add] using World.cell?_spot (h4 0 (by omega))
    subst hsp
    exact ⟨b, off, rfl, by rw [← Addr.add_lit]; exact h4 j (by omega)⟩

theorem IsRow.len_le {k : IntKind} {w : World} {a : Option Addr} {len cap : Nat} {zs : List Int} (h : IsRow k w a len cap zs) : len ≤ zs.length ∧ len ≤ maxLen := by
  rcases h with ⟨_, h0, _, rfl⟩ | ⟨x, rfl, h1, h2, h3, h4, h5⟩
  · simp [h0]
  · omega

/-- An address for the whole row, where there is an element. -/
theorem IsRow.whole {k : IntKind} {w : World} {a : Option Addr} {len cap : Nat} {zs : List Int} (h : IsRow k w a len cap zs) (h0 : 0 < len) : ∃ b off, a = some ⟨b, off, none⟩ ∧ ∀ j, j < zs.length → w.cell? ⟨b, off + j, none⟩ = some (.int k (zs.getD j 0)) := by
  rcases h with ⟨_, h0, _⟩ | ⟨x, rfl, h1, h2, h3, h4, h5⟩
  · omega
  · obtain ⟨b, off, sp⟩ := x
    have hsp : sp = none := by simpa [Addr.add] using World.cell?_spot (h4 0 (by omega))
    subst hsp
    exact ⟨b, off, rfl, fun j hj => by rw [← Addr.add_lit]; exact h4 j hj⟩

/-- A row of contractors in a block of its own. -/
def IsCon (w : World) (g : Nat) (ks : List Int) : Prop := g < w.heap.size ∧ ∀ i j, i < ks.length → j < 4 → w.cell? ⟨g, i * 4 + j, none⟩ = (conC (ks.getD i 0))[j]?

theorem IsCon.later {w w1 : World} {g : Nat} {ks : List Int} (h : IsCon w g ks) (hb : Below w.heap.size w w1) : IsCon w1 g ks :=
  ⟨Nat.lt_of_lt_of_le h.1 hb.size, fun i j hi hj => (hb.cell (p := ⟨g, i * 4 + j, none⟩) h.1).trans (h.2 i j hi hj)⟩

theorem IsCon.of_owns {w : World} {B g n : Nat} {ks : List Int} (h : w.ownsRow B 61 4 (.slice (some ⟨g, 0, none⟩) n n) n (conCells ks)) : IsCon w g ks := by
  have hl : ks.length = n := by have := h.1; rw [con_len] at this; omega
  refine ⟨(h.lt g rfl).2, fun i j hi hj => ?_⟩
  rw [h.cellAt (i * 4 + j) (by omega), con_get ks i j hi hj]

theorem con_any (a : Option Addr) (len cap : Nat) (zs : List Int) (w : World) (hl : len ≤ 4096) (h : IsRow .i64 w a len cap zs) :
    Calls Try.prog 24 #[.slice a len cap, .int .i64 0, .bool false] w fun e w' => ∃ g, e = .returned (.slice (some ⟨g, 0, none⟩) len len) ∧ IsCon w' g (zs.take len) ∧ Below w.heap.size w w' := by
  by_cases h0 : 0 < len
  · obtain ⟨b, off, rfl, hc⟩ := h.whole h0
    refine (con_false b off len cap zs w hl h.len_le.1 hc).mono ?_
    rintro e w' ⟨rfl, ho, hb⟩
    exact ⟨_, rfl, .of_owns ho, hb⟩
  · have : len = 0 := by omega
    subst this
    refine (con_false0 a cap w).mono ?_
    rintro e w' ⟨rfl, ho, hb⟩
    exact ⟨_, rfl, .of_owns ho, hb⟩

theorem con_more (a : Option Addr) (len cap : Nat) (zs : List Int) (ex : Int) (w : World) (hl : len ≤ 4096) (h0 : 0 < len) (h : IsRow .i64 w a len cap zs) :
    Calls Try.prog 24 #[.slice a len cap, .int .i64 ex, .bool true] w fun e w' => ∃ g, e = .returned (.slice (some ⟨g, 0, none⟩) (len + 1) (len + 1)) ∧ IsCon w' g (zs.take len ++ [ex]) ∧ Below w.heap.size w w' := by
  obtain ⟨b, off, rfl, hc⟩ := h.whole h0
  refine (con_true b off len cap zs ex w hl h.len_le.1 hc).mono ?_
  rintro e w' ⟨rfl, ho, hb⟩
  exact ⟨_, rfl, .of_owns ho, hb⟩

/-- ZZCapacity, where the quotient is a number or an infinity. -/
theorem cap_any (pb g n c2 : Nat) (ks zs : List Int) (sa : Option Addr) (len cap : Nat) (w : World) (r : Nat)
    (hp : w.cell? ⟨pb, 2, none⟩ = some (.slice sa len cap)) (hlen : len ≤ 8192) (hn : n ≤ 4097) (hkl : n = ks.length)
    (hrow : IsRow .i64 w sa len cap zs) (hcon : IsCon w g ks)
    (hk1 : ∀ x ∈ ks, 1 ≤ x) (hz1 : ∀ x ∈ zs.take len, 1 ≤ x) (hks : sm ks ≤ 9007199254740992) (hzs : sm (zs.take len) ≤ 9007199254740992)
    (hdiv : Ieee.double.div (floatOfInt .f64 (sm ks)) (floatOfInt .f64 (sm (zs.take len))) = some r) :
    Calls Try.prog 25 #[.pointer (some ⟨pb, 0, none⟩), .slice (some ⟨g, 0, none⟩) n c2] w fun e w' => e = .returned (.float .f64 r) ∧ Below w.heap.size w w' := by
  have main : Calls Try.prog 31 #[.pointer (some ⟨pb, 0, none⟩), .slice (some ⟨g, 0, none⟩) n c2] w fun e w' => e = .returned (.float .f64 r) ∧ Below w.heap.size w w' := by
    by_cases h0 : 0 < len
    · obtain ⟨b, off, rfl, hc⟩ := hrow.whole h0
      have hl := hrow.len_le.1
      refine capacity_some pb g n c2 ks (zs.take len) b off len cap w r hp hlen hn (by simp; omega) hkl (fun i hi => ?_) hcon.2 hk1 hz1 hks hzs hdiv
      have hi' : i < len := by simp at hi; omega
      rw [hc i (by omega)]; simp [hi', List.getD]
    · have : len = 0 := by omega
      subst this
      simp only [List.take_zero, sm] at hdiv
      exact capacity_bare pb g n c2 ks sa cap w r hp hn hkl hcon.2 hk1 hks hdiv
  refine (zzcap pb g n c2 w (fun r' w' => r' = r ∧ Below w.heap.size w w') (main.mono ?_)).mono ?_
  · rintro e w' ⟨rfl, hb⟩; exact ⟨r, rfl, rfl, hb⟩
  · rintro e w' ⟨r', rfl, rfl, hb⟩; exact ⟨rfl, hb⟩

theorem cap_nan (pb g c2 : Nat) (sa : Option Addr) (cap : Nat) (w : World) (hp : w.cell? ⟨pb, 2, none⟩ = some (.slice sa 0 cap)) :
    Calls Try.prog 25 #[.pointer (some ⟨pb, 0, none⟩), .slice (some ⟨g, 0, none⟩) 0 c2] w fun e w' => ∃ r, e = .returned (.float .f64 r) ∧ (Ieee.double.order r r != some .eq) = true ∧ Below w.heap.size w w' :=
  zzcap pb g 0 c2 w _ (capacity_nan pb g c2 sa cap w hp)
end Go.Proofs.Qxb6003230a.Cap
