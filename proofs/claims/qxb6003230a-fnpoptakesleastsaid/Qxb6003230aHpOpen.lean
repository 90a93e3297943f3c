/-
  HOW AN ARGUMENT OF TYPE []Ev, AND ONE OF TYPE Ev, IS OPENED.
-/
import Derived.Test.Qxb6003230aHp4
import Derived.ProofKit
import Derived.OpenShut
import Derived.Deep.Slices
namespace Go.Proofs.Qxb6003230a.Hp
open Go.ChangeShapes Go.WideShapes Go.ChangeAt Go.RowKit Go.Deep

theorem Try.cells35 : Try.prog.cellsOf 35 = 7 := by kernel_rfl
theorem Try.cells2 : Try.prog.cellsOf 2 = 1 := by kernel_rfl
theorem Try.cells29 : Try.prog.cellsOf 29 = 1 := by kernel_rfl
theorem Try.cells21 : Try.prog.cellsOf 21 = 1 := by kernel_rfl
theorem Try.cells5 : Try.prog.cellsOf 5 = 1 := by kernel_rfl
theorem Try.cells3 : Try.prog.cellsOf 3 = 1 := by kernel_rfl

section
variable {H : Type} {enc : TypeId × Value → H} {w : World} {base : Nat} {spare : Nat → Bool} {held : Bool}

theorem open_ev {fuel : Nat} {cs : List Value} {x : DataW H × List MemPlace} (h : DataW.trod enc Try.prog w base spare held fuel 35 cs = some x) : ∃ e : E, cs = e.cells := by
  obtain ⟨xs, n, -, -, hl, hxl, hf⟩ := DataW.trod_struct Try.underlying35 h
  rw [Try.cells35] at hl
  match cs, hl with
  | [c0, c1, c2, c3, c4, c5, c6], _ =>
    match xs, hxl with
    | [x0, x1, x2, x3, x4, x5, x6], _ =>
      have f0 : DataW.trod enc Try.prog w base spare held n 2 (([c0, c1, c2, c3, c4, c5, c6].drop 0).take (Try.prog.cellsOf 2)) = some x0 := hf 0 _ rfl
      have f1 : DataW.trod enc Try.prog w base spare held n 29 (([c0, c1, c2, c3, c4, c5, c6].drop 1).take (Try.prog.cellsOf 29)) = some x1 := hf 1 _ rfl
      have f2 : DataW.trod enc Try.prog w base spare held n 2 (([c0, c1, c2, c3, c4, c5, c6].drop 2).take (Try.prog.cellsOf 2)) = some x2 := hf 2 _ rfl
      have f3 : DataW.trod enc Try.prog w base spare held n 21 (([c0, c1, c2, c3, c4, c5, c6].drop 3).take (Try.prog.cellsOf 21)) = some x3 := hf 3 _ rfl
      have f4 : DataW.trod enc Try.prog w base spare held n 21 (([c0, c1, c2, c3, c4, c5, c6].drop 4).take (Try.prog.cellsOf 21)) = some x4 := hf 4 _ rfl
      have f5 : DataW.trod enc Try.prog w base spare held n 5 (([c0, c1, c2, c3, c4, c5, c6].drop 5).take (Try.prog.cellsOf 5)) = some x5 := hf 5 _ rfl
      have f6 : DataW.trod enc Try.prog w base spare held n 3 (([c0, c1, c2, c3, c4, c5, c6].drop 6).take (Try.prog.cellsOf 3)) = some x6 := hf 6 _ rfl
      simp only [Try.cells2, Try.cells29, Try.cells21, Try.cells5, Try.cells3, List.drop_zero, List.drop_succ_cons, List.take_succ_cons, List.take_zero] at f0 f1 f2 f3 f4 f5 f6
      obtain ⟨n0, e0, -, -⟩ := DataW.trod_int Try.underlying2 f0
      obtain ⟨n1, e1, -, -⟩ := DataW.trod_int Try.underlying29 f1
      obtain ⟨n2, e2, -, -⟩ := DataW.trod_int Try.underlying2 f2
      obtain ⟨n3, e3, -, -⟩ := DataW.trod_int Try.underlying21 f3
      obtain ⟨n4, e4, -, -⟩ := DataW.trod_int Try.underlying21 f4
      obtain ⟨n5, e5, -, -⟩ := DataW.trod_int Try.underlying5 f5
      obtain ⟨n6, e6, -, -⟩ := DataW.trod_int Try.underlying3 f6
      simp at e0 e1 e2 e3 e4 e5 e6
      exact ⟨⟨n0, n1, n2, n3, n4, n5, n6⟩, by simp [E.cells, e0, e1, e2, e3, e4, e5, e6]⟩

/-- A slice of events that came in: nil; or its events lie where it leads. -/
theorem open_evs {fuel : Nat} {a : Option Addr} {len cap : Nat} {x : DataW H × List MemPlace} (h : DataW.trod enc Try.prog w base spare held fuel 22 [.slice a len cap] = some x) :
    len ≤ maxLen ∧ (a = none → len = 0 ∧ cap = 0) ∧ ∃ l : List E, l.length = len ∧ In w a l := by
  rcases open_slice Try.underlying22 h with ⟨hcs, -⟩ | ⟨ad, len', cap', m, n, D, Pl, hcs, -, hle, hmx, hm, -, hx⟩
  · simp only [List.cons.injEq, Value.slice.injEq, and_true] at hcs
    obtain ⟨rfl, rfl, rfl⟩ := hcs
    exact ⟨by unfold maxLen; omega, fun _ => ⟨rfl, rfl⟩, [], rfl, fun i hi => by simp at hi⟩
  · simp only [List.cons.injEq, Value.slice.injEq, and_true] at hcs
    obtain ⟨rfl, rfl, rfl⟩ := hcs
    have hlm : len ≤ m := by rw [hm]; split <;> omega
    refine ⟨by omega, by simp, ?_⟩
    rw [Try.cells35] at hx
    have key : ∀ i, i < len → ∃ e : E, ∀ j, j < 7 → w.cell? ((ad.add (i * 7)).add j) = e.cells[j]? := fun i hi => by
      obtain ⟨cs', h1, h2⟩ := hx i (by omega)
      obtain ⟨e, rfl⟩ := open_ev h2
      exact ⟨e, (World.cells?_some h1).2.2⟩
    obtain ⟨f, hf⟩ := choose_lt (α := Option E) (p := fun i oe => ∃ e, oe = some e ∧ ∀ j, j < 7 → w.cell? ((ad.add (i * 7)).add j) = e.cells[j]?) (fun i hi => by
      obtain ⟨e, he⟩ := key i hi
      exact ⟨some e, e, rfl, he⟩)
    refine ⟨(List.range len).map (fun i => (f i).getD E0), by simp, fun i hi => ?_⟩
    have hi' : i < len := by simpa using hi
    obtain ⟨e, hfe, he⟩ := hf i hi'
    have hg : ((List.range len).map (fun i => (f i).getD E0))[i] = e := by simp [hfe]
    rw [hg]
    obtain ⟨b, off, sp⟩ := ad
    have hsp : sp = none := by
      have h0 := key 0 (by omega)
      obtain ⟨e0, h0⟩ := h0
      have := h0 0 (by omega)
      simpa [Addr.add, E.cells] using World.cell?_spot this
    subst hsp
    refine ⟨b, off, rfl, ?_⟩
    have g : ∀ j, j < 7 → w.cell? ⟨b, off + i * 7 + j, none⟩ = e.cells[j]? := fun j hj => by
      have := he j hj
      rwa [Addr.add_lit, Addr.add_lit] at this
    exact ⟨g 0 (by omega), g 1 (by omega), g 2 (by omega), g 3 (by omega), g 4 (by omega), g 5 (by omega), g 6 (by omega)⟩
end
end Go.Proofs.Qxb6003230a.Hp
