/-
  HOW AN ARGUMENT OF TYPE Ev (a struct by value) IS OPENED.
-/
import Derived.Test.Qxb6003230aHpOpen
namespace Go.Proofs.Qxb6003230a.Hp
open Go.ChangeShapes Go.WideShapes Go.ChangeAt Go.RowKit

theorem open_ev_val {H : Type} {enc : TypeId × Value → H} {w : World} {base : Nat} {spare : Nat → Bool} {held : Bool} {r : Reach} {b0 fuel : Nat} {v : Value} {x : DataW H × List MemPlace} (hv : Value.okWide Try.prog w r b0 35 v)
    (h : DataW.trod enc Try.prog w base spare held fuel 35 v.cells.toList = some x) : ∃ e : E, v = e.val := by
  obtain ⟨cs, rfl, -⟩ := okWide_struct Try.underlying35 hv
  obtain ⟨e, he⟩ := open_ev h
  refine ⟨e, ?_⟩
  have h2 : cs.toList = e.cells := by simpa [Value.cells] using he
  unfold E.val
  congr 1
  apply Array.toList_inj.1
  rw [h2]
  rfl
end Go.Proofs.Qxb6003230a.Hp
