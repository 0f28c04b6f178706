import Derived.Test.Qxb6617792aFrame
namespace Go.Proofs.Qxb6617792a
open Go.ChangeShapes Go.WideShapes Go.ChangeAt Go.RowKit

/-- A slice of bytes that came in without an address is the nil slice. -/
theorem nil_of_trod {H : Type} {enc : TypeId × Value → H} {W : World} {a : Option Addr} {len cap fuel : Nat} {x : DataW H × List MemPlace}
    (hf : DataW.trod enc Try.prog W 0 (fun _ => true) true fuel 22 (Value.slice a len cap).cells.toList = some x) : a = none → len = 0 ∧ cap = 0 := by
  rcases open_ints Try.underlying22 Try.underlying5 (by kernel_rfl) hf with ⟨hcs, _⟩ | ⟨b, l, c, zs, hcs, _⟩
  · simp [Value.cells] at hcs
    intro _
    exact ⟨hcs.2.1, hcs.2.2⟩
  · simp [Value.cells] at hcs
    intro h
    rw [h] at hcs
    simp at hcs
end Go.Proofs.Qxb6617792a
