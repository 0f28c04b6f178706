import Derived.Test.Qxb6617792aBase
import Derived.ProofKit
import Derived.OpenShut
import Derived.ShutString
import Derived.ChangeOld
namespace Go.Proofs.Qxb6617792a
open Go.ChangeShapes Go.WideShapes Go.ChangeAt Go.RowKit

theorem own : ownKnob Try.prog.godebug = none := by kernel_rfl
theorem laidOut : laidOutB Try.prog = true := by kernel_rfl

/-- A slice of bytes that came in, as the walk takes it. -/
theorem brow_of_trod {H : Type} {enc : TypeId × Value → H} {W : World} {a : Option Addr} {len cap fuel : Nat} {x : DataW H × List MemPlace}
    (hf : DataW.trod enc Try.prog W 0 (fun _ => true) true fuel 22 (Value.slice a len cap).cells.toList = some x) : ∃ zs, BRow W a len zs ∧ len ≤ cap ∧ len ≤ maxLen := by
  rcases open_ints Try.underlying22 Try.underlying5 (by kernel_rfl) hf with ⟨hcs, _⟩ | ⟨b, l, c, zs, hcs, _, hl, hm, hz, _, hcell, hwz⟩
  · simp [Value.cells] at hcs
    obtain ⟨rfl, rfl, rfl⟩ := hcs
    exact ⟨[], BRow.nil _ _, Nat.le_refl _, Nat.zero_le _⟩
  · simp [Value.cells] at hcs
    obtain ⟨rfl, rfl, rfl⟩ := hcs
    simp at hz
    refine ⟨zs.take len, ⟨by simp; omega, fun z hz' => ?_, fun hp => ?_⟩, hl, Nat.le_trans hl hm⟩
    · have := bounds_u8 (hwz z (List.mem_of_mem_take hz'))
      omega
    · obtain ⟨b, off, spot⟩ := b
      have hspot : spot = none := by simpa [Addr.add] using World.cell?_spot (hcell 0 (by omega))
      subst hspot
      refine ⟨b, off, rfl, fun j hj => ?_⟩
      have h := hcell j (by omega)
      rw [Addr.add_lit] at h
      rw [h]
      simp [List.getD, hj]
end Go.Proofs.Qxb6617792a
