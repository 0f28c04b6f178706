import Derived.Test.Qxb6617098aBase
namespace Go.Proofs.Qxb6617098a
open Go.RowKit

theorem SRow.below' {w w' : World} {a : Option Addr} {n : Nat} {ss : List ByteArray} (h : SRow w a n ss) (hb : Below w.heap.size w w') : SRow w' a n ss := by
  refine ⟨h.1, h.2.1, fun hn => ?_⟩
  obtain ⟨b, off, rfl, hc⟩ := h.2.2 hn
  exact ⟨b, off, rfl, fun j hj => cell_later hb (hc j hj)⟩

set_option maxHeartbeats 400000 in
theorem same_yes (a0 a1 : Option Addr) (n c0 c1 : Nat) (xs : List ByteArray) (w : World) (h0 : SRow w a0 n xs) (h1 : SRow w a1 n xs) (hn : n ≤ 1048576) (hnil : a0.isNone = a1.isNone) :
    Calls Try.prog 12 #[.slice a0 n c0, .slice a1 n c1] w fun e w' => e = .returned (.bool true) ∧ Below w.heap.size w w' := by
  have heqn := fun (w : World) (a : Option Addr) (n c : Nat) => Lib.run_eql_slice_nil (P := Try.prog) w 22 9 a n c 0 0 Try.underlying22
  have hnn : (a0.isNone == a1.isNone) = true := by simp [hnil]
  clear hnil
  go_enter Try.func12, Try.ntmps12
  go_wp2
  go_loopw [5] (fun i wr => ∃ k : Nat, k ≤ n ∧ i = .int .i64 k ∧ Below w.heap.size w wr) (fun i _ => n - (intOf i).toNat)
  case atStart => exact ⟨0, Nat.zero_le _, rfl, Below.refl _ _⟩
  case round =>
    obtain ⟨k, hk, rfl, hb⟩ := hrel
    clear hnn
    by_cases hlt : k < n
    · obtain ⟨b, off, rfl, s, hs1, _, hcell1⟩ := (h0.below' hb).at hlt
      obtain ⟨b', off', rfl, t, ht1, _, hcell2⟩ := (h1.below' hb).at hlt
      obtain rfl : s = t := by rw [hs1] at ht1; exact Option.some.inj ht1
      clear hs1 ht1
      have hss : (s.toList == s.toList) = true := by simp
      go_wp2
      go_quiet (fail)
      go_wp2
      go_roundw
      case rel => exact ⟨k + 1, by omega, by go_num, below_drewN hb _⟩
      case measure => simp [intOf]; omega
    · go_wp2
      go_ret
      exact ⟨rfl, hb⟩
end Go.Proofs.Qxb6617098a
