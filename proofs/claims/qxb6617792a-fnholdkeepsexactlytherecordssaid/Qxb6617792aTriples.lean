import Derived.Test.Qxb6617792aInto
namespace Go.Proofs.Qxb6617792a
open Go.RowKit

set_option maxHeartbeats 1000000 in
theorem sameTriples_yes (a1 a2 a3 b1 b2 b3 : Option Addr) (n c1 c2 c3 d1 d2 d3 : Nat) (ss : List Seg) (ds : List DSeg) (w : World) (h : TRow w a1 a2 a3 n ss) (k : TRow w b1 b2 b3 n ss) (hd : Reps w ss ds) (hn : n ≤ 1048576) (hall : ∀ s ∈ ss, s.n ≤ 1048576) :
    Calls Try.prog 26 #[.slice a1 n c1, .slice a2 n c2, .slice a3 n c3, .slice b1 n d1, .slice b2 n d2, .slice b3 n d3] w fun e w' => e = .returned (.bool true) ∧ ∃ m, w' = w.drewN m := by
  have HALL : Hid (∀ s ∈ ss, s.n ≤ 1048576) := hall
  clear hall
  have hnn : ((n : Int) != n) = false := by simp
  go_enter Try.func26, Try.ntmps26
  go_wp2
  go_loopw [13] (fun i wr => ∃ j : Nat, j ≤ n ∧ i = .int .i64 j ∧ ∃ m, wr = w.drewN m) (fun i _ => n - (intOf i).toNat)
  case atStart => exact ⟨0, Nat.zero_le _, rfl, 0, rfl⟩
  case round =>
    obtain ⟨j, hj, rfl, hm⟩ := hrel
    have HM : Hid (∃ m, wr = w.drewN m) := hm
    have hb : Below w.heap.size w wr := by obtain ⟨m, rfl⟩ := hm; exact below_drewN (Below.refl _ _) _
    clear hm
    by_cases hlt : j < n
    · obtain ⟨p1, o1, p2, o2, p3, o3, rfl, rfl, rfl, q, pa, pn, pc, pf, hs, hc1, hc2, hc3⟩ := (h.below hb).at hlt
      obtain ⟨r1, u1, r2, u2, r3, u3, rfl, rfl, rfl, q', pa', pn', pc', pf', hs', hk1, hk2, hk3⟩ := (k.below hb).at hlt
      rw [hs] at hs'
      simp only [Option.some.injEq, Seg.mk.injEq] at hs'
      obtain ⟨rfl, rfl, rfl, rfl, rfl⟩ := hs'
      obtain ⟨d, _, hrep⟩ := hd.len hs
      have hpn : pn ≤ 1048576 := HALL.out _ (List.mem_of_getElem? hs)
      have hbr : BRow wr pa pn d.pay := hrep.2.2.1.below hb
      clear hs hrep
      have g1 : (q != q) = false := by simp
      have g2 : (pf != pf) = false := by simp
      go_wp2
      go_quiet ((go_at_call 12; exact Calls.quiet_of (bytesEq_yes pa pa pn pc pc d.pay _ hbr hbr (by omega))))
      go_wp2
      go_roundw
      case rel =>
        obtain ⟨m, rfl⟩ := HM.out
        exact ⟨j + 1, by omega, by go_num, m + nq, by simp⟩
      case measure => simp [intOf]; omega
    · go_wp2
      go_ret
      exact ⟨rfl, HM.out⟩
end Go.Proofs.Qxb6617792a
