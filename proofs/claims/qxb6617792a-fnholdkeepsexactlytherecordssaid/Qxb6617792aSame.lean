import Derived.Test.Qxb6617792aPlainH
namespace Go.Proofs.Qxb6617792a
open Go.RowKit

/-- Two readings of the same data agree. -/
theorem rep_same {w : World} {q q' : Int} {a a' : Option Addr} {n n' c c' : Nat} {f f' : Bool} {d : DSeg} (h : Rep w (Seg.mk q a n c f) d) (k : Rep w (Seg.mk q' a' n' c' f') d) :
    q = q' ∧ f = f' ∧ n = n' ∧ BRow w a n d.pay ∧ BRow w a' n d.pay := by
  have h1 : q = d.seq := h.1
  have k1 : q' = d.seq := k.1
  have h2 : f = d.fin := h.2.1
  have k2 : f' = d.fin := k.2.1
  have h3 : BRow w a n d.pay := h.2.2.1
  have k3 : BRow w a' n' d.pay := k.2.2.1
  have e : n = n' := h3.1.symm.trans k3.1
  subst e
  exact ⟨h1.trans k1.symm, h2.trans k2.symm, rfl, h3, k3⟩

set_option maxHeartbeats 1000000 in
theorem sameAsHeld_yes (a1 a2 a3 a : Option Addr) (n c1 c2 c3 c : Nat) (hs es : List Seg) (ds : List DSeg) (w : World) (h : TRow w a1 a2 a3 n hs) (k : HRow w a n es) (hd : Reps w hs ds) (kd : Reps w es ds) (hn : n ≤ 1048576) (hall : ∀ d ∈ ds, d.pay.length ≤ 1048576) :
    Calls Try.prog 23 #[.slice a1 n c1, .slice a2 n c2, .slice a3 n c3, .slice a n c] w fun e w' => e = .returned (.bool true) ∧ ∃ m, w' = w.drewN m := by
  have HALL : Hid (∀ s ∈ hs, s.n ≤ 1048576) := hd.to_s hall
  clear hall
  have hnn : ((n : Int) != n) = false := by simp
  go_enter Try.func23, Try.ntmps23
  go_wp2
  go_loopw [9] (fun i wr => ∃ j : Nat, j ≤ n ∧ i = .int .i64 j ∧ ∃ m, wr = w.drewN m) (fun i _ => n - (intOf i).toNat)
  case atStart => exact ⟨0, Nat.zero_le _, rfl, 0, rfl⟩
  case round =>
    obtain ⟨j, hj, rfl, hm⟩ := hrel
    have HM : Hid (∃ m, wr = w.drewN m) := hm
    have hb : Below w.heap.size w wr := by obtain ⟨m, rfl⟩ := hm; exact below_drewN (Below.refl _ _) _
    clear hm
    by_cases hlt : j < n
    · obtain ⟨p1, o1, p2, o2, p3, o3, rfl, rfl, rfl, q, pa, pn, pc, pf, hs1, hc1, hc2, hc3⟩ := (h.below hb).at hlt
      obtain ⟨b, off, rfl, q', pa', pn', pc', pf', hs2, hk1, hk2, hk3⟩ := (k.below hb).at hlt
      obtain ⟨d, hdd, hrep1⟩ := (hd.below hb).len hs1
      obtain ⟨d', hdd', hrep2⟩ := (kd.below hb).len hs2
      obtain rfl : d = d' := by rw [hdd] at hdd'; exact Option.some.inj hdd'
      obtain ⟨rfl, rfl, rfl, hbr1, hbr2⟩ := rep_same hrep1 hrep2
      have hpn : pn ≤ 1048576 := HALL.out _ (List.mem_of_getElem? hs1)
      clear hs1 hs2 hdd hdd' hrep1 hrep2
      have g1 : (q != q) = false := by simp
      have g2 : (pf != pf) = false := by simp
      go_wp2
      go_quiet ((go_at_call 12; exact Calls.quiet_of (bytesEq_yes pa pa' pn pc pc' d.pay _ hbr1 hbr2 (by omega))))
      go_wp2
      go_roundw
      case rel =>
        obtain ⟨m, rfl⟩ := HM.out
        exact ⟨j + 1, by omega, by go_num, m + nq, by simp⟩
      case measure => simp [intOf]; omega
    · go_wp2
      go_ret
      exact ⟨rfl, HM.out⟩

set_option maxHeartbeats 1000000 in
theorem bytes17_any (a0 a1 : Option Addr) (n0 c0 n1 c1 : Nat) (s0 s1 : List Seg) (e0 e1 : List DSeg) (w : World) (h0 : HRow w a0 n0 s0) (h1 : HRow w a1 n1 s1) (d0 : Reps w s0 e0) (d1 : Reps w s1 e1) (hm0 : n0 ≤ maxLen) (hm1 : n1 ≤ maxLen) :
    Calls Try.prog 17 #[.slice a0 n0 c0, .slice a1 n1 c1] w fun e w' => w = w' ∧ AnyBool (n0 ≤ 1048576 ∧ n1 ≤ 1048576) e := by
  unfold maxLen at hm0 hm1
  by_cases hl0 : 1048576 < n0
  · go_enter Try.func17, Try.ntmps17
    go_wp2
    go_ret
    exact ⟨rfl, AnyBool.no _⟩
  · go_enter Try.func17, Try.ntmps17
    go_wp2
    go_loop [5, 6] (fun m i => ∃ (k : Nat) (r : Int), k ≤ n0 ∧ i = .int .i64 k ∧ m = .int .i64 r ∧ 0 ≤ r ∧ r ≤ 1048576) (fun _ i => n0 - (intOf i).toNat)
    case atStart => exact ⟨0, n0, Nat.zero_le _, rfl, rfl, by omega, by omega⟩
    case round =>
      obtain ⟨k, r, hk, rfl, rfl, hr1, hr2⟩ := hrel
      by_cases hlt : k < n0
      · obtain ⟨b, off, rfl, q, pa, pn, pc, pf, hs, hc1, hc2, hc3⟩ := h0.at hlt
        obtain ⟨d, hd1, hrep⟩ := d0.len hs
        have hpn : pn ≤ maxLen := hrep.2.2.2.1
        unfold maxLen at hpn
        clear hs hd1 hrep
        go_wp2
        · go_ret
          exact ⟨rfl, AnyBool.no _⟩
        · go_ret
          exact ⟨rfl, AnyBool.no _⟩
        · go_round
          case rel => exact ⟨k + 1, _, by omega, by go_num, rfl, by omega, by omega⟩
          case measure => simp [intOf]; omega
      · by_cases hl1 : 1048576 < n1
        · go_wp2
          go_ret
          exact ⟨rfl, AnyBool.no _⟩
        · by_cases hl2 : 1048576 < r + n1
          · go_wp2
            go_ret
            exact ⟨rfl, AnyBool.no _⟩
          · go_wp2
            go_loop [5, 7] (fun m i => ∃ (k : Nat) (r : Int), k ≤ n1 ∧ i = .int .i64 k ∧ m = .int .i64 r ∧ 0 ≤ r ∧ r ≤ 1048576) (fun _ i => n1 - (intOf i).toNat)
            case atStart => exact ⟨0, r + n1, Nat.zero_le _, rfl, rfl, by omega, by omega⟩
            case round =>
              obtain ⟨k, r, hk, rfl, rfl, hr1, hr2⟩ := hrel
              by_cases hlt : k < n1
              · obtain ⟨b, off, rfl, q, pa, pn, pc, pf, hs, hc1, hc2, hc3⟩ := h1.at hlt
                obtain ⟨d, hd1, hrep⟩ := d1.len hs
                have hpn : pn ≤ maxLen := hrep.2.2.2.1
                unfold maxLen at hpn
                clear hs hd1 hrep
                go_wp2
                · go_ret
                  exact ⟨rfl, AnyBool.no _⟩
                · go_ret
                  exact ⟨rfl, AnyBool.no _⟩
                · go_round
                  case rel => exact ⟨k + 1, _, by omega, by go_num, rfl, by omega, by omega⟩
                  case measure => simp [intOf]; omega
              · go_wp2
                go_ret
                exact ⟨rfl, AnyBool.yes (by omega)⟩
end Go.Proofs.Qxb6617792a
