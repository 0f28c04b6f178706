import Derived.Test.Qxb6617098aPlain2
import Derived.Test.Qxb6617098aCopy
import Derived.Test.Qxb6617098aBytes
import Derived.Test.Qxb6617098aSame
namespace Go.Proofs.Qxb6617098a
open Go.RowKit

theorem outL_le (rs gs : List ByteArray) : (outL rs gs).length ≤ gs.length := by
  unfold outL
  split
  · exact List.length_filter_le _ _
  · simp

set_option maxHeartbeats 1000000 in
set_option maxRecDepth 100000 in
theorem twice_walk (a0 a1 a2 : Option Addr) (n0 c0 n1 c1 n2 c2 : Nat) (gs fs ss : List ByteArray) (w : World) (h0 : SRow w a0 n0 gs) (h1 : SRow w a1 n1 fs) (h2 : SRow w a2 n2 ss) (hm0 : n0 ≤ maxLen) (hm1 : n1 ≤ maxLen) (hm2 : n2 ≤ maxLen) :
    Calls Try.prog 4 #[.slice a0 n0 c0, .slice a1 n1 c1, .slice a2 n2 c2] w fun e w' => e = .returned (.bool true) ∧ Below w.heap.size w w' := by
  have heqn := fun (w : World) (a : Option Addr) (n c : Nat) => Lib.run_eql_slice_nil (P := Try.prog) w 22 9 a n c 0 0 Try.underlying22
  go_enter Try.func4, Try.ntmps4
  go_wp2_with fail
  refine (bytes11_any a0 a1 a2 n0 c0 n1 c1 n2 c2 gs fs ss _ h0 h1 h2 hm0 hm1 hm2).mono ?_
  rintro e w' ⟨rfl, bb, rfl, hbb⟩
  cases bb
  · go_wp2_with fail
    go_ret
    exact ⟨rfl, Below.refl _ _⟩
  obtain ⟨hl0, hl1, hl2⟩ := hbb rfl
  clear hbb hm0 hm1 hm2
  go_wp2_with fail
  refine (room_any a0 n0 c0 gs _ _ h0 hl0 (by omega)).mono ?_
  rintro e w' ⟨rfl, r, rfl, hr1, hr2⟩
  go_wp2_with fail
  refine (room_any a1 n1 c1 fs _ _ h1 hl1 (by omega)).mono ?_
  rintro e w' ⟨rfl, r', rfl, hr3, hr4⟩
  go_wp2_with fail
  refine (room_any a2 n2 c2 ss _ _ h2 hl2 (by omega)).mono ?_
  rintro e w' ⟨rfl, r'', rfl, hr5, hr6⟩
  by_cases hr0 : r'' < 0
  · go_wp2_with fail
    go_ret
    exact ⟨rfl, Below.refl _ _⟩
  clear hr1 hr2 hr3 hr4
  by_cases hg4 : 4096 < n0
  · have hg5 : decide ((4096 : Int) < n0) = true := by simp; omega
    go_wp2_with fail
    go_ret
    exact ⟨rfl, Below.refl _ _⟩
  have hg5 : decide ((4096 : Int) < n0) = false := by simp; omega
  by_cases hq4 : 4096 < n1
  · have hq5 : decide ((4096 : Int) < n1) = true := by simp; omega
    go_wp2_with fail
    go_ret
    exact ⟨rfl, Below.refl _ _⟩
  have hq5 : decide ((4096 : Int) < n1) = false := by simp; omega
  by_cases hp4 : 4096 < n2
  · have hp5 : decide ((4096 : Int) < n2) = true := by simp; omega
    go_wp2_with fail
    go_ret
    exact ⟨rfl, Below.refl _ _⟩
  have hp5 : decide ((4096 : Int) < n2) = false := by simp; omega
  by_cases hz : n2 = 0
  · have hz' : ((n2 : Int) == 0) = true := by simp [hz]
    clear hz
    go_wp2_with fail
    go_ret
    exact ⟨rfl, Below.refl _ _⟩
  have hz' : ((n2 : Int) == 0) = false := by simp [hz]
  have HNE : Hid (ss ≠ []) := by
    rintro rfl
    exact hz h2.1.symm
  clear hz
  go_upto_region 9 with fail
  go_cut [53] from 17 (fun t wc => w = wc ∧ ∃ b : Bool, t = .bool b ∧ (b = false → fs = [] ∨ subB ss fs = true))
  case first =>
    by_cases hf : n1 = 0
    · have hf' : ((n1 : Int) != 0) = false := by simp [hf]
      have HF : Hid (fs = []) := List.eq_nil_of_length_eq_zero (by have := h1.1; omega)
      clear hf
      go_wp2
      go_meet
      case rel => exact ⟨rfl, false, rfl, fun _ => .inl HF.out⟩
    · have hf' : ((n1 : Int) != 0) = true := by simp [hf]
      clear hf
      cases hb : subB ss fs
      · go_wp2_with (go_at_call 9; refine (subset_any a2 a1 n2 c2 n1 c1 ss fs _ h2 h1 hl2 hl1).mono ?_; rintro e w' ⟨rfl, rfl⟩)
        go_meet
        case rel => exact ⟨rfl, true, rfl, by simp⟩
      · go_wp2_with (go_at_call 9; refine (subset_any a2 a1 n2 c2 n1 c1 ss fs _ h2 h1 hl2 hl1).mono ?_; rintro e w' ⟨rfl, rfl⟩)
        go_meet
        case rel => exact ⟨rfl, false, rfl, fun _ => .inr hb⟩
  case rest =>
    obtain ⟨rfl, b, rfl, hcond⟩ := hcut
    cases b
    rotate_left
    · go_wp2_with fail
      go_ret
      exact ⟨rfl, Below.refl _ _⟩
    have HC : Hid (fs = [] ∨ subB ss fs = true) := hcond rfl
    clear hcond
    go_upto_if 55 with fail
    go_cut [0] from 17 (fun s wc => ∃ a c, s = .slice a n0 c ∧ SRow wc a n0 gs ∧ Below w.heap.size w wc)
    case first =>
      cases a0 with
      | none =>
        go_wp2
        go_meet
        case rel => exact ⟨none, c0, rfl, h0, Below.refl _ _⟩
      | some ad =>
        obtain ⟨w1, w2, g, hmk, hcp, hs2, hbel2⟩ := make_copy c0 h0 hl0
        go_wp2
        go_meet
        case rel => exact ⟨_, _, rfl, hs2, hbel2⟩
    case rest =>
      obtain ⟨a3, c3, rfl, h3, hb3⟩ := hcut
      have h1' := h1.below hb3
      have h2' := h2.below hb3
      clear h0 h1 h2
      go_upto_if 64 with fail
      go_cut [1] from 17 (fun s wd => ∃ a c, s = .slice a n1 c ∧ SRow wd a n1 fs ∧ SRow wd a3 n0 gs ∧ SRow wd a2 n2 ss ∧ Below w.heap.size w wd)
      case first =>
        cases a1 with
        | none =>
          go_wp2
          go_meet
          case rel => exact ⟨none, c1, rfl, h1', h3, h2', hb3⟩
        | some ad =>
          obtain ⟨w1, w2, g, hmk, hcp, hs2, hbel2⟩ := make_copy c1 h1' hl1
          go_wp2
          go_meet
          case rel => exact ⟨_, _, rfl, hs2, h3.below hbel2, h2'.below hbel2, hb3.trans (hbel2.mono hb3.size)⟩
      case rest =>
        obtain ⟨a4, c4, rfl, h4, h3', h2'', hb4⟩ := hcut
        clear h1' h2' h3 hb3
        go_upto_if 73 with fail
        go_cut [2] from 17 (fun s wd => ∃ a c, s = .slice a n2 c ∧ SRow wd a n2 ss ∧ SRow wd a3 n0 gs ∧ SRow wd a4 n1 fs ∧ Below w.heap.size w wd)
        case first =>
          cases a2 with
          | none =>
            go_wp2
            go_meet
            case rel => exact ⟨none, c2, rfl, h2'', h3', h4, hb4⟩
          | some ad =>
            obtain ⟨w1, w2, g, hmk, hcp, hs2, hbel2⟩ := make_copy c2 h2'' hl2
            go_wp2
            go_meet
            case rel => exact ⟨_, _, rfl, hs2, h3'.below hbel2, h4.below hbel2, hb4.trans (hbel2.mono hb4.size)⟩
        case rest =>
          obtain ⟨a5, c5, rfl, hS, hG, hF, hb5⟩ := hcut
          clear h2'' h3' h4 hb4
          go_wp2_with fail
          refine (ZZnarrow_any a3 a4 n0 c3 n1 c4 gs fs _ hG hF hl0 hl1).mono ?_
          rintro e w6 ⟨a, m, c, rfl, hs, hnil, hb6⟩
          have hb7 := hb5.trans (hb6.mono hb5.size)
          have hG := hG.below hb6
          have hF := hF.below hb6
          have hS := hS.below hb6
          clear hb6 hb5
          rw [okB_eq]
          cases hsub : subB fs gs
          · rw [outL_no hsub] at hnil
            obtain ⟨rfl, rfl, rfl⟩ := hnil rfl
            go_wp2_with (go_at_call 9; refine (subset_any a4 a3 n1 c4 n0 c3 fs gs _ hF hG hl1 hl0).mono ?_; rintro e w' ⟨rfl, rfl⟩)
            go_ret
            exact ⟨rfl, hb7⟩
          · rw [outL_yes hsub] at hs
            clear hnil
            have hml : m ≤ 1048576 := by have := hs.1; have := kept_le fs gs n0; rw [List.take_of_length_le (by have := hG.1; omega)] at this; omega
            go_wp2_with (first | (go_at_call 9; refine (subset_any a4 a3 n1 c4 n0 c3 fs gs _ hF hG hl1 hl0).mono ?_; rintro e w' ⟨rfl, rfl⟩))
            refine (ZZnarrow_any a a5 m c n2 c5 _ ss _ hs hS hml hl2).mono ?_
            rintro e w8 ⟨b1, m1, d1, rfl, hs1, hnil1, hb8⟩
            rw [okB_eq, twice_sub HC.out]
            rw [twice_out HNE.out HC.out] at hs1 hnil1
            have hb9 := hb7.trans (hb8.mono hb7.size)
            have hG := hG.below hb8
            have hS := hS.below hb8
            clear hb8 hb7 hs hF
            go_wp2_with fail
            refine (ZZnarrow_any a3 a5 n0 c3 n2 c5 gs ss _ hG hS hl0 hl2).mono ?_
            rintro e w10 ⟨b2, m2, d2, rfl, hs2, hnil2, hb10⟩
            rw [okB_eq]
            have hb11 := hb9.trans (hb10.mono hb9.size)
            have hG := hG.below hb10
            have hS := hS.below hb10
            have hs1 := hs1.below hb10
            clear hb10 hb9
            obtain rfl : m1 = m2 := hs1.1.symm.trans hs2.1
            have hm1 : m1 ≤ 1048576 := by have := hs1.1; have := outL_le ss gs; have := hG.1; omega
            have hnn : b1.isNone = b2.isNone := by
              by_cases he : outL ss gs = []
              · rw [(hnil1 he).1, (hnil2 he).1]
              · have hp : 0 < m1 := by have := hs1.1; have := List.length_pos_iff.2 he; omega
                obtain ⟨_, _, rfl, _⟩ := hs1.2.2 hp
                obtain ⟨_, _, rfl, _⟩ := hs2.2.2 hp
                rfl
            have HNN : Hid (b1.isNone = b2.isNone) := hnn
            clear hnn hnil1 hnil2
            go_wp2_with fail
            refine (subset_any a5 a3 n2 c5 n0 c3 ss gs _ hS hG hl2 hl0).mono ?_
            rintro e w' ⟨rfl, rfl⟩
            have hbb : (subB ss gs == subB ss gs) = true := by simp
            go_wp2_with fail
            refine (same_yes b1 b2 m1 d1 d2 _ _ hs1 hs2 hm1 HNN.out).mono ?_
            rintro e w12 ⟨rfl, hb12⟩
            go_wp2_with fail
            go_ret
            exact ⟨rfl, hb11.trans (hb12.mono hb11.size)⟩
end Go.Proofs.Qxb6617098a
