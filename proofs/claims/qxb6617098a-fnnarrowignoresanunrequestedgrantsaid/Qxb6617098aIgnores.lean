import Derived.Test.Qxb6617098aPlain3
import Derived.Test.Qxb6617098aCopy
import Derived.Test.Qxb6617098aBytes
import Derived.Test.Qxb6617098aSame
namespace Go.Proofs.Qxb6617098a
open Go.RowKit

theorem outL_le (rs gs : List ByteArray) : (outL rs gs).length ≤ gs.length := by
  unfold outL
  split
  · exact List.length_filter_le _ _
  · simp

/-- A slice of strings that the call itself has made, empty or not. -/
def OwnG (B : Nat) (w : World) (a : Option Addr) (m c : Nat) (ss : List ByteArray) : Prop :=
  w.ownsRow B 9 1 (.slice a m c) ss.length (ss.map Value.string) ∧ ∀ s ∈ ss, s.size ≤ maxLen

theorem OwnG.srow {B : Nat} {w : World} {a : Option Addr} {m c : Nat} {ss : List ByteArray} (h : OwnG B w a m c ss) : SRow w a m ss := by
  have hl : m = ss.length := by
    rcases h.1.2 with ⟨hv, hn⟩ | ⟨g, cap, cur, hv, _⟩
    · simp at hv; omega
    · simp at hv; exact hv.2.1
  refine ⟨hl.symm, h.2, fun hm => ?_⟩
  rcases h.1.2 with ⟨hv, hn⟩ | ⟨g, cap, cur, hv, hB, hg, _⟩
  · simp at hv; omega
  · have hv' := hv
    simp at hv'
    obtain ⟨rfl, _, rfl⟩ := hv'
    refine ⟨g, 0, rfl, fun j hj => ?_⟩
    have := h.1.cells (g := g) rfl j (.string (ss.getD j ByteArray.empty)) (by
      have hj' : j < ss.length := by omega
      simp [hj'])
    rw [Addr.add_lit] at this
    exact this

theorem OwnG.push {B : Nat} {w wr w1 : World} {o : Obj} {a : Option Addr} {m c : Nat} {ss : List ByteArray} {s : ByteArray} {v' : Value} (h : OwnG B wr a m c ss) (hb : Below B w wr) (hB : B ≤ wr.heap.size) (hs : s.size ≤ maxLen)
    (hown : w1.ownsRow B 9 1 v' (ss.length + 1) (ss.map Value.string ++ [.string s])) (hg : (wr.alloc o).grownBy w1 (Value.slice a m c).ownBlock) :
    (∃ a' m' c', v' = .slice a' m' c' ∧ OwnG B w1 a' m' c' (ss ++ [s])) ∧ Below B w w1 := by
  have hown' : w1.ownsRow B 9 1 v' (ss ++ [s]).length ((ss ++ [s]).map Value.string) := by simpa using hown
  obtain ⟨a', m', c', rfl⟩ := Own.slice hown'
  refine ⟨⟨a', m', c', rfl, hown', ?_⟩, (hb.alloc (by omega) o).grown hg (by simp; omega) (fun k hk => ((h.1.alloc o).lt k hk).1)⟩
  intro t ht
  rcases List.mem_append.1 ht with ht | ht
  · exact h.2 t ht
  · simp at ht; subst ht; exact hs

/-- The first k, under a name that the walk leaves standing. -/
def headL (gs : List ByteArray) (k : Nat) : List ByteArray := gs.take k
theorem headL_step {gs : List ByteArray} {k : Nat} {s : ByteArray} (h : gs[k]? = some s) : headL gs (k + 1) = headL gs k ++ [s] := take_snoc h
theorem headL_len {gs : List ByteArray} {k : Nat} (h : k ≤ gs.length) : (headL gs k).length = k := by simp [headL]; omega

/-- 'grown := make([]string, 0, n)'. -/
theorem make_empty (w : World) (n : Nat) (hn : n ≤ 1048577) :
    ∃ w1 a c, (Instr.makeSlice 22 (.int .i64 0) (.int .i64 (n : Int))).run Try.prog w = .ok (.slice a 0 c) w1 ∧ OwnG w.heap.size w1 a 0 c [] ∧ Below w.heap.size w w1 := by
  obtain ⟨i0, hi, hz0, hz1, hz2⟩ := info_parts Try.info9
  obtain ⟨w1, hmk, hown, hgrow⟩ := run_make_own (P := Try.prog) w w.heap.size 22 9 i0 (.string ByteArray.empty) 1 Try.underlying22 hi hz0 hz1 .i64 .i64 n (by rw [hz2]; omega) (by unfold maxLen; omega) (Nat.le_refl _)
  exact ⟨w1, _, _, hmk, ⟨by simpa using hown, by simp⟩, (Below.refl _ _).grown hgrow (Nat.le_refl _) (by simp)⟩

set_option maxHeartbeats 1000000 in
set_option maxRecDepth 100000 in
theorem ignores_walk (a0 a1 : Option Addr) (n0 c0 n1 c1 : Nat) (gs rs : List ByteArray) (x : ByteArray) (p : Int) (w : World) (h0 : SRow w a0 n0 gs) (h1 : SRow w a1 n1 rs) (hx : x.size ≤ maxLen) (hm0 : n0 ≤ maxLen) (hm1 : n1 ≤ maxLen) :
    Calls Try.prog 5 #[.slice a0 n0 c0, .slice a1 n1 c1, .string x, .int .i64 p] w fun e w' => e = .returned (.bool true) ∧ Below w.heap.size w w' := by
  obtain ⟨i0, hi, hz0, hz1, hz2⟩ := info_parts Try.info9
  go_enter Try.func5, Try.ntmps5
  go_wp2_with fail
  refine (bytes13_any a0 a1 n0 c0 n1 c1 gs rs x p _ h0 h1 hx hm0 hm1).mono ?_
  rintro e w' ⟨rfl, bb, rfl, hbb⟩
  cases bb
  · go_wp2_with fail
    go_ret
    exact ⟨rfl, Below.refl _ _⟩
  obtain ⟨hl0, hl1⟩ := hbb rfl
  have HX : Hid (x.size ≤ maxLen) := hx
  clear hbb hm0 hm1 hx
  go_upto_if 27 with fail
  go_cut [0] from 20 (fun s wc => ∃ a c, s = .slice a n0 c ∧ SRow wc a n0 gs ∧ Below w.heap.size w wc)
  case first =>
    cases a0 with
    | none =>
      go_wp2
      go_meet
      case rel => exact ⟨none, c0, rfl, h0, Below.refl _ _⟩
    | some ad =>
      obtain ⟨w1, w2, g, hmk, hcp, hs2, hbel2⟩ := make_copy c0 h0 hl0
      go_wp2
      go_meet
      case rel => exact ⟨_, _, rfl, hs2, hbel2⟩
  case rest =>
    obtain ⟨a2, c2, rfl, h2, hb2⟩ := hcut
    have h1' := h1.below hb2
    go_upto_if 36 with fail
    go_cut [1] from 20 (fun s wd => ∃ a c, s = .slice a n1 c ∧ SRow wd a n1 rs ∧ SRow wd a2 n0 gs ∧ Below w.heap.size w wd)
    case first =>
      cases a1 with
      | none =>
        go_wp2
        go_meet
        case rel => exact ⟨none, c1, rfl, h1', h2, hb2⟩
      | some ad =>
        obtain ⟨w1, w2, g, hmk, hcp, hs2, hbel2⟩ := make_copy c1 h1' hl1
        go_wp2
        go_meet
        case rel => exact ⟨_, _, rfl, hs2, h2.below hbel2, hb2.trans (hbel2.mono hb2.size)⟩
    case rest =>
      obtain ⟨a3, c3, rfl, hR, hG, hb3⟩ := hcut
      clear h2 h1 h0 h1' hb2
      go_wp2_with fail
      refine (room_any a2 n0 c2 gs _ _ hG hl0 (by omega)).mono ?_
      rintro e w' ⟨rfl, r, rfl, hr1, hr2⟩
      go_wp2_with fail
      refine (room_any a3 n1 c3 rs _ _ hR hl1 (by omega)).mono ?_
      rintro e w' ⟨rfl, r', rfl, hr3, hr4⟩
      clear hr1 hr2
      by_cases hr0 : r' < 0
      · have hd : decide (r' < 0) = true := by simp; omega
        go_wp2_with fail
        go_ret
        exact ⟨rfl, hb3⟩
      have hr5 : decide (r' < 0) = false := by simp; omega
      by_cases hxr : r' < x.size
      · have hd : decide (r' < (x.size : Int)) = true := by simp; omega
        go_wp2_with fail
        go_ret
        exact ⟨rfl, hb3⟩
      have hxr' : decide (r' < (x.size : Int)) = false := by simp; omega
      by_cases hg4 : 4096 < n0
      · have hg5 : decide ((4096 : Int) < n0) = true := by simp; omega
        go_wp2_with fail
        go_ret
        exact ⟨rfl, hb3⟩
      have hg5 : decide ((4096 : Int) < n0) = false := by simp; omega
      by_cases hq4 : 4096 < n1
      · have hq5 : decide ((4096 : Int) < n1) = true := by simp; omega
        go_wp2_with fail
        go_ret
        exact ⟨rfl, hb3⟩
      have hq5 : decide ((4096 : Int) < n1) = false := by simp; omega
      by_cases hz : n1 = 0
      · have hz' : ((n1 : Int) == 0) = true := by simp [hz]
        clear hz
        go_wp2_with fail
        go_ret
        exact ⟨rfl, hb3⟩
      have hz' : ((n1 : Int) == 0) = false := by simp [hz]
      have HNE : Hid (rs ≠ []) := by
        rintro rfl
        exact hz hR.1.symm
      clear hz
      cases hbx : hasB rs x
      rotate_left
      · go_wp2_with (go_at_call 10; refine (has_any a3 n1 c3 rs x _ hR hl1).mono ?_; rintro e w' ⟨rfl, rfl⟩)
        go_ret
        exact ⟨rfl, hb3⟩
      by_cases hp0 : p < 0
      · have hp' : decide (p < 0) = true := by simp; omega
        go_wp2_with (go_at_call 10; refine (has_any a3 n1 c3 rs x _ hR hl1).mono ?_; rintro e w' ⟨rfl, rfl⟩)
        go_ret
        exact ⟨rfl, hb3⟩
      have hp' : decide (p < 0) = false := by simp; omega
      obtain ⟨t, rfl⟩ := Int.eq_ofNat_of_zero_le (Int.not_lt.1 hp0)
      by_cases ht : n0 < t
      · have ht' : decide ((n0 : Int) < (t : Int)) = true := by simp; omega
        go_wp2_with (go_at_call 10; refine (has_any a3 n1 c3 rs x _ hR hl1).mono ?_; rintro e w' ⟨rfl, rfl⟩)
        go_ret
        exact ⟨rfl, hb3⟩
      have ht' : decide ((n0 : Int) < (t : Int)) = false := by simp; omega
      obtain ⟨w4, a4, c4, hmk, hown4, hb4⟩ := make_empty wc (n0 + 1) (by omega)
      have hmk' : (Instr.makeSlice 22 (.int .i64 0) (.int .i64 ((n0 : Int) + 1))).run Try.prog wc = .ok (.slice a4 0 c4) w4 := by simpa using hmk
      clear hmk
      go_wp2_with (go_at_call 10; refine (has_any a3 n1 c3 rs x _ hR hl1).mono ?_; rintro e w' ⟨rfl, rfl⟩)
      clear hmk' hr5 hxr hxr' hg5 hq5 hz' hp' hp0 ht' hr0 hr3 hr4
      have HBX : Hid (hasB rs x = false) := hbx
      clear hbx
      go_loopw [12, 13] (fun v i wr => ∃ (k : Nat) (a : Option Addr) (m c : Nat), k ≤ t ∧ i = .int .i64 k ∧ v = .slice a m c ∧ OwnG wc.heap.size wr a m c (headL gs k) ∧ Below wc.heap.size wc wr) (fun _ i _ => t - (intOf i).toNat)
      case atStart => exact ⟨0, a4, 0, c4, Nat.zero_le _, rfl, rfl, by simpa [headL] using hown4, hb4⟩
      case round =>
        obtain ⟨k, a, m, c, hk, rfl, rfl, hown, hbel⟩ := hrel
        have hlen := hG.1
        have hkl : (headL gs k).length = k := headL_len (by omega)
        have HKL : Hid ((headL gs k).length = k) := hkl
        clear hlen hkl
        by_cases hlt : k < t
        · obtain ⟨b, off, rfl, s, hs, hsz, hcell⟩ := (hG.below hbel).at (show k < n0 by omega)
          have HS : Hid (gs[k]? = some s) := hs
          have HSZ : Hid (s.size ≤ maxLen) := hsz
          clear hs hsz
          go_wp2_with (at_builtin; refine wpList_append_own _ rfl _ _ 22 rfl wc.heap.size 9 i0 (.string ByteArray.empty) 1 16 Try.underlying22 hi hz0 hz1 hz2 rfl (by decide) _ _ _ rfl (hown.1.alloc _) ⟨wr.heap.size, 0, none⟩ 1 1 [.string s] rfl rfl ?c1 ?c2 ?c3 ?c4 ?c5 ?_)
          case c1 => exact cell_one_new _ _ _
          case c2 => intro u hu; simp at hu; subst hu; rfl
          case c3 => rw [HKL.out]; unfold maxLen; omega
          case c4 => rw [HKL.out]; omega
          case c5 => have := hbel.size; simp; omega
          intro v' w1 hown' hgrow _
          obtain ⟨⟨a', m', c', rfl, hown2⟩, hbel2⟩ := hown.push hbel hbel.size HSZ.out hown' hgrow
          clear hown' hgrow hown hbel hcell
          go_wp2
          go_roundw
          case rel => exact ⟨k + 1, a', m', c', by omega, by go_num, rfl, by rw [headL_step HS.out]; exact hown2, hbel2⟩
          case measure => simp [intOf]; omega
        · obtain rfl : k = t := by omega
          go_wp2_with (at_builtin; refine wpList_append_own _ rfl _ _ 22 rfl wc.heap.size 9 i0 (.string ByteArray.empty) 1 16 Try.underlying22 hi hz0 hz1 hz2 rfl (by decide) _ _ _ rfl (hown.1.alloc _) ⟨wr.heap.size, 0, none⟩ 1 1 [.string x] rfl rfl ?c1 ?c2 ?c3 ?c4 ?c5 ?_)
          case c1 => exact cell_one_new _ _ _
          case c2 => intro u hu; simp at hu; subst hu; rfl
          case c3 => rw [HKL.out]; unfold maxLen; omega
          case c4 => rw [HKL.out]; omega
          case c5 => have := hbel.size; simp; omega
          intro v' w1 hown' hgrow _
          obtain ⟨⟨a', m', c', rfl, hown2⟩, hbel2⟩ := hown.push hbel hbel.size HX.out hown' hgrow
          clear hown' hgrow hown hbel
          go_wp2
          go_loopw [12, 14] (fun v i wr => ∃ (j : Nat) (a : Option Addr) (m c : Nat), k ≤ j ∧ j ≤ n0 ∧ i = .int .i64 j ∧ v = .slice a m c ∧ OwnG wc.heap.size wr a m c (partL gs x k j) ∧ Below wc.heap.size wc wr) (fun _ i _ => n0 - (intOf i).toNat)
          case atStart => exact ⟨k, a', m', c', Nat.le_refl _, by omega, rfl, rfl, by rw [partL_start]; exact hown2, hbel2⟩
          case round =>
            clear hown2 hbel2
            obtain ⟨j, a, m, c, hj1, hj2, rfl, rfl, hown, hbel⟩ := hrel
            have hle := partL_le gs x k j
            have hlen := hG.1
            have hle2 : (partL gs x k j).length ≤ n0 + 1 := by omega
            clear hlen hle
            by_cases hlt2 : j < n0
            · obtain ⟨b, off, rfl, s, hs, hsz, hcell⟩ := (hG.below hbel).at hlt2
              have HS : Hid (gs[j]? = some s) := hs
              have HSZ : Hid (s.size ≤ maxLen) := hsz
              clear hs hsz
              go_wp2_with (at_builtin; refine wpList_append_own _ rfl _ _ 22 rfl wc.heap.size 9 i0 (.string ByteArray.empty) 1 16 Try.underlying22 hi hz0 hz1 hz2 rfl (by decide) _ _ _ rfl (hown.1.alloc _) ⟨wr.heap.size, 0, none⟩ 1 1 [.string s] rfl rfl ?c1 ?c2 ?c3 ?c4 ?c5 ?_)
              case c1 => exact cell_one_new _ _ _
              case c2 => intro u hu; simp at hu; subst hu; rfl
              case c3 => unfold maxLen; omega
              case c4 => omega
              case c5 => have := hbel.size; simp; omega
              intro v' w1 hown' hgrow _
              obtain ⟨⟨a', m', c', rfl, hown2⟩, hbel2⟩ := hown.push hbel hbel.size HSZ.out hown' hgrow
              clear hown' hgrow hown hbel hcell
              go_wp2
              go_roundw
              case rel => exact ⟨j + 1, a', m', c', by omega, by omega, by go_num, rfl, by rw [partL_step x hj1 HS.out]; exact hown2, hbel2⟩
              case measure => simp [intOf]; omega
            · rw [partL_end x (by have := hG.1; omega)] at hown
              clear hle2
              have hGr := hown.srow
              have hml : m ≤ 1048576 := by have := hGr.1; rw [grownL_len] at this; have := hG.1; omega
              have hG := hG.below hbel
              have hR := hR.below hbel
              have hb5 := hb3.trans (hbel.mono hb3.size)
              clear hown hbel hb3 hb4 hown4
              go_wp2_with fail
              refine (ZZnarrow_any a2 a3 n0 c2 n1 c3 gs rs _ hG hR hl0 hl1).mono ?_
              rintro e w8 ⟨b1, m1, d1, rfl, hs1, hnil1, hb8⟩
              rw [okB_eq]
              have hb9 := hb5.trans (hb8.mono hb5.size)
              have hG := hG.below hb8
              have hR := hR.below hb8
              have hGr := hGr.below hb8
              clear hb8 hb5
              go_wp2_with fail
              refine (ZZnarrow_any a a3 m c n1 c3 _ rs _ hGr hR hml hl1).mono ?_
              rintro e w10 ⟨b2, m2, d2, rfl, hs2, hnil2, hb10⟩
              rw [okB_eq, grown_sub k HBX.out]
              rw [grown_out k HNE.out HBX.out] at hs2 hnil2
              have hb11 := hb9.trans (hb10.mono hb9.size)
              have hG := hG.below hb10
              have hR := hR.below hb10
              have hs1 := hs1.below hb10
              clear hb10 hb9 hGr
              obtain rfl : m1 = m2 := hs1.1.symm.trans hs2.1
              have hm1 : m1 ≤ 1048576 := by have := hs1.1; have := outL_le rs gs; have := hG.1; omega
              have hnn : b1.isNone = b2.isNone := by
                by_cases he : outL rs gs = []
                · rw [(hnil1 he).1, (hnil2 he).1]
                · have hp : 0 < m1 := by have := hs1.1; have := List.length_pos_iff.2 he; omega
                  obtain ⟨_, _, rfl, _⟩ := hs1.2.2 hp
                  obtain ⟨_, _, rfl, _⟩ := hs2.2.2 hp
                  rfl
              have HNN : Hid (b1.isNone = b2.isNone) := hnn
              clear hnn hnil1 hnil2
              go_wp2_with fail
              refine (subset_any a3 a2 n1 c3 n0 c2 rs gs _ hR hG hl1 hl0).mono ?_
              rintro e w' ⟨rfl, rfl⟩
              have hbb : (subB rs gs == subB rs gs) = true := by simp
              go_wp2_with fail
              refine (same_yes b1 b2 m1 d1 d2 _ _ hs1 hs2 hm1 HNN.out).mono ?_
              rintro e w12 ⟨rfl, hb12⟩
              go_wp2_with fail
              go_ret
              exact ⟨rfl, hb11.trans (hb12.mono hb11.size)⟩
end Go.Proofs.Qxb6617098a
