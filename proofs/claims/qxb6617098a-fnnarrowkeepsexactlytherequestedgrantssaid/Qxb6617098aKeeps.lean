import Derived.Test.Qxb6617098aPlain
import Derived.Laws.CopyOwn
import Derived.Deep.DeepCutAuto
namespace Go.Proofs.Qxb6617098a
open Go.RowKit

theorem splice_whole {α : Type} (cur cs : List α) (h : cur.length = cs.length) : splice cur 0 cs = cs := by
  simp [splice, ← h]

/-- The row behind 'zzc := make([]string, len(xs)); copy(zzc, xs)'. -/
theorem SRow.copied {w w' : World} {g n : Nat} {cur : List Value} {gs : List ByteArray} {a : Option Addr} (h : SRow w a n gs) (hl : cur.length = n)
    (hg : w'.heap[g]? = some (.cells (splice cur 0 (gs.map Value.string)).toArray 9 (0, 0))) : SRow w' (some ⟨g, 0, none⟩) n gs := by
  rw [splice_whole _ _ (by simp [hl, h.1])] at hg
  refine ⟨h.1, h.2.1, fun _ => ⟨g, 0, rfl, fun j hj => ?_⟩⟩
  have hj' : j < gs.length := by have := h.1; omega
  rw [Nat.zero_add, cell_of_row w' g j _ 9 (0, 0) hg]
  simp [hj']

theorem Try.size9 : (Try.prog.info? 9).map (·.size) = some 1 := by kernel_rfl

/-- 'zzc := make([]string, len(xs)); copy(zzc, xs)', xs not nil. -/
theorem make_copy {w : World} {ad : Addr} {n : Nat} (c : Nat) {gs : List ByteArray} (h : SRow w (some ad) n gs) (hn : n ≤ 1048576) :
    ∃ w1 w2 g, (Instr.makeSlice 22 (.int .i64 n) (.int .i64 n)).run Try.prog w = .ok (.slice (some ⟨g, 0, none⟩) n n) w1 ∧
      (Builtin.copy_ #[22, 22] 3 #[.slice (some ⟨g, 0, none⟩) n n, .slice (some ad) n c]).run Try.prog w1 = .ok (.int .i64 n) w2 ∧
      SRow w2 (some ⟨g, 0, none⟩) n gs ∧ Below w.heap.size w w2 := by
  obtain ⟨i0, hi, hz0, hz1, hz2⟩ := info_parts Try.info9
  obtain ⟨w1, hmk, hown, hgrow⟩ := run_make_full (P := Try.prog) w w.heap.size 22 9 i0 (.string ByteArray.empty) 1 Try.underlying22 hi hz0 hz1 .i64 .i64 n (by rw [hz2]; omega) (by unfold maxLen; omega) (Nat.le_refl _)
  have hbel1 : Below w.heap.size w w1 := (Below.refl _ _).grown hgrow (Nat.le_refl _) (by simp)
  have h' := h.below hbel1
  obtain ⟨cur, hcl, hcur⟩ : ∃ cur : List Value, cur.length = n ∧ w1.heap[w.heap.size]? = some (.cells cur.toArray 9 (0, 0)) := by
    rcases hown.2 with ⟨hv, _⟩ | ⟨g, cap, cur, hv, _, hh, _, _, hsz, _⟩
    · simp at hv
    · simp at hv
      obtain ⟨rfl, rfl⟩ := hv
      exact ⟨cur.toList, by simpa using hsz, by simpa using hh⟩
  have hlen : (gs.map Value.string).length = n := by simp [h.1]
  by_cases h0 : n = 0
  · have hcp := run_copy_none (P := Try.prog) w1 22 22 3 9 (some ⟨w.heap.size, 0, none⟩) (some ad) n n n c Try.underlying22 Try.size9 (by simp [h0])
    refine ⟨w1, w1, w.heap.size, hmk, ?_, ?_, hbel1⟩
    · rw [hcp, h0]; rfl
    · subst h0
      obtain rfl : gs = [] := List.eq_nil_of_length_eq_zero h.1
      exact SRow.nil _ _
  · obtain ⟨b, off, hab, hc⟩ := h'.2.2 (by omega)
    simp at hab
    subst hab
    have hcp := run_copy_row (P := Try.prog) w1 22 22 3 9 w.heap.size 0 n n ⟨b, off, none⟩ n c cur.toArray 9 (gs.map Value.string) Try.underlying22 Try.size9 hcur (by simp [h.1])
      (by
        intro j v hj
        have hj' : j < n := by have := (List.getElem?_eq_some_iff.1 hj).1; omega
        rw [Addr.add_lit, hc j hj']
        have hj2 : j < gs.length := by have := h.1; omega
        simp [hj2] at hj
        simp [hj2, hj])
      (by simp [hcl, h.1]) (by intro v hv; obtain ⟨_, _, rfl⟩ := List.mem_map.1 hv; rfl)
    refine ⟨w1, _, w.heap.size, hmk, hcp.trans (congrArg (fun k : Nat => Result.ok (goInt k) _) hlen), ?_, below_setRow hbel1 (Nat.le_refl _) _⟩
    refine h'.copied (cur := cur) hcl ?_
    have := setRow_heap w1 w.heap.size _ (cur.toArray.toList.take 0 ++ gs.map Value.string ++ cur.toArray.toList.drop (0 + (gs.map Value.string).length)).toArray 9 _ hcur
    simpa [splice] using this

set_option maxHeartbeats 1000000 in
set_option maxRecDepth 100000 in
theorem keeps_walk (a0 a1 : Option Addr) (n0 c0 n1 c1 : Nat) (gs rs : List ByteArray) (w : World) (h0 : SRow w a0 n0 gs) (h1 : SRow w a1 n1 rs) (hm0 : n0 ≤ maxLen) (hm1 : n1 ≤ maxLen) :
    Calls Try.prog 3 #[.slice a0 n0 c0, .slice a1 n1 c1] w fun e w' => e = .returned (.bool true) ∧ Below w.heap.size w w' := by
  have heqn := fun (w : World) (a : Option Addr) (n c : Nat) => Lib.run_eql_slice_nil (P := Try.prog) w 22 9 a n c 0 0 Try.underlying22
  go_enter Try.func3, Try.ntmps3
  go_wp2_with fail
  refine (bytes6_any a0 a1 n0 c0 n1 c1 gs rs _ h0 h1 hm0 hm1).mono ?_
  rintro e w' ⟨rfl, bb, rfl, hbb⟩
  cases bb
  · go_wp2_with fail
    go_ret
    exact ⟨rfl, Below.refl _ _⟩
  obtain ⟨hl0, hl1⟩ := hbb rfl
  clear hbb
  go_wp2_with fail
  refine (room_any a0 n0 c0 gs _ _ h0 hl0 (by omega)).mono ?_
  rintro e w' ⟨rfl, r, rfl, hr1, hr2⟩
  go_wp2_with fail
  refine (room_any a1 n1 c1 rs _ _ h1 hl1 (by omega)).mono ?_
  rintro e w' ⟨rfl, r', rfl, hr3, hr4⟩
  by_cases hr0 : r' < 0
  · go_wp2_with fail
    go_ret
    exact ⟨rfl, Below.refl _ _⟩
  by_cases hg4 : 4096 < n0
  · have hg5 : decide ((4096 : Int) < n0) = true := by simp; omega
    go_wp2_with fail
    go_ret
    exact ⟨rfl, Below.refl _ _⟩
  have hg5 : decide ((4096 : Int) < n0) = false := by simp; omega
  by_cases hq4 : 4096 < n1
  · go_wp2_with fail
    go_ret
    exact ⟨rfl, Below.refl _ _⟩
  clear hr1 hr2 hr3 hr4
  go_upto_if 32 with fail
  go_cut [0] from 14 (fun s wc => ∃ a c, s = .slice a n0 c ∧ SRow wc a n0 gs ∧ Below w.heap.size w wc)
  case first =>
    cases a0 with
    | none =>
      go_wp2
      go_meet
      case rel => exact ⟨none, c0, rfl, h0, Below.refl _ _⟩
    | some ad =>
      obtain ⟨w1, w2, g, hmk, hcp, hs2, hbel2⟩ := make_copy c0 h0 hl0
      go_wp2
      go_meet
      case rel => exact ⟨_, _, rfl, hs2, hbel2⟩
  case rest =>
    obtain ⟨a2, c2, rfl, h2, hb2⟩ := hcut
    have h1' := h1.below hb2
    go_upto_if 41 with fail
    go_cut [1] from 14 (fun s wd => ∃ a c, s = .slice a n1 c ∧ SRow wd a n1 rs ∧ SRow wd a2 n0 gs ∧ Below w.heap.size w wd)
    case first =>
      cases a1 with
      | none =>
        go_wp2
        go_meet
        case rel => exact ⟨none, c1, rfl, h1', h2, hb2⟩
      | some ad =>
        obtain ⟨w1, w2, g, hmk, hcp, hs2, hbel2⟩ := make_copy c1 h1' hl1
        go_wp2
        go_meet
        case rel => exact ⟨_, _, rfl, hs2, h2.below hbel2, hb2.trans (hbel2.mono hb2.size)⟩
    case rest =>
      obtain ⟨a3, c3, rfl, h3, h2', hb3⟩ := hcut
      clear h2 h1 h0 h1'
      go_wp2_with fail
      refine (ZZnarrow_any a2 a3 n0 c2 n1 c3 gs rs _ h2' h3 hl0 hl1).mono ?_
      rintro e w4 ⟨a, m, c, rfl, hs, hnil, hb4⟩
      have hb5 := hb3.trans (hb4.mono hb3.size)
      have h2 := h2'.below hb4
      have h1 := h3.below hb4
      clear h2' h3 hb4 hb3 hb2
      rw [okB_eq]
      cases hsub : subB rs gs
      · rw [outL_no hsub] at hnil
        obtain ⟨rfl, rfl, rfl⟩ := hnil rfl
        go_wp2_with (go_at_call 9; refine (subset_any a3 a2 n1 c3 n0 c2 rs gs _ h1 h2 hl1 hl0).mono ?_; rintro e w' ⟨rfl, rfl⟩)
        go_ret
        exact ⟨rfl, hb5⟩
      · rw [outL_yes hsub] at hnil hs
        have hml : m ≤ 1048576 := by have := hs.1; have := kept_le rs gs n0; rw [List.take_of_length_le (by have := h2.1; omega)] at this; omega
        go_wp2_with (go_at_call 9; refine (subset_any a3 a2 n1 c3 n0 c2 rs gs _ h1 h2 hl1 hl0).mono ?_; rintro e w' ⟨rfl, rfl⟩)
        go_loop [9, 10] (fun v i => ∃ k : Nat, k ≤ n0 ∧ i = .int .i64 k ∧ v = .int .i64 (keptL rs (gs.take k)).length) (fun _ i => n0 - (intOf i).toNat)
        case atStart => exact ⟨0, Nat.zero_le _, rfl, rfl⟩
        case round =>
          obtain ⟨k, hk, rfl, rfl⟩ := hrel
          have hle := kept_le rs gs k
          by_cases hlt : k < n0
          · obtain ⟨b, off, rfl, s, hs', hsz, hcell⟩ := h2.at hlt
            have HS : Hid (gs[k]? = some s) := hs'
            clear hs' hsz
            by_cases hr : n1 = 0
            · have hr' : ((n1 : Int) == 0) = true := by simp [hr]
              have HK : Hid (keepB rs s = true) := by
                have := h1.1
                obtain rfl : rs = [] := List.eq_nil_of_length_eq_zero (by omega)
                exact rfl
              clear hr
              go_wp2
              go_round
              case rel => exact ⟨k + 1, by omega, by go_num, by rw [kept_hit HS.out HK.out]; simp⟩
              case measure => simp [intOf]; omega
            · have hr' : ((n1 : Int) == 0) = false := by simp [hr]
              have hne : rs.isEmpty = false := by
                have := h1.1
                cases rs with
                | nil => simp at this; omega
                | cons _ _ => rfl
              cases hb : hasB rs s
              · have HK : Hid (keepB rs s = false) := by show keepB rs s = false; simp [keepB, hne, hb]
                clear hr hne
                go_wp2_with (go_at_call 10; refine (has_any a3 n1 c3 rs s _ h1 hl1).mono ?_; rintro e w' ⟨rfl, rfl⟩)
                go_round
                case rel => exact ⟨k + 1, by omega, by go_num, by rw [kept_miss HS.out HK.out]⟩
                case measure => simp [intOf]; omega
              · have HK : Hid (keepB rs s = true) := by show keepB rs s = true; simp [keepB, hb]
                clear hr hne
                go_wp2_with (go_at_call 10; refine (has_any a3 n1 c3 rs s _ h1 hl1).mono ?_; rintro e w' ⟨rfl, rfl⟩)
                go_round
                case rel => exact ⟨k + 1, by omega, by go_num, by rw [kept_hit HS.out HK.out]; simp⟩
                case measure => simp [intOf]; omega
          · have hall : gs.take k = gs := List.take_of_length_le (by have := h2.1; omega)
            rw [hall]
            clear hall hle
            have hne : ((m : Int) != ((keptL rs gs).length : Int)) = false := by have := hs.1; simp; omega
            have hz : ((((keptL rs gs).length : Int) == 0) = true ∧ a.isSome = false) ∨ (((keptL rs gs).length : Int) == 0) = false := by
              by_cases h : keptL rs gs = []
              · exact .inl ⟨by simp [h], by simp [(hnil h).1]⟩
              · right; simp [h]
            clear hnil
            rcases hz with ⟨hz, hno⟩ | hz
            all_goals
              go_wp2
              try clear hno
              clear hz hne
              go_loop [11] (fun i => ∃ k : Nat, k ≤ m ∧ i = .int .i64 k) (fun i => m - (intOf i).toNat)
              case atStart => exact ⟨0, Nat.zero_le _, rfl⟩
              case round =>
                obtain ⟨q, hq, rfl⟩ := hrel
                by_cases hlt2 : q < m
                · obtain ⟨b, off, rfl, s, hs', hsz, hcell⟩ := hs.at hlt2
                  have hkeep : keepB rs s = true := ((mem_kept _ _ _).1 (List.mem_of_getElem? hs')).2
                  clear hs' hsz
                  by_cases hr : n1 = 0
                  · have hr' : ((n1 : Int) != 0) = false := by simp [hr]
                    clear hr hkeep
                    go_wp2
                    go_round
                    case rel => exact ⟨q + 1, by omega, by go_num⟩
                    case measure => simp [intOf]; omega
                  · have hr' : ((n1 : Int) != 0) = true := by simp [hr]
                    have hb : hasB rs s = true := by
                      have := h1.1
                      cases rs with
                      | nil => simp at this; omega
                      | cons _ _ => simpa [keepB] using hkeep
                    clear hr hkeep
                    go_wp2_with (go_at_call 10; refine (has_any a3 n1 c3 rs s _ h1 hl1).mono ?_; rintro e w' ⟨rfl, rfl⟩)
                    go_round
                    case rel => exact ⟨q + 1, by omega, by go_num⟩
                    case measure => simp [intOf]; omega
                · go_wp2
                  go_loopw [12, 13] (fun jv iv wr => ∃ i j : Nat, i ≤ n0 ∧ j ≤ m ∧ iv = .int .i64 i ∧ jv = .int .i64 j ∧ ((keptL rs gs).drop j).Sublist (gs.drop i) ∧ Below w4.heap.size w4 wr) (fun _ iv _ => n0 - (intOf iv).toNat)
                  case atStart => exact ⟨0, 0, Nat.zero_le _, Nat.zero_le _, rfl, rfl, kept_sub _ _, Below.refl _ _⟩
                  case round =>
                    obtain ⟨i, j, hi, hj, rfl, rfl, hsl, hbr⟩ := hrel
                    have HSL : Hid (((keptL rs gs).drop j).Sublist (gs.drop i)) := hsl
                    clear hsl
                    by_cases hi2 : i < n0
                    · by_cases hj2 : j < m
                      · obtain ⟨b, off, rfl, s, hs1, _, hcell1⟩ := (h2.below hbr).at hi2
                        obtain ⟨b', off', rfl, t, ht1, _, hcell2⟩ := (hs.below hbr).at hj2
                        have HS : Hid (gs[i]? = some s) := hs1
                        have HT : Hid ((keptL rs gs)[j]? = some t) := ht1
                        clear hs1 ht1
                        go_wp2
                        go_quiet (fail)
                        go_wp2
                        · have heq : (s.toList == t.toList) = true := by assumption
                          go_roundw
                          case rel =>
                            obtain rfl := (str_eq_iff _ _).1 heq
                            exact ⟨i + 1, j + 1, by omega, by omega, by go_num, by go_num, greedy_hit HSL.out HS.out HT.out, below_drewN hbr _⟩
                          case measure => simp [intOf]; omega
                        · have heq : (s.toList == t.toList) = false := by assumption
                          go_roundw
                          case rel => exact ⟨i + 1, j, by omega, by omega, by go_num, by go_num, greedy_miss HSL.out HS.out HT.out ((str_ne_iff _ _).1 heq), below_drewN hbr _⟩
                          case measure => simp [intOf]; omega
                      · have hfin : ((j : Int) == m) = true := by simp; omega
                        go_wp2
                        go_ret
                        exact ⟨rfl, hb5.trans (hbr.mono hb5.size)⟩
                    · have hd : decide ((i : Int) < n0) = false := by simp; omega
                      have hfin : ((j : Int) == m) = true := by
                        have := greedy_end HSL.out (by have := h2.1; omega)
                        have := hs.1
                        simp; omega
                      go_wp2
                      go_ret
                      exact ⟨rfl, hb5.trans (hbr.mono hb5.size)⟩
end Go.Proofs.Qxb6617098a
