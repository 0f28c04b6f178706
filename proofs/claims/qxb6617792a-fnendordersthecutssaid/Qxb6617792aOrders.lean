import Derived.Test.Qxb6617792aBase
namespace Go.Proofs.Qxb6617792a
open Go.RowKit

theorem before_start {s : Int} {n k : Nat} (hn : n ≤ 1048576) (hk : ¬ n < k) : beforeB s (endU s k false) = decide ((0 : Int) < k) := by
  unfold beforeB endU
  rw [decide_eq_decide]
  simp
  omega

theorem before_whole {s : Int} {n k : Nat} (fin : Bool) (hn : n ≤ 1048576) (hk : ¬ n < k) : beforeB (endU s k false) (endU s n fin) = (decide ((k : Int) < n) || fin) := by
  unfold beforeB endU
  cases fin
  · rw [Bool.or_false, decide_eq_decide]
    simp
    omega
  · rw [Bool.or_true, decide_eq_true_eq]
    simp
    omega

theorem before_not {s : Int} {n k : Nat} (fin : Bool) (hn : n ≤ 1048576) (hk : ¬ n < k) : beforeB (endU s n fin) (endU s k false) = false := by
  unfold beforeB endU
  rw [decide_eq_false_iff_not]
  cases fin <;> simp <;> omega

theorem behind_no {s : Int} {n k : Nat} (hn : n ≤ 1048576) (hk : ¬ n < k) : ((endU s n false - endU s k false) % 4294967296 == (n : Int) - k) = true := by
  rw [beq_iff_eq]; unfold endU; simp; omega
theorem behind_yes {s : Int} {n k : Nat} (hn : n ≤ 1048576) (hk : ¬ n < k) : ((endU s n true - endU s k false) % 4294967296 == (n : Int) - k + 1) = true := by
  rw [beq_iff_eq]; unfold endU; simp; omega

set_option maxHeartbeats 1000000 in
set_option maxRecDepth 100000 in
theorem orders_walk (s : Int) (a : Option Addr) (n c : Nat) (zs : List Int) (fin : Bool) (p : Int) (w : World) (h : BRow w a n zs) (hnc : n ≤ c) (hm : n ≤ maxLen) :
    Calls Try.prog 5 #[.int .u32 s, .slice a n c, .bool fin, .int .i64 p] w fun e w' => e = .returned (.bool true) ∧ Below w.heap.size w w' := by
  go_enter Try.func5, Try.ntmps5
  go_wp2_with fail
  refine (bytes15_any s a n c fin p _ hm).mono ?_
  rintro e w' ⟨rfl, bb, rfl, hbb⟩
  cases bb
  · go_wp2_with fail
    go_ret
    exact ⟨rfl, Below.refl _ _⟩
  have hl := hbb rfl
  clear hbb hm
  by_cases hp0 : p < 0
  · have hp' : decide (p < 0) = true := by simp; omega
    go_wp2_with fail
    go_ret
    exact ⟨rfl, Below.refl _ _⟩
  have hp' : decide (p < 0) = false := by simp; omega
  obtain ⟨k, rfl⟩ := Int.eq_ofNat_of_zero_le (Int.not_lt.1 hp0)
  by_cases hk : n < k
  · have hk' : decide ((n : Int) < (k : Int)) = true := by simp; omega
    go_wp2_with fail
    go_ret
    exact ⟨rfl, Below.refl _ _⟩
  have hk' : decide ((n : Int) < (k : Int)) = false := by simp; omega
  go_upto_if 31 with fail
  go_cut [1] from 13 (fun v wc => ∃ a c, v = .slice a n c ∧ n ≤ c ∧ Below w.heap.size w wc)
  case first =>
    cases a with
    | none =>
      go_wp2
      go_meet
      case rel => exact ⟨none, c, rfl, hnc, Below.refl _ _⟩
    | some ad =>
      obtain ⟨w1, w2, g, hmk, hcp, hs2, hbel2⟩ := make_copy c h hl
      go_wp2
      go_meet
      case rel => exact ⟨_, _, rfl, Nat.le_refl _, hbel2⟩
  case rest =>
    obtain ⟨a1, c1, rfl, hc1, hb1⟩ := hcut
    clear hnc h hp0 hp' hk'
    go_wp2_with fail
    refine (ZZEnd_any s _ k _ false _ (by omega)).mono ?_
    rintro e w3 ⟨rfl, hb3⟩
    have hb3 := hb1.trans (hb3.mono hb1.size)
    clear hb1
    go_wp2_with fail
    refine (ZZEnd_any s _ n _ fin _ (by omega)).mono ?_
    rintro e w4 ⟨rfl, hb4⟩
    have hb4 := hb3.trans (hb4.mono hb3.size)
    clear hb3
    have E1 : Hid (beforeB s (endU s k false) = decide ((0 : Int) < k)) := before_start hl hk
    have E2 : Hid (beforeB (endU s k false) (endU s n fin) = (decide ((k : Int) < n) || fin)) := before_whole fin hl hk
    have E3 : Hid (beforeB (endU s n fin) (endU s k false) = false) := before_not fin hl hk
    cases fin
    · by_cases hkn : k < n
      · have hd : decide ((k : Int) < n) = true := by simp; omega
        go_wp2_with fail
        refine (ZZSeqBefore_any s _ _).mono ?_
        rintro e w' ⟨rfl, rfl⟩
        rw [E1.out]
        go_wp2_with fail
        refine (ZZSeqBefore_any _ _ _).mono ?_
        rintro e w' ⟨rfl, rfl⟩
        rw [E2.out]
        go_wp2_with fail
        refine (ZZSeqBefore_any _ _ _).mono ?_
        rintro e w' ⟨rfl, rfl⟩
        rw [E3.out]
        go_wp2_with fail
        go_ret
        exact ⟨ret_bool (behind_no hl hk), hb4⟩
      · have hd : decide ((k : Int) < n) = false := by simp; omega
        go_wp2_with fail
        refine (ZZSeqBefore_any s _ _).mono ?_
        rintro e w' ⟨rfl, rfl⟩
        rw [E1.out]
        go_wp2_with fail
        refine (ZZSeqBefore_any _ _ _).mono ?_
        rintro e w' ⟨rfl, rfl⟩
        rw [E2.out]
        go_wp2_with fail
        refine (ZZSeqBefore_any _ _ _).mono ?_
        rintro e w' ⟨rfl, rfl⟩
        rw [E3.out]
        go_wp2_with fail
        go_ret
        exact ⟨ret_bool (behind_no hl hk), hb4⟩
    · by_cases hkn : k < n
      · have hd : decide ((k : Int) < n) = true := by simp; omega
        go_wp2_with fail
        refine (ZZSeqBefore_any s _ _).mono ?_
        rintro e w' ⟨rfl, rfl⟩
        rw [E1.out]
        go_wp2_with fail
        refine (ZZSeqBefore_any _ _ _).mono ?_
        rintro e w' ⟨rfl, rfl⟩
        rw [E2.out]
        go_wp2_with fail
        refine (ZZSeqBefore_any _ _ _).mono ?_
        rintro e w' ⟨rfl, rfl⟩
        rw [E3.out]
        go_wp2_with fail
        go_ret
        exact ⟨ret_bool (behind_yes hl hk), hb4⟩
      · have hd : decide ((k : Int) < n) = false := by simp; omega
        go_wp2_with fail
        refine (ZZSeqBefore_any s _ _).mono ?_
        rintro e w' ⟨rfl, rfl⟩
        rw [E1.out]
        go_wp2_with fail
        refine (ZZSeqBefore_any _ _ _).mono ?_
        rintro e w' ⟨rfl, rfl⟩
        rw [E2.out]
        go_wp2_with fail
        refine (ZZSeqBefore_any _ _ _).mono ?_
        rintro e w' ⟨rfl, rfl⟩
        rw [E3.out]
        go_wp2_with fail
        go_ret
        exact ⟨ret_bool (behind_yes hl hk), hb4⟩
end Go.Proofs.Qxb6617792a
