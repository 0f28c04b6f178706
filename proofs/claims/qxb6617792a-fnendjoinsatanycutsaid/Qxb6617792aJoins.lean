import Derived.Test.Qxb6617792aBase
namespace Go.Proofs.Qxb6617792a
open Go.RowKit

theorem end_start {s : Int} (h0 : 0 ≤ s) (h1 : s < 4294967296) : (endU s 0 false == s) = true := by
  rw [beq_iff_eq]; unfold endU; simp; omega
theorem end_second (s : Int) {n k : Nat} (fin : Bool) (hk : ¬ n < k) : (endU s n fin == endU (endU s k false) (n - k) fin) = true := by
  rw [beq_iff_eq]; unfold endU; cases fin <;> simp <;> omega
theorem end_shifted (s : Int) {n k : Nat} (fin : Bool) (hk : ¬ n < k) : (endU s n fin == endU ((s + k) % 4294967296) (n - k) fin) = true := by
  rw [beq_iff_eq]; unfold endU; cases fin <;> simp <;> omega
theorem end_fin (s : Int) (n : Nat) : (endU s n true == (endU s n false + 1) % 4294967296) = true := by
  rw [beq_iff_eq]; unfold endU; simp

theorem slice_from (a : Option Addr) (n c k : Nat) (hk : ¬ n < k) : ∃ a', ∀ w, (Instr.slice 22 (.slice a n c) (some (.int .i64 k)) none none).run Try.prog w = .ok (.slice a' (n - k) (c - k)) w := by
  refine ⟨if c = k then a else a.map (·.add (k * 1)), fun w => ?_⟩
  have ht : Try.prog.underlying 22 = some (.slice (Try.prog.elem 22)) := by kernel_rfl
  have hs : (sizeOf (Try.prog.elem 22)).run Try.prog w = .ok 1 w := by kernel_rfl
  rw [run_slice_l (P := Try.prog) w 22 a n c ht .i64 k (by omega) (by omega), hs]
  simp [sliced, Result.andThen]

set_option maxHeartbeats 1000000 in
set_option maxRecDepth 100000 in
theorem joins_walk (s : Int) (a : Option Addr) (n c : Nat) (zs : List Int) (fin : Bool) (p : Int) (w : World) (hs0 : 0 ≤ s) (hs1 : s < 4294967296) (h : BRow w a n zs) (hnc : n ≤ c) (hm : n ≤ maxLen) :
    Calls Try.prog 4 #[.int .u32 s, .slice a n c, .bool fin, .int .i64 p] w fun e w' => e = .returned (.bool true) ∧ Below w.heap.size w w' := by
  go_enter Try.func4, Try.ntmps4
  go_wp2_with fail
  refine (bytes13_any s a n c fin p _ hm).mono ?_
  rintro e w' ⟨rfl, bb, rfl, hbb⟩
  cases bb
  · go_wp2_with fail
    go_ret
    exact ⟨rfl, Below.refl _ _⟩
  have hl := hbb rfl
  clear hbb hm
  by_cases hp0 : p < 0
  · have hp' : decide (p < 0) = true := by simp; omega
    go_wp2_with fail
    go_ret
    exact ⟨rfl, Below.refl _ _⟩
  have hp' : decide (p < 0) = false := by simp; omega
  obtain ⟨k, rfl⟩ := Int.eq_ofNat_of_zero_le (Int.not_lt.1 hp0)
  by_cases hk : n < k
  · have hk' : decide ((n : Int) < (k : Int)) = true := by simp; omega
    go_wp2_with fail
    go_ret
    exact ⟨rfl, Below.refl _ _⟩
  have hk' : decide ((n : Int) < (k : Int)) = false := by simp; omega
  go_upto_if 35 with fail
  go_cut [1] from 17 (fun v wc => ∃ a c, v = .slice a n c ∧ n ≤ c ∧ Below w.heap.size w wc)
  case first =>
    cases a with
    | none =>
      go_wp2
      go_meet
      case rel => exact ⟨none, c, rfl, hnc, Below.refl _ _⟩
    | some ad =>
      obtain ⟨w1, w2, g, hmk, hcp, hs2, hbel2⟩ := make_copy c h hl
      go_wp2
      go_meet
      case rel => exact ⟨_, _, rfl, Nat.le_refl _, hbel2⟩
  case rest =>
    obtain ⟨a1, c1, rfl, hc1, hb1⟩ := hcut
    clear hnc h hp0 hp' hk'
    obtain ⟨a2, hsl⟩ := slice_from a1 n c1 k hk
    go_wp2_with fail
    refine (ZZEnd_any s _ _ _ false _ (by omega)).mono ?_
    rintro e w2 ⟨rfl, hb2⟩
    have hb2 := hb1.trans (hb2.mono hb1.size)
    clear hb1
    go_wp2_with fail
    refine (ZZEnd_any s _ k _ false _ (by omega)).mono ?_
    rintro e w3 ⟨rfl, hb3⟩
    have hb3 := hb2.trans (hb3.mono hb2.size)
    clear hb2
    go_wp2_with fail
    refine (ZZEnd_any s _ n _ fin _ (by omega)).mono ?_
    rintro e w4 ⟨rfl, hb4⟩
    have hb4 := hb3.trans (hb4.mono hb3.size)
    clear hb3
    go_wp2_with fail
    refine (ZZEnd_any _ _ (n - k) _ fin _ (by omega)).mono ?_
    rintro e w5 ⟨rfl, hb5⟩
    have hb5 := hb4.trans (hb5.mono hb4.size)
    clear hb4
    go_wp2_with fail
    refine (ZZEnd_any _ _ (n - k) _ fin _ (by omega)).mono ?_
    rintro e w6 ⟨rfl, hb6⟩
    have hb6 := hb5.trans (hb6.mono hb5.size)
    clear hb5
    go_wp2_with fail
    refine (ZZEnd_any _ _ n _ true _ (by omega)).mono ?_
    rintro e w7 ⟨rfl, hb7⟩
    have hb7 := hb6.trans (hb7.mono hb6.size)
    clear hb6
    go_wp2_with fail
    refine (ZZEnd_any _ _ n _ false _ (by omega)).mono ?_
    rintro e w8 ⟨rfl, hb8⟩
    have hb8 := hb7.trans (hb8.mono hb7.size)
    clear hb7
    have e1 := end_start hs0 hs1
    have e2 := end_second s fin hk
    have e3 := end_shifted s fin hk
    have e4 := end_fin s n
    go_wp2_with fail
    go_ret
    exact ⟨rfl, hb8⟩
end Go.Proofs.Qxb6617792a
