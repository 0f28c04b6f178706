import Derived.Test.Qxb6617792aAppend
namespace Go.Proofs.Qxb6617792a
open Go.RowKit

theorem BRow.keep {w w' : World} {a : Option Addr} {n : Nat} {zs : List Int} (h : BRow w a n zs) (hb : ∀ b off, a = some ⟨b, off, none⟩ → w'.heap[b]? = w.heap[b]?) : BRow w' a n zs := by
  refine ⟨h.1, h.2.1, fun hn => ?_⟩
  obtain ⟨b, off, rfl, hc⟩ := h.2.2 hn
  exact ⟨b, off, rfl, fun j hj => (World.cell?_of_block (w := w) (hb b off rfl)).trans (hc j hj)⟩

theorem BRow.grown {w w' : World} {g off n : Nat} {zs : List Int} {r : Nat} (h : BRow w (some ⟨g, off, none⟩) n zs) (hg : w.grownBy w' (some r)) (hlt : g < w.heap.size) (hne : g ≠ r) : BRow w' (some ⟨g, off, none⟩) n zs :=
  h.keep (fun b o e => by
    obtain ⟨rfl, rfl⟩ : g = b ∧ off = o := by simpa using e
    exact hg.block g hlt (by simpa using hne))

theorem BRow.drewN {w : World} {a : Option Addr} {n : Nat} {zs : List Int} (h : BRow w a n zs) (q : Nat) : BRow (w.drewN q) a n zs := h

theorem BRow.first {w : World} {a : Option Addr} {n m : Nat} {xs ys : List Int} (h : BRow w a (n + m) (xs ++ ys)) (hx : xs.length = n) : BRow w a n xs := by
  refine ⟨hx, fun z hz => h.2.1 z (List.mem_append_left _ hz), fun hn => ?_⟩
  obtain ⟨b, off, rfl, hc⟩ := h.2.2 (by omega)
  refine ⟨b, off, rfl, fun j hj => ?_⟩
  rw [hc j (by omega), getD_left (by omega)]

theorem Below.grownBy {B : Nat} {W w w' : World} {g : Nat} (h : Below B W w) (hg : w.grownBy w' (some g)) (hB : B ≤ w.heap.size) (hr : B ≤ g) : Below B W w' :=
  h.grown hg hB (fun k hk => by simp at hk; omega)

theorem BRow.take {w : World} {a : Option Addr} {n : Nat} {zs : List Int} (h : BRow w a n zs) {k : Nat} (hk : k ≤ n) : BRow w a k (zs.take k) := by
  have := h.1
  refine ⟨by simp; omega, fun z hz => h.2.1 z (List.mem_of_mem_take hz), fun hn => ?_⟩
  obtain ⟨b, off, rfl, hc⟩ := h.2.2 (by omega)
  refine ⟨b, off, rfl, fun j hj => ?_⟩
  rw [hc j (by omega)]
  simp [List.getD, hj]

theorem slice_cut (a : Option Addr) (n c k : Nat) (hk : ¬ n < k) (hnc : n ≤ c) (hnil : a = none → n = 0 ∧ c = 0) : ∃ a', (∀ w, (Instr.slice 22 (.slice a n c) (some (.int .i64 k)) none none).run Try.prog w = .ok (.slice a' (n - k) (c - k)) w) ∧
    (a' = none → n - k = 0 ∧ c - k = 0) ∧ ∀ w zs, BRow w a n zs → BRow w a' (n - k) (zs.drop k) := by
  refine ⟨if c = k then a else a.map (·.add (k * 1)), fun w => ?_, fun h => ?_, fun w zs h => ?_⟩
  · have ht : Try.prog.underlying 22 = some (.slice (Try.prog.elem 22)) := by kernel_rfl
    have hs : (sizeOf (Try.prog.elem 22)).run Try.prog w = .ok 1 w := by kernel_rfl
    rw [run_slice_l (P := Try.prog) w 22 a n c ht .i64 k (by omega) (by omega), hs]
    simp [sliced, Result.andThen]
  · split at h
    · omega
    · cases a with
      | none => have := hnil rfl; omega
      | some _ => simp at h
  · have hl := h.1
    refine ⟨by simp [hl], fun z hz => h.2.1 z (List.mem_of_mem_drop hz), fun hn => ?_⟩
    obtain ⟨b, off, rfl, hc⟩ := h.2.2 (by omega)
    rw [if_neg (by omega)]
    refine ⟨b, off + k, by simp [Addr.add_lit], fun j hj => ?_⟩
    rw [Nat.add_assoc, hc (k + j) (by omega)]
    simp [List.getD]

set_option maxHeartbeats 1000000 in
set_option maxRecDepth 100000 in
theorem stream_walk (a0 a1 : Option Addr) (n0 c0 n1 c1 : Nat) (xs ys : List Int) (p : Int) (w : World) (h0 : BRow w a0 n0 xs) (h1 : BRow w a1 n1 ys) (hc1 : n1 ≤ c1) (hnil : a1 = none → n1 = 0 ∧ c1 = 0) (hm0 : n0 ≤ maxLen) (hm1 : n1 ≤ maxLen) :
    Calls Try.prog 3 #[.slice a0 n0 c0, .slice a1 n1 c1, .int .i64 p] w fun e w' => e = .returned (.bool true) ∧ Below w.heap.size w w' := by
  go_enter Try.func3, Try.ntmps3
  go_wp2_with fail
  refine (bytes8_any a0 a1 n0 c0 n1 c1 p _ hm0 hm1).mono ?_
  rintro e w' ⟨rfl, bb, rfl, hbb⟩
  cases bb
  · go_wp2_with fail
    go_ret
    exact ⟨rfl, Below.refl _ _⟩
  obtain ⟨hl0, hl1⟩ := hbb rfl
  clear hbb hm0 hm1
  by_cases hg0 : 524288 < n0
  · go_wp2_with fail
    go_ret
    exact ⟨rfl, Below.refl _ _⟩
  by_cases hg1 : 524288 < n1
  · go_wp2_with fail
    go_ret
    exact ⟨rfl, Below.refl _ _⟩
  by_cases hp0 : p < 0
  · have hp' : decide (p < 0) = true := by simp; omega
    go_wp2_with fail
    go_ret
    exact ⟨rfl, Below.refl _ _⟩
  have hp' : decide (p < 0) = false := by simp; omega
  obtain ⟨k, rfl⟩ := Int.eq_ofNat_of_zero_le (Int.not_lt.1 hp0)
  by_cases hk : n1 < k
  · have hk' : decide ((n1 : Int) < (k : Int)) = true := by simp; omega
    go_wp2_with fail
    go_ret
    exact ⟨rfl, Below.refl _ _⟩
  have hk' : decide ((n1 : Int) < (k : Int)) = false := by simp; omega
  go_upto_if 33 with fail
  go_cut [1] from 13 (fun v wc => ∃ a c, v = .slice a n1 c ∧ n1 ≤ c ∧ (a = none → n1 = 0 ∧ c = 0) ∧ BRow wc a n1 ys ∧ Below w.heap.size w wc)
  case first =>
    cases a1 with
    | none =>
      have HN : Hid (n1 = 0 ∧ c1 = 0) := hnil rfl
      clear hnil
      go_wp2
      go_meet
      case rel => exact ⟨none, c1, rfl, hc1, fun _ => HN.out, h1, Below.refl _ _⟩
    | some ad =>
      obtain ⟨w1, w2, g, hmk, hcp, hs2, hbel2⟩ := make_copy c1 h1 hl1
      clear hnil
      go_wp2
      go_meet
      case rel => exact ⟨_, _, rfl, Nat.le_refl _, fun h => by simp at h, hs2, hbel2⟩
  case rest =>
    clear hc1 hnil
    obtain ⟨a, c, rfl, hc1, hnil, hY, hb1⟩ := hcut
    have HNIL : Hid (a = none → n1 = 0 ∧ c = 0) := hnil
    clear hnil
    have h0' := h0.below hb1
    clear h0 h1 hp0 hp' hk'
    go_wp2_with fail
    refine (exactCopy_any a0 n0 c0 xs _ h0' hl0).mono ?_
    rintro e w1 ⟨g0, rfl, hf0, hbw1⟩
    have hb1 := hb1.trans (hbw1.mono hb1.size)
    have hY1 := hY.below hbw1
    go_wp2_with fail
    refine (concat_any (some ⟨g0, 0, none⟩) a n0 n0 n1 c xs ys _ hf0.brow hY1 hl0 hl1).mono ?_
    rintro e w2 ⟨gm, rfl, hfm, hbw2⟩
    have hb2 := hb1.trans (hbw2.mono hb1.size)
    have hX2 := hf0.brow.below hbw2
    go_wp2_with fail
    refine (exactCopy_any (some ⟨g0, 0, none⟩) n0 n0 xs _ hX2 hl0).mono ?_
    rintro e w3 ⟨gA, rfl, hfA, hbw3⟩
    have hb3 := hb2.trans (hbw3.mono hb2.size)
    have hX3 := hX2.below hbw3
    go_wp2_with fail
    refine (exactCopy_any (some ⟨g0, 0, none⟩) n0 n0 xs _ hX3 hl0).mono ?_
    rintro e w4 ⟨gB, rfl, hfB, hbw4⟩
    have hb4 := hb3.trans (hbw4.mono hb3.size)
    have hYW : BRow w4 a n1 ys := ((hY1.below hbw2).below hbw3).below hbw4
    have hXW : BRow w4 (some ⟨g0, 0, none⟩) n0 xs := hX3.below hbw4
    have lt0 : g0 < w1.heap.size := hf0.row.lt
    have ltm : gm < w2.heap.size := hfm.row.lt
    have ltA : gA < w3.heap.size := hfA.row.lt
    have ltB : gB < w4.heap.size := hfB.row.lt
    have s2 := hbw2.size
    have s3 := hbw3.size
    have s4 := hbw4.size
    have leA := hfA.le
    have leB := hfB.le
    have hM4 : BRow w4 (some ⟨gm, 0, none⟩) (n0 + n1) (xs ++ ys) := (hfm.brow.below hbw3).below hbw4
    have hA4 : OwnB w4 gA n0 n0 xs := (hfA.own (by unfold maxLen; omega)).grown (row := none) ⟨hbw4.os, hbw4.tape, hbw4.output, hbw4.size, fun k hk _ => hbw4.block k hk⟩ (by simp)
    have hB4 : OwnB w4 gB n0 n0 xs := hfB.own (by unfold maxLen; omega)
    have hbc : Below wc.heap.size wc w4 := ((hbw1.trans (hbw2.mono hbw1.size)).trans (hbw3.mono (Nat.le_trans hbw1.size hbw2.size))).trans (hbw4.mono (Nat.le_trans hbw1.size (Nat.le_trans hbw2.size hbw3.size)))
    have s1 := hbw1.size
    have sw := hb1.size
    clear hY1 hX2 hX3 hf0 hfm hfA hfB hbw1 hbw2 hbw3 hbw4 hb1 hb2 hb3 hYW h0'
    have hnk : a = none → k = 0 ∧ c = 0 := fun h => by have := HNIL.out h; omega
    have HNK : Hid (a = none → k = 0 ∧ c = 0) := hnk
    obtain ⟨a', hsl, hn', hcutY⟩ := slice_cut a n1 c k hk hc1 HNIL.out
    have HN' : Hid (a' = none → n1 - k = 0 ∧ c - k = 0) := hn'
    have HCY : Hid (∀ w zs, BRow w a n1 zs → BRow w a' (n1 - k) (zs.drop k)) := hcutY
    clear hnk hn' hcutY
    go_wp2_with fail
    refine (ZZAppendStream_any gA n0 n0 a n1 c xs ys _ hA4 (hY.below hbc) HNIL.out (by omega) (by omega)).mono ?_
    rintro e w5 ⟨g5, c5, rfl, hO5, hA5, hgr5, hg5⟩
    have s5 := hgr5.size
    have lt5 := hO5.lt
    have hbc := Below.grownBy hbc hgr5 (by omega) (by omega)
    have hb5 := Below.grownBy hb4 hgr5 (by omega) (by omega)
    have hX5 := hXW.grown hgr5 (by omega) (by omega)
    have hM5 := hM4.grown hgr5 (by omega) (by omega)
    have hB5 := hB4.grown hgr5 (by simp; omega)
    clear hA4 hB4 hXW hM4 hb4 hgr5
    go_wp2_with fail
    refine (ZZAppendStream_any gB n0 n0 a k c xs (ys.take k) _ hB5 ((hY.below hbc).take (by omega)) HNK.out (by omega) (by omega)).mono ?_
    rintro e w6 ⟨g6, c6, rfl, hO6, hB6, hgr6, hg6⟩
    have s6 := hgr6.size
    have lt6 := hO6.lt
    have hbc := Below.grownBy hbc hgr6 (by omega) (by omega)
    have hb6 := Below.grownBy hb5 hgr6 (by omega) (by omega)
    have hX6 := hX5.grown hgr6 (by omega) (by omega)
    have hM6 := hM5.grown hgr6 (by omega) (by omega)
    have hA6 := hA5.grown hgr6 (by omega) (by omega)
    have hW6 := hO5.grown hgr6 (by simp; omega)
    clear hB5 hX5 hM5 hA5 hO5 hb5 hgr6
    go_wp2_with fail
    refine (ZZAppendStream_any g6 (n0 + k) c6 a' (n1 - k) (c - k) (xs ++ ys.take k) (ys.drop k) _ hO6 (HCY.out _ _ (hY.below hbc)) HN'.out (by omega) (by omega)).mono ?_
    rintro e w7 ⟨g7, c7, rfl, hO7, hP7, hgr7, hg7⟩
    have hb7 := Below.grownBy hb6 hgr7 (by omega) (by omega)
    have hX7 := hX6.grown hgr7 (by omega) (by omega)
    have hM7 := hM6.grown hgr7 (by omega) (by omega)
    have hA7 := hA6.grown hgr7 (by omega) (by omega)
    have hW7 := (hW6.grown hgr7 (by simp; omega)).brow
    have hB7 : BRow w7 (some ⟨gB, 0, none⟩) n0 xs := by
      rcases hg6 with rfl | hg6
      · exact hP7.first hX7.1
      · exact hB6.grown hgr7 (by omega) (by omega)
    have hQ7 := hO7.brow
    rw [List.append_assoc, List.take_append_drop] at hQ7
    rw [show n0 + k + (n1 - k) = n0 + n1 by omega] at hQ7 ⊢
    clear hX6 hM6 hA6 hW6 hB6 hP7 hO7 hgr7 hb6 hO6 hg7 hg6 hg5 hY hbc hsl lt5 lt6 s6 s5 s4 s3 s2 s1 sw leA leB lt0 ltm ltA ltB
    go_wp2_with fail
    refine (bytesEq_yes _ _ (n0 + n1) _ _ (xs ++ ys) _ hW7 hM7 (by omega)).mono ?_
    rintro e w' ⟨rfl, q1, rfl⟩
    go_wp2_with fail
    refine (bytesEq_yes _ _ (n0 + n1) _ _ (xs ++ ys) _ (hQ7.drewN _) (hM7.drewN _) (by omega)).mono ?_
    rintro e w' ⟨rfl, q2, rfl⟩
    go_wp2_with fail
    refine (bytesEq_yes _ _ n0 _ _ xs _ (hA7.drewN _) (hX7.drewN _) (by omega)).mono ?_
    rintro e w' ⟨rfl, q3, rfl⟩
    go_wp2_with fail
    refine (bytesEq_yes _ _ n0 _ _ xs _ (hB7.drewN _) (hX7.drewN _) (by omega)).mono ?_
    rintro e w' ⟨rfl, q4, rfl⟩
    go_wp2_with fail
    go_ret
    exact ⟨rfl, by simpa using below_drewN hb7 _⟩
end Go.Proofs.Qxb6617792a
