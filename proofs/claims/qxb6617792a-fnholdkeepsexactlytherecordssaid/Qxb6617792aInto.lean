import Derived.Test.Qxb6617792aHold
namespace Go.Proofs.Qxb6617792a
open Go.RowKit

theorem cell_set3d {w : World} {b g o i j l : Nat} {x y z : Value} (h : b ≠ g) : (((w.setCell ⟨g, i, none⟩ x).setCell ⟨g, j, none⟩ y).setCell ⟨g, l, none⟩ z).drew.cell? ⟨b, o, none⟩ = w.cell? ⟨b, o, none⟩ := cell_set3 h

theorem vs_at {ss : List Seg} {k n : Nat} (hk : k < n) (f : Seg → Value) {v : Value} (h : ((ss.take n).map f)[k]? = some v) : ∃ s, ss[k]? = some s ∧ f s = v := by
  simp only [List.getElem?_map, List.getElem?_take, if_pos hk, Option.map_eq_some_iff] at h
  exact h

theorem TRow.at {w : World} {a1 a2 a3 : Option Addr} {n : Nat} {ss : List Seg} (h : TRow w a1 a2 a3 n ss) {k : Nat} (hk : k < n) :
    ∃ b1 o1 b2 o2 b3 o3, a1 = some ⟨b1, o1, none⟩ ∧ a2 = some ⟨b2, o2, none⟩ ∧ a3 = some ⟨b3, o3, none⟩ ∧ ∃ q pa pn pc pf, ss[k]? = some (Seg.mk q pa pn pc pf) ∧
      w.cell? ⟨b1, o1 + k, none⟩ = some (.int .u32 q) ∧ w.cell? ⟨b2, o2 + k, none⟩ = some (.slice pa pn pc) ∧ w.cell? ⟨b3, o3 + k, none⟩ = some (.bool pf) := by
  obtain ⟨b1, o1, e1, v1, g1, c1⟩ := h.2.1.at hk
  obtain ⟨b2, o2, e2, v2, g2, c2⟩ := h.2.2.1.at hk
  obtain ⟨b3, o3, e3, v3, g3, c3⟩ := h.2.2.2.at hk
  obtain ⟨s1, k1, rfl⟩ := vs_at hk _ g1
  obtain ⟨s2, k2, rfl⟩ := vs_at hk _ g2
  obtain ⟨s3, k3, rfl⟩ := vs_at hk _ g3
  obtain rfl : s1 = s2 := by rw [k1] at k2; exact Option.some.inj k2
  obtain rfl : s1 = s3 := by rw [k1] at k3; exact Option.some.inj k3
  exact ⟨b1, o1, b2, o2, b3, o3, e1, e2, e3, _, _, _, _, _, k1, c1, c2, c3⟩

theorem make_seg (n : Nat) (hn : n ≤ 1048576) (w : World) : ∃ w1, (Instr.makeSlice 51 (.int .i64 (n : Int)) (.int .i64 (n : Int))).run Try.prog w = .ok (.slice (some ⟨w.heap.size, 0, none⟩) n n) w1 ∧ HOwn 48 w1 w.heap.size n [] ∧ Below w.heap.size w w1 := by
  obtain ⟨i0, hi, hz0, hz1, hz2⟩ := info_parts Try.info48
  have hmk := run_make (P := Try.prog) w 51 48 i0 _ Try.underlying51 hi hz0 .i64 .i64 n n (by omega) (by omega) (by rw [hz2]; omega) (by omega)
  simp only [Int.toNat_natCast, hz1] at hmk
  exact ⟨_, hmk, ⟨_, Go.heap_alloc_new w _, size_madeCells _ _, by simp⟩, (Below.refl _ _).alloc (Nat.le_refl _) _⟩

/-- The first k segments, under a name that the walk leaves standing. -/
def headS (ss : List Seg) (k : Nat) : List Seg := ss.take k
theorem headS_step {ss : List Seg} {k : Nat} {s : Seg} (h : ss[k]? = some s) : headS ss (k + 1) = headS ss k ++ [s] := by
  unfold headS; rw [List.take_add_one, h]; rfl
theorem headS_len {ss : List Seg} {k : Nat} (h : k ≤ ss.length) : (headS ss k).length = k := by simp [headS]; omega
theorem headS_all {ss : List Seg} {k : Nat} (h : ss.length ≤ k) : headS ss k = ss := List.take_of_length_le h

theorem HOwn.owns {w : World} {g n B : Nat} {ss : List Seg} (h : HOwn 48 w g n ss) (hl : ss.length = n) (hB : B ≤ g) (hn : n ≤ maxLen) : w.ownsRow B 48 3 (.slice (some ⟨g, 0, none⟩) n n) n (segV ss) := by
  obtain ⟨cur, hg, hs, hc⟩ := h
  refine ⟨by rw [segV_len, hl], .inr ⟨g, n, cur, rfl, hB, hg, Nat.le_refl _, hn, hs, ?_⟩⟩
  rw [List.take_of_length_le (by simp [hs])]
  apply List.ext_getElem?
  intro i
  by_cases hi : i < n * 3
  · have h1 : i = i / 3 * 3 + i % 3 := by omega
    have hj : i / 3 < ss.length := by omega
    have hsj : ss[i / 3]? = some ss[i / 3] := by simp [hj]
    obtain ⟨c1, c2, c3⟩ := hc _ _ hsj
    obtain ⟨d1, d2, d3⟩ := segV_at hsj
    have hr : i % 3 = 0 ∨ i % 3 = 1 ∨ i % 3 = 2 := by omega
    rcases hr with hr | hr | hr
    · rw [show i = i / 3 * 3 by omega, d1]; simpa using c1
    · rw [show i = i / 3 * 3 + 1 by omega, d2]; simpa using c2
    · rw [show i = i / 3 * 3 + 2 by omega, d3]; simpa using c3
  · rw [List.getElem?_eq_none (by simp; omega), List.getElem?_eq_none (by rw [segV_len]; omega)]

theorem block_of_at {w : World} {a : Option Addr} {n : Nat} {vs : List Value} (h : VRow w a n vs) (hn : 0 < n) {b off : Nat} (e : a = some ⟨b, off, none⟩) : b < w.heap.size := by
  obtain ⟨b', off', e', v, hv, hc⟩ := h.at hn
  rw [e] at e'
  obtain ⟨rfl, rfl⟩ : b = b' ∧ off = off' := by simpa using e'
  exact World.block_lt_of_cell? _ _ hc

set_option maxHeartbeats 2000000 in
set_option maxRecDepth 100000 in
theorem holdInto_any (a1 a2 a3 : Option Addr) (n c1 c2 c3 : Nat) (ss : List Seg) (sq : Int) (sa : Option Addr) (sn sc : Nat) (sf : Bool) (w : World) (h : TRow w a1 a2 a3 n ss) (hn : n ≤ 1048575) (hall : ∀ s ∈ ss, s.n ≤ 1048576) (hsn : sn ≤ 1048576) :
    Calls Try.prog 21 #[.slice a1 n c1, .slice a2 n c2, .slice a3 n c3, .int .u32 sq, .slice sa sn sc, .bool sf] w fun e w' =>
      Triple (holdL ss (Seg.mk sq sa sn sc sf)).length (holdL ss (Seg.mk sq sa sn sc sf)) e w' ∧ Below w.heap.size w w' := by
  have HALL : Hid (∀ s ∈ ss, s.n ≤ 1048576) := hall
  clear hall
  obtain ⟨w1, hmk, ho, hb1⟩ := make_seg n (by omega) w
  have hlo := ho.lt
  go_enter Try.func21, Try.ntmps21
  go_wp2
  clear hmk
  go_loopw [16] (fun i wr => ∃ k : Nat, k ≤ n ∧ i = .int .i64 k ∧ HOwn 48 wr w.heap.size n (headS ss k) ∧ wr.cell? ⟨w1.heap.size, 0, none⟩ = some (.slice (some ⟨w.heap.size, 0, none⟩) n n) ∧ wr.frozen? ⟨w1.heap.size, 0, none⟩ = false ∧ w1.heap.size < wr.heap.size ∧ Below w.heap.size w wr) (fun i _ => n - (intOf i).toNat)
  case atStart => exact ⟨0, Nat.zero_le _, rfl, by simpa [headS] using ho.keep (Below.heap_alloc _ _ _ hlo), by simp [go_sem], by simp [go_sem], by simp, hb1.alloc hb1.size _⟩
  case round =>
    clear ho hb1
    obtain ⟨k, hk, rfl, ho, hr, hfz, hsz, hb⟩ := hrel
    by_cases hlt : k < n
    · obtain ⟨b1, o1, b2, o2, b3, o3, rfl, rfl, rfl, q, pa, pn, pc, pf, hs, hc1, hc2, hc3⟩ := (h.below hb).at hlt
      have l1 := block_of_at h.2.1 (by omega) rfl
      have l2 := block_of_at h.2.2.1 (by omega) rfl
      have l3 := block_of_at h.2.2.2 (by omega) rfl
      have HS : Hid (ss[k]? = some (Seg.mk q pa pn pc pf)) := hs
      clear hs
      have n1 : b1 ≠ w.heap.size := by omega
      have n2 : b2 ≠ w.heap.size := by omega
      have n3 : b3 ≠ w.heap.size := by omega
      have n4 : w1.heap.size ≠ w.heap.size := by omega
      obtain ⟨⟨v0, hv0⟩, hf0⟩ := ho.there (i := k * 3) (by omega)
      obtain ⟨⟨v1, hv1⟩, hf1⟩ := ho.there (i := k * 3 + 1) (by omega)
      obtain ⟨⟨v2, hv2⟩, hf2⟩ := ho.there (i := k * 3 + 2) (by omega)
      go_wp2
      go_region_held3 (fun w' => w'.cell? ⟨w1.heap.size, 0, none⟩ = some (.slice (some ⟨w.heap.size, 0, none⟩) n n) ∧ w'.cell? ⟨b1, o1 + k, none⟩ = some (.int .u32 q) ∧ w'.cell? ⟨b2, o2 + k, none⟩ = some (.slice pa pn pc) ∧ w'.cell? ⟨b3, o3 + k, none⟩ = some (.bool pf))
        (first | exact ⟨hr, hc1, hc2, hc3⟩ | (go_keep; done) | ((exact ⟨(cell_set3d n4).trans hr, (cell_set3d n1).trans hc1, (cell_set3d n2).trans hc2, (cell_set3d n3).trans hc3⟩)))
        (fail)
      go_wp2
      go_roundw
      case rel =>
        have hl := h.1
        refine ⟨k + 1, by omega, by go_num, ?_, (cell_set3d n4).trans hr, ?_, ?_, ?_⟩
        · rw [headS_step HS.out]
          exact ho.push (headS_len (by omega)) hlt (Seg.mk q pa pn pc pf)
        · exact (World.frozen?_of_block (w := wr) (a := ⟨w1.heap.size, 0, none⟩) (block_set3 _ n4)).trans hfz
        · show w1.heap.size < (((wr.setCell _ _).setCell _ _).setCell _ _).heap.size
          simp [World.setCell]; exact hsz
        · exact (((hb.setCell (Nat.le_refl _) _).setCell (Nat.le_refl _) _).setCell (Nat.le_refl _) _).drew
      case measure => simp [intOf]; omega
    · have hl := h.1
      rw [headS_all (show ss.length ≤ k by omega)] at ho
      have hown := ho.owns hl (Nat.le_refl _) (by unfold maxLen; omega)
      have hne : (Value.slice (some ⟨w.heap.size, 0, none⟩) n n).ownBlock ≠ some w1.heap.size := by simp [Value.ownBlock]; omega
      clear hl
      go_wp2_with fail
      refine (hold_any w.heap.size w1.heap.size (some ⟨w.heap.size, 0, none⟩) n n ss sq sa sn sc sf _ hr hfz hown (by omega) hsz hne (by omega) HALL.out hsn).mono ?_
      rintro e w2 ⟨rfl, ⟨a', c', hr2, hrow2⟩, hb2⟩
      have hlen : (holdL ss (Seg.mk sq sa sn sc sf)).length ≤ 1048576 := by
        have := h.1
        unfold holdL
        split
        · omega
        · simp; omega
      obtain ⟨hs, hhs⟩ : ∃ hs, holdL ss (Seg.mk sq sa sn sc sf) = hs := ⟨_, rfl⟩
      rw [hhs] at hr2 hrow2 hlen
      have HG : Hid (holdL ss (Seg.mk sq sa sn sc sf) = hs) := hhs
      clear hhs
      clear h ho hown hne hr hfz hsz
      have hbA := hb.trans (hb2.mono (Nat.le_refl _))
      clear hb hb2
      have lR := World.block_lt_of_cell? _ _ hr2
      have lR : w1.heap.size < w2.heap.size := lR
      obtain ⟨w3, g1, hmk1, hg1, ho1, hb3⟩ := make_v Try.underlying35 Try.info27 (by omega) hs.length (by omega) w2
      obtain ⟨w4, g2, hmk2, hg2, ho2, hb4⟩ := make_v Try.underlying36 Try.info22 (by omega) hs.length (by omega) w3
      obtain ⟨w5, g3, hmk3, hg3, ho3, hb5⟩ := make_v Try.underlying37 Try.info4 (by omega) hs.length (by omega) w4
      have l1 := ho1.lt
      have l2 := ho2.lt
      have l3 := ho3.lt
      have s4 := hb4.size
      have s5 := hb5.size
      have hr3 := cell_later hb3 hr2
      have hr4 := cell_later hb4 hr3
      have hr5 := cell_later hb5 hr4
      have ho1 := (ho1.keep (hb4.block _ l1)).keep (hb5.block _ (by omega))
      have ho2 := ho2.keep (hb5.block _ l2)
      have hb34 := hb3.trans (hb4.mono hb3.size)
      have hb345 := hb34.trans (hb5.mono hb34.size)
      have n12 : g1 ≠ g2 := by omega
      have n13 : g1 ≠ g3 := by omega
      have n23 : g2 ≠ g3 := by omega
      have lw1 : w2.heap.size ≤ g1 := hg1
      have lw2 : w2.heap.size ≤ g2 := by omega
      have lw3 : w2.heap.size ≤ g3 := by have := hb34.size; omega
      clear hb3 hb4 hb5 hb34 l1 l2 l3 s4 s5 hg1 hg2 hg3
      go_wp2_with fail
      clear hmk1 hmk2 hmk3 hr3 hr4 hr5
      go_loopw [20] (fun i wx => ∃ j : Nat, j ≤ hs.length ∧ i = .int .i64 j ∧ VOwn 27 wx g1 hs.length (svs hs j) ∧ VOwn 22 wx g2 hs.length (pvs hs j) ∧ VOwn 4 wx g3 hs.length (fvs hs j) ∧ Below w2.heap.size w2 wx) (fun i _ => hs.length - (intOf i).toNat)
      case atStart => exact ⟨0, Nat.zero_le _, rfl, by simpa [svs] using ho1, by simpa [pvs] using ho2, by simpa [fvs] using ho3, hb345⟩
      case round =>
        clear ho1 ho2 ho3 hb345
        obtain ⟨j, hj, rfl, ho1, ho2, ho3, hbx⟩ := hrel
        have hrx := cell_later hbx hr2
        by_cases hlt2 : j < hs.length
        · obtain ⟨b, off, rfl, q, pa, pn, pc, pf, hsj, hc1, hc2, hc3⟩ := (hrow2.below hbx).at hlt2
          have hbw : b < w2.heap.size := by
            obtain ⟨b', off', hab', hcc⟩ := hrow2.2 (by omega)
            have hlt' : b' < w2.heap.size := World.block_lt_of_cell? _ _ (hcc j _ hsj).1
            simp at hab'
            omega
          have HS : Hid (hs[j]? = some (Seg.mk q pa pn pc pf)) := hsj
          clear hsj
          obtain ⟨⟨v1, hv1⟩, hf1⟩ := ho1.there hlt2
          obtain ⟨⟨v2, hv2⟩, hf2⟩ := ho2.there hlt2
          obtain ⟨⟨v3, hv3⟩, hf3⟩ := ho3.there hlt2
          have e0 : (wr.setCell ⟨g1, j, none⟩ (.int .u32 q)).cell? ⟨w1.heap.size, 0, none⟩ = some (.slice (some ⟨b, off, none⟩) hs.length c') := by rw [cell_set1 (by omega)]; exact hrx
          have e1 : (wr.setCell ⟨g1, j, none⟩ (.int .u32 q)).cell? ⟨b, off + j * 3 + 1, none⟩ = some (.slice pa pn pc) := by rw [cell_set1 (by omega)]; exact hc2
          have e2 : (wr.setCell ⟨g1, j, none⟩ (.int .u32 q)).cell? ⟨g2, j, none⟩ = some v2 := by rw [cell_set1 (by omega)]; exact hv2
          have e3 : ((wr.setCell ⟨g1, j, none⟩ (.int .u32 q)).setCell ⟨g2, j, none⟩ (.slice pa pn pc)).cell? ⟨w1.heap.size, 0, none⟩ = some (.slice (some ⟨b, off, none⟩) hs.length c') := by rw [cell_set1 (by omega), cell_set1 (by omega)]; exact hrx
          have e4 : ((wr.setCell ⟨g1, j, none⟩ (.int .u32 q)).setCell ⟨g2, j, none⟩ (.slice pa pn pc)).cell? ⟨b, off + j * 3 + 2, none⟩ = some (.bool pf) := by rw [cell_set1 (by omega), cell_set1 (by omega)]; exact hc3
          have e5 : ((wr.setCell ⟨g1, j, none⟩ (.int .u32 q)).setCell ⟨g2, j, none⟩ (.slice pa pn pc)).cell? ⟨g3, j, none⟩ = some v3 := by rw [cell_set1 (by omega), cell_set1 (by omega)]; exact hv3
          go_wp2
          go_roundw
          case rel =>
            refine ⟨j + 1, by omega, by go_num, ?_, ?_, ?_, ((hbx.setCell lw1 _).setCell lw2 _).setCell lw3 _⟩
            · rw [svs_step HS.out]; exact ((ho1.push (svs_len (by omega)) hlt2 _).other _ n12).other _ n13
            · rw [pvs_step HS.out]; exact ((ho2.other _ (Ne.symm n12)).push (pvs_len (by omega)) hlt2 _).other _ n23
            · rw [fvs_step HS.out]; exact ((ho3.other _ (Ne.symm n13)).other _ (Ne.symm n23)).push (fvs_len (by omega)) hlt2 _
          case measure => simp [intOf]; omega
        · go_wp2
          go_ret3
          obtain rfl : j = hs.length := by omega
          rw [HG.out]
          exact ⟨⟨g1, g2, g3, rfl, rfl, ho1.vrow (svs_len (Nat.le_refl _)), ho2.vrow (pvs_len (Nat.le_refl _)), ho3.vrow (fvs_len (Nat.le_refl _))⟩, hbA.trans (hbx.mono hbA.size)⟩
end Go.Proofs.Qxb6617792a
