import Derived.Test.Qxb6617792aHeld
namespace Go.Proofs.Qxb6617792a
open Go.RowKit

/-- A slice whose elements are one cell each. -/
def VRow (w : World) (a : Option Addr) (n : Nat) (vs : List Value) : Prop :=
  vs.length = n ∧ (0 < n → ∃ b off, a = some ⟨b, off, none⟩ ∧ ∀ (j : Nat) (v : Value), vs[j]? = some v → w.cell? ⟨b, off + j, none⟩ = some v)

theorem VRow.below {w w' : World} {a : Option Addr} {n : Nat} {vs : List Value} (h : VRow w a n vs) (hb : Below w.heap.size w w') : VRow w' a n vs := by
  refine ⟨h.1, fun hn => ?_⟩
  obtain ⟨b, off, rfl, hc⟩ := h.2 hn
  exact ⟨b, off, rfl, fun j v hv => cell_later hb (hc j v hv)⟩

theorem VRow.at {w : World} {a : Option Addr} {n : Nat} {vs : List Value} (h : VRow w a n vs) {k : Nat} (hk : k < n) :
    ∃ b off, a = some ⟨b, off, none⟩ ∧ ∃ v, vs[k]? = some v ∧ w.cell? ⟨b, off + k, none⟩ = some v := by
  obtain ⟨b, off, ha, hc⟩ := h.2 (by omega)
  have hk' : k < vs.length := by have := h.1; omega
  exact ⟨b, off, ha, vs[k], by simp [hk'], hc k _ (by simp [hk'])⟩

/-- Block g is a row of room for n elements of one cell; the first ones are 'vs'. -/
def VOwn (t : TypeId) (w : World) (g n : Nat) (vs : List Value) : Prop :=
  ∃ cur : Array Value, w.heap[g]? = some (.cells cur t (0, 0)) ∧ cur.size = n ∧ ∀ (j : Nat) (v : Value), vs[j]? = some v → cur[j]? = some v

theorem VOwn.there {t : TypeId} {w : World} {g n : Nat} {vs : List Value} (h : VOwn t w g n vs) {i : Nat} (hi : i < n) : (∃ v, w.cell? ⟨g, i, none⟩ = some v) ∧ w.frozen? ⟨g, i, none⟩ = false := by
  obtain ⟨cur, hg, hs, _⟩ := h
  refine ⟨⟨cur[i]'(by omega), ?_⟩, frozen_of_row w g i cur t hg⟩
  rw [cell_of_row w g i cur t (0, 0) hg]
  simp [show i < cur.size by omega]

theorem VOwn.keep {t : TypeId} {w w' : World} {g n : Nat} {vs : List Value} (h : VOwn t w g n vs) (hb : w'.heap[g]? = w.heap[g]?) : VOwn t w' g n vs := by
  obtain ⟨cur, hg, r⟩ := h
  exact ⟨cur, hb.trans hg, r⟩

theorem VOwn.lt {t : TypeId} {w : World} {g n : Nat} {vs : List Value} (h : VOwn t w g n vs) : g < w.heap.size := by
  obtain ⟨cur, hg, _⟩ := h
  exact (Array.getElem?_eq_some_iff.1 hg).1

theorem VOwn.other {t : TypeId} {w : World} {g n : Nat} {vs : List Value} (h : VOwn t w g n vs) {r i : Nat} (v : Value) (hne : g ≠ r) : VOwn t (w.setCell ⟨r, i, none⟩ v) g n vs :=
  h.keep (heap_setCell_other w ⟨r, i, none⟩ g v hne)

theorem VOwn.push {t : TypeId} {w : World} {g n k : Nat} {vs : List Value} (h : VOwn t w g n vs) (hl : vs.length = k) (hk : k < n) (v : Value) : VOwn t (w.setCell ⟨g, k, none⟩ v) g n (vs ++ [v]) := by
  obtain ⟨cur, hg, hs, hc⟩ := h
  refine ⟨_, heap_setCell_same w g k cur t v hg, by simp [hs], fun j u hu => ?_⟩
  rw [Array.getElem?_setIfInBounds]
  by_cases hj : j < k
  · rw [List.getElem?_append_left (by omega)] at hu
    rw [if_neg (by omega)]
    exact hc j u hu
  · have hj' : j = k := by
      have := (List.getElem?_eq_some_iff.1 hu).1
      simp at this
      omega
    subst hj'
    rw [← hl] at hu
    simp at hu
    subst hu
    rw [if_pos rfl, if_pos (by omega)]

theorem VOwn.vrow {t : TypeId} {w : World} {g n : Nat} {vs : List Value} (h : VOwn t w g n vs) (hl : vs.length = n) : VRow w (some ⟨g, 0, none⟩) n vs := by
  obtain ⟨cur, hg, hs, hc⟩ := h
  refine ⟨hl, fun _ => ⟨g, 0, rfl, fun j v hv => ?_⟩⟩
  rw [Nat.zero_add, cell_of_row w g _ cur t (0, 0) hg]
  exact hc j v hv

theorem Try.info27 : (Try.prog.info? 27).map (fun i => (i.zero, i.size, i.bytes)) = some (some (.int .u32 0), 1, 4) := by kernel_rfl
theorem Try.info22 : (Try.prog.info? 22).map (fun i => (i.zero, i.size, i.bytes)) = some (some (.slice none 0 0), 1, 24) := by kernel_rfl
theorem Try.info4 : (Try.prog.info? 4).map (fun i => (i.zero, i.size, i.bytes)) = some (some (.bool false), 1, 1) := by kernel_rfl

theorem make_v {t e : TypeId} {z : Value} {bytes : Nat} (ht : Try.prog.underlying t = some (.slice e)) (hinfo : (Try.prog.info? e).map (fun i => (i.zero, i.size, i.bytes)) = some (some z, 1, bytes)) (hb : bytes ≤ 24) (n : Nat) (hn : n ≤ 1048577) (w : World) :
    ∃ w1 g, (Instr.makeSlice t (.int .i64 (n : Int)) (.int .i64 (n : Int))).run Try.prog w = .ok (.slice (some ⟨g, 0, none⟩) n n) w1 ∧ w.heap.size ≤ g ∧ VOwn e w1 g n [] ∧ Below w.heap.size w w1 := by
  obtain ⟨i0, hi, hz0, hz1, hz2⟩ := info_parts hinfo
  have hle : bytes * n ≤ 24 * n := Nat.mul_le_mul_right n hb
  have hmk := run_make (P := Try.prog) w t e i0 _ ht hi hz0 .i64 .i64 n n (by omega) (by omega) (by rw [hz2]; have h : ((bytes * n : Nat) : Int) ≤ 281474976710656 := by omega
                                                                                                    rwa [Int.natCast_mul] at h) (by omega)
  simp only [Int.toNat_natCast, hz1, Nat.mul_one] at hmk
  exact ⟨_, w.heap.size, hmk, Nat.le_refl _, ⟨_, heap_alloc_new w _, size_madeCells _ _, by simp⟩, (Below.refl _ _).alloc (Nat.le_refl _) _⟩

/-- The first k numbers, payloads, FINs, as cells. -/
def svs (ss : List Seg) (k : Nat) : List Value := (ss.take k).map Seg.sv
def pvs (ss : List Seg) (k : Nat) : List Value := (ss.take k).map Seg.pv
def fvs (ss : List Seg) (k : Nat) : List Value := (ss.take k).map Seg.fv
theorem svs_step {ss : List Seg} {k : Nat} {s : Seg} (h : ss[k]? = some s) : svs ss (k + 1) = svs ss k ++ [s.sv] := by
  unfold svs; rw [List.take_add_one, h]; simp
theorem pvs_step {ss : List Seg} {k : Nat} {s : Seg} (h : ss[k]? = some s) : pvs ss (k + 1) = pvs ss k ++ [s.pv] := by
  unfold pvs; rw [List.take_add_one, h]; simp
theorem fvs_step {ss : List Seg} {k : Nat} {s : Seg} (h : ss[k]? = some s) : fvs ss (k + 1) = fvs ss k ++ [s.fv] := by
  unfold fvs; rw [List.take_add_one, h]; simp
theorem svs_len {ss : List Seg} {k : Nat} (h : k ≤ ss.length) : (svs ss k).length = k := by simp [svs]; omega
theorem pvs_len {ss : List Seg} {k : Nat} (h : k ≤ ss.length) : (pvs ss k).length = k := by simp [pvs]; omega
theorem fvs_len {ss : List Seg} {k : Nat} (h : k ≤ ss.length) : (fvs ss k).length = k := by simp [fvs]; omega

/-- Three slices that hold the segments 'ss', each field in one. -/
def TRow (w : World) (a1 a2 a3 : Option Addr) (n : Nat) (ss : List Seg) : Prop :=
  ss.length = n ∧ VRow w a1 n (svs ss n) ∧ VRow w a2 n (pvs ss n) ∧ VRow w a3 n (fvs ss n)

theorem TRow.below {w w' : World} {a1 a2 a3 : Option Addr} {n : Nat} {ss : List Seg} (h : TRow w a1 a2 a3 n ss) (hb : Below w.heap.size w w') : TRow w' a1 a2 a3 n ss :=
  ⟨h.1, h.2.1.below hb, h.2.2.1.below hb, h.2.2.2.below hb⟩

/-- What splitHeld hands back. -/
def Triple (n : Nat) (ss : List Seg) (e : Ending) (w' : World) : Prop :=
  ∃ g1 g2 g3, e = .returned (.tuple #[.slice (some ⟨g1, 0, none⟩) n n, .slice (some ⟨g2, 0, none⟩) n n, .slice (some ⟨g3, 0, none⟩) n n]) ∧ TRow w' (some ⟨g1, 0, none⟩) (some ⟨g2, 0, none⟩) (some ⟨g3, 0, none⟩) n ss

theorem cell_set1 {w : World} {b g o i : Nat} {x : Value} (h : b ≠ g) : (w.setCell ⟨g, i, none⟩ x).cell? ⟨b, o, none⟩ = w.cell? ⟨b, o, none⟩ :=
  World.cell?_setCell_other _ _ _ _ (fun e => h (congrArg Addr.block e).symm)

set_option maxHeartbeats 1000000 in
theorem splitHeld_any (a : Option Addr) (n c : Nat) (ss : List Seg) (w : World) (h : HRow w a n ss) (hn : n ≤ 1048576) :
    Calls Try.prog 20 #[.slice a n c] w fun e w' => Triple n ss e w' ∧ Below w.heap.size w w' := by
  obtain ⟨w1, g1, hmk1, hg1, ho1, hb1⟩ := make_v Try.underlying35 Try.info27 (by omega) n (by omega) w
  obtain ⟨w2, g2, hmk2, hg2, ho2, hb2⟩ := make_v Try.underlying36 Try.info22 (by omega) n (by omega) w1
  obtain ⟨w3, g3, hmk3, hg3, ho3, hb3⟩ := make_v Try.underlying37 Try.info4 (by omega) n (by omega) w2
  have l1 := ho1.lt
  have l2 := ho2.lt
  have l3 := ho3.lt
  have s2 := hb2.size
  have s3 := hb3.size
  have ho1 := (ho1.keep (hb2.block _ l1)).keep (hb3.block _ (by omega))
  have ho2 := ho2.keep (hb3.block _ l2)
  have hb12 := hb1.trans (hb2.mono hb1.size)
  have hb123 := hb12.trans (hb3.mono hb12.size)
  have n12 : g1 ≠ g2 := by omega
  have n13 : g1 ≠ g3 := by omega
  have n23 : g2 ≠ g3 := by omega
  have lw1 : w.heap.size ≤ g1 := hg1
  have lw2 : w.heap.size ≤ g2 := by omega
  have lw3 : w.heap.size ≤ g3 := by have := hb12.size; omega
  clear hb1 hb2 hb3 hb12 l1 l2 l3 s2 s3 hg1 hg2 hg3
  go_enter Try.func20, Try.ntmps20
  go_wp2
  clear hmk1 hmk2 hmk3
  go_loopw [8] (fun i wr => ∃ k : Nat, k ≤ n ∧ i = .int .i64 k ∧ VOwn 27 wr g1 n (svs ss k) ∧ VOwn 22 wr g2 n (pvs ss k) ∧ VOwn 4 wr g3 n (fvs ss k) ∧ Below w.heap.size w wr) (fun i _ => n - (intOf i).toNat)
  case atStart => exact ⟨0, Nat.zero_le _, rfl, by simpa [svs] using ho1, by simpa [pvs] using ho2, by simpa [fvs] using ho3, hb123⟩
  case round =>
    clear ho1 ho2 ho3 hb123
    obtain ⟨k, hk, rfl, ho1, ho2, ho3, hb⟩ := hrel
    by_cases hlt : k < n
    · obtain ⟨b, off, rfl, q, pa, pn, pc, pf, hs, hc1, hc2, hc3⟩ := (h.below hb).at hlt
      have hbw : b < w.heap.size := by
        obtain ⟨b', off', hab', hcc⟩ := h.2 (by omega)
        have hlt' : b' < w.heap.size := World.block_lt_of_cell? _ _ (hcc k _ hs).1
        simp at hab'
        omega
      have HS : Hid (ss[k]? = some (Seg.mk q pa pn pc pf)) := hs
      clear hs
      obtain ⟨⟨v1, hv1⟩, hf1⟩ := ho1.there hlt
      obtain ⟨⟨v2, hv2⟩, hf2⟩ := ho2.there hlt
      obtain ⟨⟨v3, hv3⟩, hf3⟩ := ho3.there hlt
      have e1 : (wr.setCell ⟨g1, k, none⟩ (.int .u32 q)).cell? ⟨b, off + k * 3 + 1, none⟩ = some (.slice pa pn pc) := by rw [cell_set1 (by omega)]; exact hc2
      have e2 : (wr.setCell ⟨g1, k, none⟩ (.int .u32 q)).cell? ⟨g2, k, none⟩ = some v2 := by rw [cell_set1 (by omega)]; exact hv2
      have e3 : ((wr.setCell ⟨g1, k, none⟩ (.int .u32 q)).setCell ⟨g2, k, none⟩ (.slice pa pn pc)).cell? ⟨b, off + k * 3 + 2, none⟩ = some (.bool pf) := by rw [cell_set1 (by omega), cell_set1 (by omega)]; exact hc3
      have e4 : ((wr.setCell ⟨g1, k, none⟩ (.int .u32 q)).setCell ⟨g2, k, none⟩ (.slice pa pn pc)).cell? ⟨g3, k, none⟩ = some v3 := by rw [cell_set1 (by omega), cell_set1 (by omega)]; exact hv3
      go_wp2
      go_roundw
      case rel =>
        have hl := h.1
        refine ⟨k + 1, by omega, by go_num, ?_, ?_, ?_, ((hb.setCell lw1 _).setCell lw2 _).setCell lw3 _⟩
        · rw [svs_step HS.out]; exact ((ho1.push (svs_len (by omega)) hlt _).other _ n12).other _ n13
        · rw [pvs_step HS.out]; exact ((ho2.other _ (Ne.symm n12)).push (pvs_len (by omega)) hlt _).other _ n23
        · rw [fvs_step HS.out]; exact ((ho3.other _ (Ne.symm n13)).other _ (Ne.symm n23)).push (fvs_len (by omega)) hlt _
      case measure => simp [intOf]; omega
    · go_wp2
      go_ret3
      obtain rfl : k = n := by omega
      have hl := h.1
      exact ⟨⟨g1, g2, g3, rfl, hl, ho1.vrow (svs_len (by omega)), ho2.vrow (pvs_len (by omega)), ho3.vrow (fvs_len (by omega))⟩, hb⟩
end Go.Proofs.Qxb6617792a
