import Derived.Test.Qxb6617792aBase
import Derived.Deep.OwnRows
namespace Go.Proofs.Qxb6617792a
open Go.RowKit

/-- Byte i of 'zs', as a cell. -/
def bv (zs : List Int) (i : Nat) : Value := .int .u8 (zs.getD i 0)
/-- What a copying loop has laid behind its round k. -/
def bvTo (zs : List Int) (k i : Nat) : Value := if i < k then bv zs i else .int .u8 0

theorem bv_at {zs : List Int} {k : Nat} {z : Int} (h : zs[k]? = some z) : bv zs k = .int .u8 z := by
  simp [bv, List.getD, h]

theorem bvTo_step {zs : List Int} {k : Nat} {z : Int} (h : zs[k]? = some z) (j : Nat) : (if j = k then Value.int .u8 z else bvTo zs k j) = bvTo zs (k + 1) j := by
  unfold bvTo
  by_cases e : j = k
  · subst e
    rw [if_pos rfl, if_pos (by omega), bv_at h]
  · rw [if_neg e]
    by_cases h1 : j < k
    · rw [if_pos h1, if_pos (by omega)]
    · rw [if_neg h1, if_neg (by omega)]

/-- A fresh row of memory with just these bytes. -/
structure Fresh (B : Nat) (w : World) (g n : Nat) (zs : List Int) : Prop where
  le : B ≤ g
  len : zs.length = n
  bd : ∀ z ∈ zs, 0 ≤ z ∧ z < 256
  row : w.rowIs g 5 n (bv zs)

theorem Fresh.brow {B : Nat} {w : World} {g n : Nat} {zs : List Int} (h : Fresh B w g n zs) : BRow w (some ⟨g, 0, none⟩) n zs :=
  ⟨h.len, h.bd, fun _ => ⟨g, 0, rfl, fun j hj => by rw [Nat.zero_add]; exact h.row.cell hj⟩⟩

theorem make_row (n : Nat) (hn : n ≤ 4194304) (w : World) : (Instr.makeSlice 22 (.int .i64 (n : Int)) (.int .i64 (n : Int))).run Try.prog w = .ok (.slice (some ⟨w.heap.size, 0, none⟩) n n) (w.alloc (.cells (madeCells #[.int .u8 0] n) 5)) :=
  run_make_row' 22 5 (.int .u8 0) 1 Try.underlying22 Try.info5 rfl .i64 .i64 n (by omega) (by omega) w

set_option maxHeartbeats 400000 in
theorem exactCopy_any (a : Option Addr) (n c : Nat) (zs : List Int) (w : World) (h : BRow w a n zs) (hn : n ≤ 1048576) :
    Calls Try.prog 9 #[.slice a n c] w fun e w' => ∃ g, e = .returned (.slice (some ⟨g, 0, none⟩) n n) ∧ Fresh w.heap.size w' g n zs ∧ Below w.heap.size w w' := by
  have hmk := make_row n (by omega) w
  obtain ⟨w1, hw1⟩ : ∃ w1, w1 = w.alloc (.cells (madeCells #[.int .u8 0] n) 5) := ⟨_, rfl⟩
  rw [← hw1] at hmk
  have hrow : w1.rowIs w.heap.size 5 n (bvTo zs 0) := by rw [hw1]; exact (World.rowIs_made w (.int .u8 0) n 5).congr (fun i _ => rfl)
  have hb1 : Below w.heap.size w w1 := by rw [hw1]; exact (Below.refl _ _).alloc (Nat.le_refl _) _
  clear hw1
  go_enter Try.func9, Try.ntmps9
  go_wp2
  clear hmk
  go_loopw [4] (fun i wr => ∃ k : Nat, k ≤ n ∧ i = .int .i64 k ∧ wr.rowIs w.heap.size 5 n (bvTo zs k) ∧ Below w.heap.size w wr) (fun i _ => n - (intOf i).toNat)
  case atStart => exact ⟨0, Nat.zero_le _, rfl, hrow, hb1⟩
  case round =>
    clear hrow hb1
    obtain ⟨k, hk, rfl, hrow, hb⟩ := hrel
    by_cases hlt : k < n
    · obtain ⟨b, off, rfl, z, hz, _, _, hcell⟩ := (h.below hb).at hlt
      have HZ : Hid (zs[k]? = some z) := hz
      clear hz
      have hc2 := hrow.cell hlt
      have hf2 := hrow.frozen k
      go_wp2
      go_roundw
      case rel => exact ⟨k + 1, by omega, by go_num, (hrow.set k (.int .u8 z)).congr (fun j _ => bvTo_step HZ.out j), hb.setCell (Nat.le_refl _) _⟩
      case measure => simp [intOf]; omega
    · go_wp2
      go_ret
      exact ⟨w.heap.size, rfl, ⟨Nat.le_refl _, h.1, h.2.1, hrow.congr (fun i hi => by simp [bvTo, show i < k by omega])⟩, hb⟩

/-- Some slice of just these bytes. -/
def ABytes (w : World) (n : Nat) (zs : List Int) (e : Ending) : Prop := ∃ a c, e = .returned (.slice a n c) ∧ BRow w a n zs ∧ n ≤ c ∧ (a = none → n = 0 ∧ c = 0)

set_option maxHeartbeats 400000 in
theorem cloneBytes_any (a : Option Addr) (n c : Nat) (zs : List Int) (w : World) (h : BRow w a n zs) (hn : n ≤ 1048576) (hnil : a = none → n = 0 ∧ c = 0) :
    Calls Try.prog 25 #[.slice a n c] w fun e w' => ABytes w' n zs e ∧ Below w.heap.size w w' := by
  have heqn := fun (w : World) (a : Option Addr) (n c : Nat) => Lib.run_eql_slice_nil (P := Try.prog) w 22 5 a n c 0 0 Try.underlying22
  cases a with
  | none =>
    obtain ⟨rfl, rfl⟩ := hnil rfl
    go_enter Try.func25, Try.ntmps25
    go_wp2
    go_ret
    exact ⟨⟨none, 0, rfl, h, Nat.le_refl _, fun _ => ⟨rfl, rfl⟩⟩, Below.refl _ _⟩
  | some ad =>
    clear hnil
    have hmk := make_row n (by omega) w
    obtain ⟨w1, hw1⟩ : ∃ w1, w1 = w.alloc (.cells (madeCells #[.int .u8 0] n) 5) := ⟨_, rfl⟩
    rw [← hw1] at hmk
    have hrow : w1.rowIs w.heap.size 5 n (bvTo zs 0) := by rw [hw1]; exact (World.rowIs_made w (.int .u8 0) n 5).congr (fun i _ => rfl)
    have hb1 : Below w.heap.size w w1 := by rw [hw1]; exact (Below.refl _ _).alloc (Nat.le_refl _) _
    clear hw1
    go_enter Try.func25, Try.ntmps25
    go_wp2
    clear hmk
    go_loopw [4] (fun i wr => ∃ k : Nat, k ≤ n ∧ i = .int .i64 k ∧ wr.rowIs w.heap.size 5 n (bvTo zs k) ∧ Below w.heap.size w wr) (fun i _ => n - (intOf i).toNat)
    case atStart => exact ⟨0, Nat.zero_le _, rfl, hrow, hb1⟩
    case round =>
      clear hrow hb1
      obtain ⟨k, hk, rfl, hrow, hb⟩ := hrel
      by_cases hlt : k < n
      · obtain ⟨b, off, hab, z, hz, _, _, hcell⟩ := (h.below hb).at hlt
        obtain rfl := Option.some.inj hab
        have HZ : Hid (zs[k]? = some z) := hz
        clear hz hab
        have hc2 := hrow.cell hlt
        have hf2 := hrow.frozen k
        go_wp2
        go_roundw
        case rel => exact ⟨k + 1, by omega, by go_num, (hrow.set k (.int .u8 z)).congr (fun j _ => bvTo_step HZ.out j), hb.setCell (Nat.le_refl _) _⟩
        case measure => simp [intOf]; omega
      · go_wp2
        go_ret
        have hfr : Fresh w.heap.size wr w.heap.size n zs := ⟨Nat.le_refl _, h.1, h.2.1, hrow.congr (fun i hi => by simp [bvTo, show i < k by omega])⟩
        exact ⟨⟨_, _, rfl, hfr.brow, Nat.le_refl _, fun h => by simp at h⟩, hb⟩

theorem getD_left {xs ys : List Int} {i : Nat} (h : i < xs.length) : (xs ++ ys).getD i 0 = xs.getD i 0 := by
  simp [List.getD, List.getElem?_append_left h]
theorem get_right {xs ys : List Int} {k : Nat} : (xs ++ ys)[xs.length + k]? = ys[k]? := by
  rw [List.getElem?_append_right (by omega)]; congr 1; omega

set_option maxHeartbeats 1000000 in
theorem concat_any (a0 a1 : Option Addr) (n0 c0 n1 c1 : Nat) (xs ys : List Int) (w : World) (h0 : BRow w a0 n0 xs) (h1 : BRow w a1 n1 ys) (hn0 : n0 ≤ 1048576) (hn1 : n1 ≤ 1048576) :
    Calls Try.prog 10 #[.slice a0 n0 c0, .slice a1 n1 c1] w fun e w' => ∃ g, e = .returned (.slice (some ⟨g, 0, none⟩) (n0 + n1) (n0 + n1)) ∧ Fresh w.heap.size w' g (n0 + n1) (xs ++ ys) ∧ Below w.heap.size w w' := by
  have hmk := make_row (n0 + n1) (by omega) w
  obtain ⟨w1, hw1⟩ : ∃ w1, w1 = w.alloc (.cells (madeCells #[.int .u8 0] (n0 + n1)) 5) := ⟨_, rfl⟩
  rw [← hw1, show ((n0 + n1 : Nat) : Int) = (n0 : Int) + n1 by omega] at hmk
  have hrow : w1.rowIs w.heap.size 5 (n0 + n1) (bvTo (xs ++ ys) 0) := by rw [hw1]; exact (World.rowIs_made w (.int .u8 0) (n0 + n1) 5).congr (fun i _ => rfl)
  have hb1 : Below w.heap.size w w1 := by rw [hw1]; exact (Below.refl _ _).alloc (Nat.le_refl _) _
  clear hw1
  go_enter Try.func10, Try.ntmps10
  go_wp2
  clear hmk
  go_loopw [6] (fun i wr => ∃ k : Nat, k ≤ n0 ∧ i = .int .i64 k ∧ wr.rowIs w.heap.size 5 (n0 + n1) (bvTo (xs ++ ys) k) ∧ Below w.heap.size w wr) (fun i _ => n0 - (intOf i).toNat)
  case atStart => exact ⟨0, Nat.zero_le _, rfl, hrow, hb1⟩
  case round =>
    clear hrow hb1
    obtain ⟨k, hk, rfl, hrow, hb⟩ := hrel
    by_cases hlt : k < n0
    · obtain ⟨b, off, rfl, z, hz, _, _, hcell⟩ := (h0.below hb).at hlt
      have HZ : Hid ((xs ++ ys)[k]? = some z) := by
        show (xs ++ ys)[k]? = some z
        rw [List.getElem?_append_left (by have := h0.1; omega)]; exact hz
      clear hz
      have hc2 := hrow.cell (show k < n0 + n1 by omega)
      have hf2 := hrow.frozen k
      have hlt2 : k < n0 + n1 := by omega
      go_wp2
      go_roundw
      case rel => exact ⟨k + 1, by omega, by go_num, (hrow.set k (.int .u8 z)).congr (fun j _ => bvTo_step HZ.out j), hb.setCell (Nat.le_refl _) _⟩
      case measure => simp [intOf]; omega
    · obtain rfl : k = n0 := by omega
      go_wp2
      go_loopw [7] (fun i wr => ∃ j : Nat, j ≤ n1 ∧ i = .int .i64 j ∧ wr.rowIs w.heap.size 5 (k + n1) (bvTo (xs ++ ys) (k + j)) ∧ Below w.heap.size w wr) (fun i _ => n1 - (intOf i).toNat)
      case atStart => exact ⟨0, Nat.zero_le _, rfl, hrow, hb⟩
      case round =>
        clear hrow hb
        obtain ⟨j, hj, rfl, hrow, hb⟩ := hrel
        by_cases hlt2 : j < n1
        · obtain ⟨b, off, rfl, z, hz, _, _, hcell⟩ := (h1.below hb).at hlt2
          have HZ : Hid ((xs ++ ys)[k + j]? = some z) := by
            show (xs ++ ys)[k + j]? = some z
            have := h0.1
            subst this
            rw [get_right]; exact hz
          clear hz
          have hc2 := hrow.cell (show k + j < k + n1 by omega)
          have hf2 := hrow.frozen (k + j)
          go_wp2
          go_roundw
          case rel => exact ⟨j + 1, by omega, by go_num, (hrow.set (k + j) (.int .u8 z)).congr (fun i _ => bvTo_step HZ.out i), hb.setCell (Nat.le_refl _) _⟩
          case measure => simp [intOf]; omega
        · go_wp2
          go_ret
          refine ⟨w.heap.size, rfl, ⟨Nat.le_refl _, by simp [h0.1, h1.1], fun z hz => ?_, hrow.congr (fun i hi => by simp [bvTo, show i < k + j by omega])⟩, hb⟩
          rcases List.mem_append.1 hz with hz | hz
          · exact h0.2.1 z hz
          · exact h1.2.1 z hz
end Go.Proofs.Qxb6617792a
