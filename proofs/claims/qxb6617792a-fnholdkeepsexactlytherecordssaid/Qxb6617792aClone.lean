import Derived.Test.Qxb6617792aAppend
namespace Go.Proofs.Qxb6617792a
open Go.RowKit

/-- Some slice of just these bytes, in memory that lies from block B on. -/
def ABytesF (B : Nat) (w : World) (n : Nat) (zs : List Int) (e : Ending) : Prop := ∃ a c, e = .returned (.slice a n c) ∧ BRow w a n zs ∧ n ≤ c ∧ (a = none → n = 0 ∧ c = 0) ∧ ∀ b off, a = some ⟨b, off, none⟩ → B ≤ b

set_option maxHeartbeats 400000 in
theorem clone_any (a : Option Addr) (n c : Nat) (zs : List Int) (w : World) (h : BRow w a n zs) (hn : n ≤ 1048576) (hnil : a = none → n = 0 ∧ c = 0) :
    Calls Try.prog 25 #[.slice a n c] w fun e w' => ABytesF w.heap.size w' n zs e ∧ Below w.heap.size w w' := by
  have heqn := fun (w : World) (a : Option Addr) (n c : Nat) => Lib.run_eql_slice_nil (P := Try.prog) w 22 5 a n c 0 0 Try.underlying22
  cases a with
  | none =>
    obtain ⟨rfl, rfl⟩ := hnil rfl
    go_enter Try.func25, Try.ntmps25
    go_wp2
    go_ret
    exact ⟨⟨none, 0, rfl, h, Nat.le_refl _, fun _ => ⟨rfl, rfl⟩, fun _ _ h => by simp at h⟩, Below.refl _ _⟩
  | some ad =>
    clear hnil
    have hmk := make_row n (by omega) w
    obtain ⟨w1, hw1⟩ : ∃ w1, w1 = w.alloc (.cells (madeCells #[.int .u8 0] n) 5) := ⟨_, rfl⟩
    rw [← hw1] at hmk
    have hrow : w1.rowIs w.heap.size 5 n (bvTo zs 0) := by rw [hw1]; exact (World.rowIs_made w (.int .u8 0) n 5).congr (fun i _ => rfl)
    have hb1 : Below w.heap.size w w1 := by rw [hw1]; exact (Below.refl _ _).alloc (Nat.le_refl _) _
    clear hw1
    go_enter Try.func25, Try.ntmps25
    go_wp2
    clear hmk
    go_loopw [4] (fun i wr => ∃ k : Nat, k ≤ n ∧ i = .int .i64 k ∧ wr.rowIs w.heap.size 5 n (bvTo zs k) ∧ Below w.heap.size w wr) (fun i _ => n - (intOf i).toNat)
    case atStart => exact ⟨0, Nat.zero_le _, rfl, hrow, hb1⟩
    case round =>
      clear hrow hb1
      obtain ⟨k, hk, rfl, hrow, hb⟩ := hrel
      by_cases hlt : k < n
      · obtain ⟨b, off, hab, z, hz, _, _, hcell⟩ := (h.below hb).at hlt
        obtain rfl := Option.some.inj hab
        have HZ : Hid (zs[k]? = some z) := hz
        clear hz hab
        have hc2 := hrow.cell hlt
        have hf2 := hrow.frozen k
        go_wp2
        go_roundw
        case rel => exact ⟨k + 1, by omega, by go_num, (hrow.set k (.int .u8 z)).congr (fun j _ => bvTo_step HZ.out j), hb.setCell (Nat.le_refl _) _⟩
        case measure => simp [intOf]; omega
      · go_wp2
        go_ret
        have hfr : Fresh w.heap.size wr w.heap.size n zs := ⟨Nat.le_refl _, h.1, h.2.1, hrow.congr (fun i hi => by simp [bvTo, show i < k by omega])⟩
        exact ⟨⟨_, _, rfl, hfr.brow, Nat.le_refl _, fun h => by simp at h, fun b off h => by simp at h; omega⟩, hb⟩

end Go.Proofs.Qxb6617792a
