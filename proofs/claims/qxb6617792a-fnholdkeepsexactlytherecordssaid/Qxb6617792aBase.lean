import Derived.Test.Qxb6617792aRows
import Derived.WalkKit
import Derived.WalkSpells
import Derived.WalkLawsBesides
import Derived.BigQuiet
import Derived.Deep.QuietTactic
import Derived.Deep.DeepCutAuto
import Derived.Laws.CopyOwn
namespace Go.Proofs.Qxb6617792a
open Go.RowKit

/-- A slice of bytes: its elements 'zs', 'n' of them. -/
def BRow (w : World) (a : Option Addr) (n : Nat) (zs : List Int) : Prop :=
  zs.length = n ∧ (∀ z ∈ zs, 0 ≤ z ∧ z < 256) ∧ (0 < n → ∃ b off, a = some ⟨b, off, none⟩ ∧ ∀ j, j < n → w.cell? ⟨b, off + j, none⟩ = some (.int .u8 (zs.getD j 0)))

theorem BRow.at {w : World} {a : Option Addr} {n : Nat} {zs : List Int} (h : BRow w a n zs) {k : Nat} (hk : k < n) :
    ∃ b off, a = some ⟨b, off, none⟩ ∧ ∃ z, zs[k]? = some z ∧ 0 ≤ z ∧ z < 256 ∧ w.cell? ⟨b, off + k, none⟩ = some (.int .u8 z) := by
  obtain ⟨hl, hm, hp⟩ := h
  obtain ⟨b, off, ha, hc⟩ := hp (by omega)
  have hk' : k < zs.length := by omega
  refine ⟨b, off, ha, zs[k], by simp [hk'], (hm _ (List.getElem_mem hk')).1, (hm _ (List.getElem_mem hk')).2, ?_⟩
  have := hc k hk
  simpa [hk'] using this

theorem BRow.below {w w' : World} {a : Option Addr} {n : Nat} {zs : List Int} (h : BRow w a n zs) (hb : Below w.heap.size w w') : BRow w' a n zs := by
  refine ⟨h.1, h.2.1, fun hn => ?_⟩
  obtain ⟨b, off, rfl, hc⟩ := h.2.2 hn
  exact ⟨b, off, rfl, fun j hj => cell_later hb (hc j hj)⟩

theorem BRow.nil (w : World) (a : Option Addr) : BRow w a 0 [] := ⟨rfl, by simp, fun h => absurd h (Nat.lt_irrefl _)⟩

theorem splice_whole {α : Type} (cur cs : List α) (h : cur.length = cs.length) : splice cur 0 cs = cs := by
  simp [splice, ← h]

def bytesV (zs : List Int) : List Value := zs.map (Value.int .u8)

/-- A row of memory that holds just these bytes. -/
theorem BRow.of_row {w : World} {g n : Nat} {zs : List Int} {cur : Array Value} (hl : zs.length = n) (hm : ∀ z ∈ zs, 0 ≤ z ∧ z < 256) (hg : w.heap[g]? = some (.cells cur 5 (0, 0))) (hc : cur.toList.take n = bytesV zs) :
    BRow w (some ⟨g, 0, none⟩) n zs := by
  refine ⟨hl, hm, fun _ => ⟨g, 0, rfl, fun j hj => ?_⟩⟩
  have hj' : j < zs.length := by omega
  rw [Nat.zero_add, cell_of_row w g j _ 5 (0, 0) hg]
  have h1 : cur.toList[j]? = (cur.toList.take n)[j]? := by rw [List.getElem?_take, if_pos hj]
  have h2 : cur[j]? = cur.toList[j]? := by simp
  rw [h2, h1, hc]
  simp [bytesV, hj']

theorem Try.info5 : (Try.prog.info? 5).map (fun i => (i.zero, i.size, i.bytes)) = some (some (.int .u8 0), 1, 1) := by kernel_rfl
theorem Try.size5 : (Try.prog.info? 5).map (·.size) = some 1 := by kernel_rfl

/-- 'zzc := make([]byte, len(xs)); copy(zzc, xs)', xs not nil. -/
theorem make_copy {w : World} {ad : Addr} {n : Nat} (c : Nat) {zs : List Int} (h : BRow w (some ad) n zs) (hn : n ≤ 1048576) :
    ∃ w1 w2 g, (Instr.makeSlice 22 (.int .i64 n) (.int .i64 n)).run Try.prog w = .ok (.slice (some ⟨g, 0, none⟩) n n) w1 ∧
      (Builtin.copy_ #[22, 22] 3 #[.slice (some ⟨g, 0, none⟩) n n, .slice (some ad) n c]).run Try.prog w1 = .ok (.int .i64 n) w2 ∧
      BRow w2 (some ⟨g, 0, none⟩) n zs ∧ Below w.heap.size w w2 := by
  obtain ⟨i0, hi, hz0, hz1, hz2⟩ := info_parts Try.info5
  obtain ⟨w1, hmk, hown, hgrow⟩ := run_make_full (P := Try.prog) w w.heap.size 22 5 i0 (.int .u8 0) 1 Try.underlying22 hi hz0 hz1 .i64 .i64 n (by rw [hz2]; omega) (by unfold maxLen; omega) (Nat.le_refl _)
  have hbel1 : Below w.heap.size w w1 := (Below.refl _ _).grown hgrow (Nat.le_refl _) (by simp)
  have h' := h.below hbel1
  obtain ⟨cur, hcl, hcur⟩ : ∃ cur : List Value, cur.length = n ∧ w1.heap[w.heap.size]? = some (.cells cur.toArray 5 (0, 0)) := by
    rcases hown.2 with ⟨hv, _⟩ | ⟨g, cap, cur, hv, _, hh, _, _, hsz, _⟩
    · simp at hv
    · simp at hv
      obtain ⟨rfl, rfl⟩ := hv
      exact ⟨cur.toList, by simpa using hsz, by simpa using hh⟩
  have hlen : (bytesV zs).length = n := by simp [bytesV, h.1]
  by_cases h0 : n = 0
  · have hcp := run_copy_none (P := Try.prog) w1 22 22 3 5 (some ⟨w.heap.size, 0, none⟩) (some ad) n n n c Try.underlying22 Try.size5 (by simp [h0])
    refine ⟨w1, w1, w.heap.size, hmk, ?_, ?_, hbel1⟩
    · rw [hcp, h0]; rfl
    · subst h0
      obtain rfl : zs = [] := List.eq_nil_of_length_eq_zero h.1
      exact BRow.nil _ _
  · obtain ⟨b, off, hab, hc⟩ := h'.2.2 (by omega)
    simp at hab
    subst hab
    have hcp := run_copy_row (P := Try.prog) w1 22 22 3 5 w.heap.size 0 n n ⟨b, off, none⟩ n c cur.toArray 5 (bytesV zs) Try.underlying22 Try.size5 hcur (by simp [hlen])
      (by
        intro j v hj
        have hj' : j < n := by have := (List.getElem?_eq_some_iff.1 hj).1; omega
        rw [Addr.add_lit, hc j hj']
        have hj2 : j < zs.length := by have := h.1; omega
        simp [bytesV, hj2] at hj
        simp [hj2, hj])
      (by simp [hcl, hlen]) (by intro v hv; obtain ⟨_, _, rfl⟩ := List.mem_map.1 hv; rfl)
    refine ⟨w1, _, w.heap.size, hmk, hcp.trans (congrArg (fun k : Nat => Result.ok (goInt k) _) hlen), ?_, below_setRow hbel1 (Nat.le_refl _) _⟩
    refine BRow.of_row h.1 h.2.1 (setRow_heap w1 w.heap.size _ _ 5 _ hcur) ?_
    rw [List.take_of_length_le (by simp [hcl, hlen])]
    simp [hlen, hcl]

theorem ret_int {k : IntKind} {a b : Int} (h : a = b) : Ending.returned (.int k a) = .returned (.int k b) := by rw [h]
theorem ret_bool {a b : Bool} (h : a = b) : Ending.returned (.bool a) = .returned (.bool b) := by rw [h]

/-- Some bool; where it is true, 'p'. -/
def AnyBool (p : Prop) (e : Ending) : Prop := ∃ bb : Bool, e = .returned (.bool bb) ∧ (bb = true → p)
theorem AnyBool.no (p : Prop) : AnyBool p (.returned (.bool false)) := ⟨false, rfl, by simp⟩
theorem AnyBool.yes {p : Prop} (h : p) : AnyBool p (.returned (.bool true)) := ⟨true, rfl, fun _ => h⟩

/-- The sequence number behind a segment. -/
def endU (s : Int) (n : Nat) (fin : Bool) : Int := (s + n + if fin then 1 else 0) % 4294967296

theorem endU_bd (s : Int) (n : Nat) (fin : Bool) : 0 ≤ endU s n fin ∧ endU s n fin < 4294967296 := by unfold endU; omega

set_option maxHeartbeats 400000 in
theorem end_any (s : Int) (a : Option Addr) (n c : Nat) (fin : Bool) (w : World) (hn : n ≤ 1048576) :
    Calls Try.prog 28 #[.agg #[.int .u32 s, .slice a n c, .bool fin]] w fun e w' => e = .returned (.int .u32 (endU s n fin)) ∧ Below w.heap.size w w' := by
  cases fin
  · go_enter Try.func28, Try.ntmps28
    go_wp2
    go_ret
    exact ⟨ret_int (by simp [endU]), (Below.refl _ _).alloc (Nat.le_refl _) _⟩
  · go_enter Try.func28, Try.ntmps28
    go_wp2
    go_ret
    exact ⟨ret_int (by simp [endU]), (Below.refl _ _).alloc (Nat.le_refl _) _⟩

set_option maxHeartbeats 400000 in
theorem ZZEnd_any (s : Int) (a : Option Addr) (n c : Nat) (fin : Bool) (w : World) (hn : n ≤ 1048576) :
    Calls Try.prog 14 #[.int .u32 s, .slice a n c, .bool fin] w fun e w' => e = .returned (.int .u32 (endU s n fin)) ∧ Below w.heap.size w w' := by
  go_enter Try.func14, Try.ntmps14
  go_wp2_with fail
  refine (end_any s a n c fin _ hn).mono ?_
  rintro e w1 ⟨rfl, hb⟩
  go_wp2_with fail
  go_ret
  exact ⟨rfl, hb⟩

/-- a comes before b, modulo 2^32. -/
def beforeB (a b : Int) : Bool := decide (2147483648 ≤ (a - b) % 4294967296)

set_option maxHeartbeats 400000 in
theorem seqBefore_any (a b : Int) (w : World) :
    Calls Try.prog 29 #[.int .u32 a, .int .u32 b] w fun e w' => w = w' ∧ e = .returned (.bool (beforeB a b)) := by
  go_enter Try.func29, Try.ntmps29
  go_wp2
  go_ret
  exact ⟨rfl, ret_bool (by unfold beforeB wrap32; rw [decide_eq_decide]; omega)⟩

set_option maxHeartbeats 400000 in
theorem ZZSeqBefore_any (a b : Int) (w : World) :
    Calls Try.prog 16 #[.int .u32 a, .int .u32 b] w fun e w' => w = w' ∧ e = .returned (.bool (beforeB a b)) := by
  go_enter Try.func16, Try.ntmps16
  go_wp2_with (go_at_call 29; refine (seqBefore_any a b _).mono ?_; rintro e w' ⟨rfl, rfl⟩)
  go_ret
  exact ⟨rfl, rfl⟩

set_option maxHeartbeats 400000 in
theorem bytes13_any (s : Int) (a : Option Addr) (n c : Nat) (fin : Bool) (k : Int) (w : World) (hm : n ≤ maxLen) :
    Calls Try.prog 13 #[.int .u32 s, .slice a n c, .bool fin, .int .i64 k] w fun e w' => w = w' ∧ AnyBool (n ≤ 1048576) e := by
  unfold maxLen at hm
  by_cases hl : 1048576 < n
  · go_enter Try.func13, Try.ntmps13
    go_wp2
    go_ret
    exact ⟨rfl, AnyBool.no _⟩
  · go_enter Try.func13, Try.ntmps13
    go_wp2
    go_ret
    exact ⟨rfl, AnyBool.yes (by omega)⟩

set_option maxHeartbeats 400000 in
theorem bytes15_any (s : Int) (a : Option Addr) (n c : Nat) (fin : Bool) (k : Int) (w : World) (hm : n ≤ maxLen) :
    Calls Try.prog 15 #[.int .u32 s, .slice a n c, .bool fin, .int .i64 k] w fun e w' => w = w' ∧ AnyBool (n ≤ 1048576) e := by
  unfold maxLen at hm
  by_cases hl : 1048576 < n
  · go_enter Try.func15, Try.ntmps15
    go_wp2
    go_ret
    exact ⟨rfl, AnyBool.no _⟩
  · go_enter Try.func15, Try.ntmps15
    go_wp2
    go_ret
    exact ⟨rfl, AnyBool.yes (by omega)⟩

end Go.Proofs.Qxb6617792a
