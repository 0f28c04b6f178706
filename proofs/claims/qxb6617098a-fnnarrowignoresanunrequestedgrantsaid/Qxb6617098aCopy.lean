import Derived.Test.Qxb6617098aPlain
import Derived.Laws.CopyOwn
import Derived.Deep.DeepCutAuto
namespace Go.Proofs.Qxb6617098a
open Go.RowKit

theorem splice_whole {α : Type} (cur cs : List α) (h : cur.length = cs.length) : splice cur 0 cs = cs := by
  simp [splice, ← h]

/-- The row behind 'zzc := make([]string, len(xs)); copy(zzc, xs)'. -/
theorem SRow.copied {w w' : World} {g n : Nat} {cur : List Value} {gs : List ByteArray} {a : Option Addr} (h : SRow w a n gs) (hl : cur.length = n)
    (hg : w'.heap[g]? = some (.cells (splice cur 0 (gs.map Value.string)).toArray 9 (0, 0))) : SRow w' (some ⟨g, 0, none⟩) n gs := by
  rw [splice_whole _ _ (by simp [hl, h.1])] at hg
  refine ⟨h.1, h.2.1, fun _ => ⟨g, 0, rfl, fun j hj => ?_⟩⟩
  have hj' : j < gs.length := by have := h.1; omega
  rw [Nat.zero_add, cell_of_row w' g j _ 9 (0, 0) hg]
  simp [hj']

theorem Try.size9 : (Try.prog.info? 9).map (·.size) = some 1 := by kernel_rfl

/-- 'zzc := make([]string, len(xs)); copy(zzc, xs)', xs not nil. -/
theorem make_copy {w : World} {ad : Addr} {n : Nat} (c : Nat) {gs : List ByteArray} (h : SRow w (some ad) n gs) (hn : n ≤ 1048576) :
    ∃ w1 w2 g, (Instr.makeSlice 22 (.int .i64 n) (.int .i64 n)).run Try.prog w = .ok (.slice (some ⟨g, 0, none⟩) n n) w1 ∧
      (Builtin.copy_ #[22, 22] 3 #[.slice (some ⟨g, 0, none⟩) n n, .slice (some ad) n c]).run Try.prog w1 = .ok (.int .i64 n) w2 ∧
      SRow w2 (some ⟨g, 0, none⟩) n gs ∧ Below w.heap.size w w2 := by
  obtain ⟨i0, hi, hz0, hz1, hz2⟩ := info_parts Try.info9
  obtain ⟨w1, hmk, hown, hgrow⟩ := run_make_full (P := Try.prog) w w.heap.size 22 9 i0 (.string ByteArray.empty) 1 Try.underlying22 hi hz0 hz1 .i64 .i64 n (by rw [hz2]; omega) (by unfold maxLen; omega) (Nat.le_refl _)
  have hbel1 : Below w.heap.size w w1 := (Below.refl _ _).grown hgrow (Nat.le_refl _) (by simp)
  have h' := h.below hbel1
  obtain ⟨cur, hcl, hcur⟩ : ∃ cur : List Value, cur.length = n ∧ w1.heap[w.heap.size]? = some (.cells cur.toArray 9 (0, 0)) := by
    rcases hown.2 with ⟨hv, _⟩ | ⟨g, cap, cur, hv, _, hh, _, _, hsz, _⟩
    · simp at hv
    · simp at hv
      obtain ⟨rfl, rfl⟩ := hv
      exact ⟨cur.toList, by simpa using hsz, by simpa using hh⟩
  have hlen : (gs.map Value.string).length = n := by simp [h.1]
  by_cases h0 : n = 0
  · have hcp := run_copy_none (P := Try.prog) w1 22 22 3 9 (some ⟨w.heap.size, 0, none⟩) (some ad) n n n c Try.underlying22 Try.size9 (by simp [h0])
    refine ⟨w1, w1, w.heap.size, hmk, ?_, ?_, hbel1⟩
    · rw [hcp, h0]; rfl
    · subst h0
      obtain rfl : gs = [] := List.eq_nil_of_length_eq_zero h.1
      exact SRow.nil _ _
  · obtain ⟨b, off, hab, hc⟩ := h'.2.2 (by omega)
    simp at hab
    subst hab
    have hcp := run_copy_row (P := Try.prog) w1 22 22 3 9 w.heap.size 0 n n ⟨b, off, none⟩ n c cur.toArray 9 (gs.map Value.string) Try.underlying22 Try.size9 hcur (by simp [h.1])
      (by
        intro j v hj
        have hj' : j < n := by have := (List.getElem?_eq_some_iff.1 hj).1; omega
        rw [Addr.add_lit, hc j hj']
        have hj2 : j < gs.length := by have := h.1; omega
        simp [hj2] at hj
        simp [hj2, hj])
      (by simp [hcl, h.1]) (by intro v hv; obtain ⟨_, _, rfl⟩ := List.mem_map.1 hv; rfl)
    refine ⟨w1, _, w.heap.size, hmk, hcp.trans (congrArg (fun k : Nat => Result.ok (goInt k) _) hlen), ?_, below_setRow hbel1 (Nat.le_refl _) _⟩
    refine h'.copied (cur := cur) hcl ?_
    have := setRow_heap w1 w.heap.size _ (cur.toArray.toList.take 0 ++ gs.map Value.string ++ cur.toArray.toList.drop (0 + (gs.map Value.string).length)).toArray 9 _ hcur
    simpa [splice] using this

end Go.Proofs.Qxb6617098a
