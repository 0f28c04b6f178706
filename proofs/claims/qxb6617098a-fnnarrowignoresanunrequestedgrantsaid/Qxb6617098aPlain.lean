import Derived.Test.Qxb6617098aNarrow
namespace Go.Proofs.Qxb6617098a

theorem subB_iff (xs ys : List ByteArray) : subB xs ys = true ↔ ∀ s ∈ xs, s ∈ ys := by
  simp [subB, List.all_eq_true, hasB_iff]

theorem mem_kept (rs gs : List ByteArray) (s : ByteArray) : s ∈ keptL rs gs ↔ s ∈ gs ∧ keepB rs s = true := by
  simp [keptL, List.mem_filter]

theorem keepB_of_mem {rs : List ByteArray} {s : ByteArray} (h : s ∈ rs) : keepB rs s = true := by
  simp [keepB, (hasB_iff rs s).2 h]

theorem okB_eq (rs gs : List ByteArray) : okB rs gs = subB rs gs := by
  rw [Bool.eq_iff_iff, okB, subB_iff, subB_iff]
  constructor
  · intro h s hs
    exact ((mem_kept _ _ _).1 (h s hs)).1
  · intro h s hs
    exact (mem_kept _ _ _).2 ⟨h s hs, keepB_of_mem hs⟩

theorem outL_yes {rs gs : List ByteArray} (h : subB rs gs = true) : outL rs gs = keptL rs gs := by
  rw [outL, okB_eq, if_pos h]
theorem outL_no {rs gs : List ByteArray} (h : subB rs gs = false) : outL rs gs = [] := by
  rw [outL, okB_eq, h]; rfl

theorem kept_sub (rs gs : List ByteArray) : (keptL rs gs).Sublist gs := List.filter_sublist

theorem drop_of_get {α : Type} {l : List α} {k : Nat} {s : α} (h : l[k]? = some s) : l.drop k = s :: l.drop (k + 1) := by
  obtain ⟨hk, rfl⟩ := List.getElem?_eq_some_iff.1 h
  exact List.drop_eq_getElem_cons hk

theorem greedy_hit {gs os : List ByteArray} {i j : Nat} {s : ByteArray} (h : (os.drop j).Sublist (gs.drop i)) (hg : gs[i]? = some s) (ho : os[j]? = some s) : (os.drop (j + 1)).Sublist (gs.drop (i + 1)) := by
  rw [drop_of_get hg, drop_of_get ho] at h
  exact List.cons_sublist_cons.1 h

theorem greedy_miss {gs os : List ByteArray} {i j : Nat} {s t : ByteArray} (h : (os.drop j).Sublist (gs.drop i)) (hg : gs[i]? = some s) (ho : os[j]? = some t) (hne : s ≠ t) : (os.drop j).Sublist (gs.drop (i + 1)) := by
  rw [drop_of_get hg, drop_of_get ho] at h
  rw [drop_of_get ho]
  cases h with
  | cons _ h => exact h
  | cons_cons _ h => exact absurd rfl hne

theorem greedy_end {gs os : List ByteArray} {i j : Nat} (h : (os.drop j).Sublist (gs.drop i)) (hi : gs.length ≤ i) : os.length ≤ j := by
  rw [List.drop_eq_nil_of_le hi] at h
  have := List.sublist_nil.1 h
  simpa using this
end Go.Proofs.Qxb6617098a
