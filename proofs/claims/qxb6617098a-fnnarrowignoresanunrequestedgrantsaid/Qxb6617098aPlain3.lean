import Derived.Test.Qxb6617098aPlain2
namespace Go.Proofs.Qxb6617098a

/-- 'x' put into 'gs' at place 't'. -/
def grownL (gs : List ByteArray) (x : ByteArray) (t : Nat) : List ByteArray := gs.take t ++ [x] ++ gs.drop t

theorem mem_grown (gs : List ByteArray) (x : ByteArray) (t : Nat) (s : ByteArray) : s ∈ grownL gs x t ↔ s = x ∨ s ∈ gs := by
  have h : s ∈ gs ↔ s ∈ gs.take t ∨ s ∈ gs.drop t := by rw [← List.mem_append, List.take_append_drop]
  simp only [grownL, List.mem_append, List.mem_singleton, h]
  constructor
  · rintro ((h | h) | h) <;> simp [h]
  · rintro (h | h | h) <;> simp [h]

theorem grown_sub {rs gs : List ByteArray} {x : ByteArray} (t : Nat) (hx : hasB rs x = false) : subB rs (grownL gs x t) = subB rs gs := by
  have hx' : x ∉ rs := by rw [← hasB_iff, hx]; simp
  rw [Bool.eq_iff_iff, subB_iff, subB_iff]
  constructor
  · intro q s hs
    rcases (mem_grown _ _ _ _).1 (q s hs) with rfl | h
    · exact absurd hs hx'
    · exact h
  · intro q s hs
    exact (mem_grown _ _ _ _).2 (.inr (q s hs))

theorem grown_kept {rs gs : List ByteArray} {x : ByteArray} (t : Nat) (hne : rs ≠ []) (hx : hasB rs x = false) : keptL rs (grownL gs x t) = keptL rs gs := by
  have hk : keepB rs x = false := by rw [keepB_ne hne, hx]
  have e : (gs.take t).filter (keepB rs) ++ (gs.drop t).filter (keepB rs) = gs.filter (keepB rs) := by rw [← List.filter_append, List.take_append_drop]
  simp [keptL, grownL, List.filter_append, hk, e]

theorem grown_out {rs gs : List ByteArray} {x : ByteArray} (t : Nat) (hne : rs ≠ []) (hx : hasB rs x = false) : outL rs (grownL gs x t) = outL rs gs := by
  unfold outL
  rw [okB_eq, okB_eq, grown_sub t hx, grown_kept t hne hx]

theorem take_snoc {gs : List ByteArray} {k : Nat} {s : ByteArray} (h : gs[k]? = some s) : gs.take (k + 1) = gs.take k ++ [s] := by
  rw [List.take_add_one, h]; rfl

/-- The list that the second loop has gathered behind its round k. -/
def partL (gs : List ByteArray) (x : ByteArray) (t k : Nat) : List ByteArray := gs.take t ++ [x] ++ (gs.take k).drop t

theorem partL_start (gs : List ByteArray) (x : ByteArray) (t : Nat) : partL gs x t t = gs.take t ++ [x] := by
  simp [partL]
theorem partL_step {gs : List ByteArray} (x : ByteArray) {t k : Nat} {s : ByteArray} (ht : t ≤ k) (h : gs[k]? = some s) : partL gs x t (k + 1) = partL gs x t k ++ [s] := by
  have hk := (List.getElem?_eq_some_iff.1 h).1
  rw [partL, take_snoc h, List.drop_append_of_le_length (by simp; omega), partL, List.append_assoc (gs.take t ++ [x])]
theorem partL_end {gs : List ByteArray} (x : ByteArray) {t k : Nat} (h : gs.length ≤ k) : partL gs x t k = grownL gs x t := by
  rw [partL, List.take_of_length_le h, grownL]
theorem partL_le (gs : List ByteArray) (x : ByteArray) (t k : Nat) : (partL gs x t k).length ≤ gs.length + 1 := by
  simp [partL]; omega
theorem grownL_len {gs : List ByteArray} {x : ByteArray} {t : Nat} : (grownL gs x t).length = gs.length + 1 := by
  simp [grownL]; omega
end Go.Proofs.Qxb6617098a
