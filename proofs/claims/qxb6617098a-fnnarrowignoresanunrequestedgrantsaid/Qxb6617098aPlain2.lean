import Derived.Test.Qxb6617098aPlain
namespace Go.Proofs.Qxb6617098a

theorem keepB_ne {rs : List ByteArray} (h : rs ≠ []) (s : ByteArray) : keepB rs s = hasB rs s := by
  cases rs with
  | nil => exact absurd rfl h
  | cons _ _ => simp [keepB]

theorem keepB_sub {fs ss : List ByteArray} (h : fs = [] ∨ subB ss fs = true) {s : ByteArray} (hs : s ∈ ss) : keepB fs s = true := by
  rcases h with rfl | h
  · rfl
  · exact keepB_of_mem ((subB_iff _ _).1 h s hs)

theorem twice_sub {gs fs ss : List ByteArray} (h : fs = [] ∨ subB ss fs = true) : subB ss (keptL fs gs) = subB ss gs := by
  rw [Bool.eq_iff_iff, subB_iff, subB_iff]
  constructor
  · intro q s hs
    exact ((mem_kept _ _ _).1 (q s hs)).1
  · intro q s hs
    exact (mem_kept _ _ _).2 ⟨q s hs, keepB_sub h hs⟩

theorem twice_kept {gs fs ss : List ByteArray} (hne : ss ≠ []) (h : fs = [] ∨ subB ss fs = true) : keptL ss (keptL fs gs) = keptL ss gs := by
  unfold keptL
  rw [List.filter_filter]
  apply List.filter_congr
  intro s _
  rw [keepB_ne hne]
  cases hb : hasB ss s
  · simp
  · simp [keepB_sub h ((hasB_iff _ _).1 hb)]

theorem twice_out {gs fs ss : List ByteArray} (hne : ss ≠ []) (h : fs = [] ∨ subB ss fs = true) : outL ss (keptL fs gs) = outL ss gs := by
  unfold outL
  rw [okB_eq, okB_eq, twice_sub h, twice_kept hne h]
end Go.Proofs.Qxb6617098a
