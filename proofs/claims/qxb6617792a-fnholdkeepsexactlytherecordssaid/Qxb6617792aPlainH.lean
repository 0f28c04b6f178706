import Derived.Test.Qxb6617792aTriples
namespace Go.Proofs.Qxb6617792a
open Go.RowKit

theorem Reps.to_d {w : World} {ss : List Seg} {ds : List DSeg} (h : Reps w ss ds) {B : Nat} (hs : ∀ s ∈ ss, s.n ≤ B) : ∀ d ∈ ds, d.pay.length ≤ B := by
  intro d hd
  obtain ⟨j, hj⟩ := List.getElem?_of_mem hd
  have hlt : j < ss.length := by have := (List.getElem?_eq_some_iff.1 hj).1; have := h.1; omega
  have hr := h.2 j ss[j] d (by simp [hlt]) hj
  rw [hr.2.2.1.1]
  exact hs _ (List.getElem_mem hlt)
theorem Reps.to_s {w : World} {ss : List Seg} {ds : List DSeg} (h : Reps w ss ds) {B : Nat} (hd : ∀ d ∈ ds, d.pay.length ≤ B) : ∀ s ∈ ss, s.n ≤ B := by
  intro s hs
  obtain ⟨j, hj⟩ := List.getElem?_of_mem hs
  have hlt : j < ds.length := by have := (List.getElem?_eq_some_iff.1 hj).1; have := h.1; omega
  have hr := h.2 j s ds[j] hj (by simp [hlt])
  rw [← hr.2.2.1.1]
  exact hd _ (List.getElem_mem hlt)

theorem before_self (x : Int) : beforeB x x = false := by simp [beforeB]

theorem covers_self (q : Int) (a a' : Option Addr) (n c c' : Nat) (f : Bool) : covers (Seg.mk q a n c f) (Seg.mk q a' n c' f) = true := by
  simp [covers, before_self]

theorem holdL_twice (ss : List Seg) (q : Int) (a a' : Option Addr) (n c c' : Nat) (f : Bool) : holdL (holdL ss (Seg.mk q a n c f)) (Seg.mk q a' n c' f) = holdL ss (Seg.mk q a n c f) := by
  have hcov : covers (Seg.mk q a' n c' f) = covers (Seg.mk q a n c f) := rfl
  by_cases h : ss.any (covers (Seg.mk q a n c f)) = true
  · have e : holdL ss (Seg.mk q a n c f) = ss := by unfold holdL; rw [if_pos h]
    rw [e]
    unfold holdL
    rw [hcov, if_pos h]
  · have e : holdL ss (Seg.mk q a n c f) = ss ++ [Seg.mk q a n c f] := by unfold holdL; rw [if_neg h]
    rw [e]
    conv => lhs; unfold holdL
    rw [if_pos]
    rw [List.any_append, hcov]
    simp [covers_self]

/-- What is known of the segments behind one hold. -/
structure Kept (ss hs : List Seg) (n : Nat) (s : Seg) : Prop where
  len : hs.length = n ∨ hs.length = n + 1
  last : hs.length = n + 1 → hs[n]? = some s
  pre : ∀ i, i < n → hs[i]? = ss[i]?
  fresh : (∀ (j : Nat) (t : Seg), ss[j]? = some t → t.seq ≠ s.seq) → hs.length = n + 1

theorem kept_holdL {ss : List Seg} {n : Nat} (hn : ss.length = n) (s : Seg) : Kept ss (holdL ss s) n s := by
  by_cases h : ss.any (covers s) = true
  · have e : holdL ss s = ss := by unfold holdL; rw [if_pos h]
    rw [e]
    refine ⟨.inl hn, fun h => by omega, fun _ _ => rfl, fun hf => ?_⟩
    obtain ⟨t, ht, hc⟩ := List.any_eq_true.1 h
    obtain ⟨j, hj⟩ := List.getElem?_of_mem ht
    have := hf j t hj
    simp [covers] at hc
    exact absurd hc.1 this
  · have e : holdL ss s = ss ++ [s] := by unfold holdL; rw [if_neg h]
    rw [e]
    refine ⟨.inr (by simp [hn]), fun _ => by simp [← hn], fun i hi => by rw [List.getElem?_append_left (by omega)], fun _ => by simp [hn]⟩

/-- The data behind one hold. -/
def holdD (ds : List DSeg) (d : DSeg) (b : Bool) : List DSeg := if b then ds else ds ++ [d]
theorem Reps.holdL {w : World} {ss : List Seg} {ds : List DSeg} {s : Seg} {d : DSeg} (h : Reps w ss ds) (hr : Rep w s d) : Reps w (holdL ss s) (holdD ds d (ss.any (covers s))) := by
  unfold Qxb6617792a.holdL holdD
  by_cases hc : ss.any (covers s) = true
  · rw [if_pos hc, if_pos hc]; exact h
  · rw [if_neg hc, if_neg hc]; exact h.push hr
theorem holdL_bd {ss : List Seg} {s : Seg} {B : Nat} (h : ∀ t ∈ ss, t.n ≤ B) (hs : s.n ≤ B) : ∀ t ∈ holdL ss s, t.n ≤ B := by
  unfold holdL
  split
  · exact h
  · intro t ht
    rcases List.mem_append.1 ht with ht | ht
    · exact h t ht
    · simp at ht; subst ht; exact hs
theorem holdL_len {ss : List Seg} {s : Seg} : (holdL ss s).length ≤ ss.length + 1 := by
  unfold holdL
  split <;> simp

set_option maxHeartbeats 1000000 in
theorem bytes24_any (a : Option Addr) (n c : Nat) (ss : List Seg) (ds : List DSeg) (q : Int) (pa : Option Addr) (pn pc : Nat) (pf : Bool) (w : World) (h : HRow w a n ss) (hd : Reps w ss ds) (hm : n ≤ maxLen) (hpm : pn ≤ maxLen) :
    Calls Try.prog 24 #[.slice a n c, .int .u32 q, .slice pa pn pc, .bool pf] w fun e w' => w = w' ∧ AnyBool (n ≤ 1048576 ∧ pn ≤ 1048576) e := by
  unfold maxLen at hm hpm
  by_cases hl : 1048576 < n
  · go_enter Try.func24, Try.ntmps24
    go_wp2
    go_ret
    exact ⟨rfl, AnyBool.no _⟩
  · go_enter Try.func24, Try.ntmps24
    go_wp2
    go_loop [9, 10] (fun m i => ∃ (k : Nat) (r : Int), k ≤ n ∧ i = .int .i64 k ∧ m = .int .i64 r ∧ 0 ≤ r ∧ r ≤ 1048576) (fun _ i => n - (intOf i).toNat)
    case atStart => exact ⟨0, n, Nat.zero_le _, rfl, rfl, by omega, by omega⟩
    case round =>
      obtain ⟨k, r, hk, rfl, rfl, hr1, hr2⟩ := hrel
      by_cases hlt : k < n
      · obtain ⟨b, off, rfl, q', pa', pn', pc', pf', hs', hc1, hc2, hc3⟩ := h.at hlt
        obtain ⟨d, hd1, hrep⟩ := hd.len hs'
        have hpn : pn' ≤ maxLen := hrep.2.2.2.1
        unfold maxLen at hpn
        clear hs' hd1 hrep
        go_wp2
        · go_ret
          exact ⟨rfl, AnyBool.no _⟩
        · go_ret
          exact ⟨rfl, AnyBool.no _⟩
        · go_round
          case rel => exact ⟨k + 1, _, by omega, by go_num, rfl, by omega, by omega⟩
          case measure => simp [intOf]; omega
      · go_wp2
        · go_ret
          exact ⟨rfl, AnyBool.no _⟩
        · go_ret
          exact ⟨rfl, AnyBool.no _⟩
        · go_ret
          exact ⟨rfl, AnyBool.yes (by omega)⟩
end Go.Proofs.Qxb6617792a
