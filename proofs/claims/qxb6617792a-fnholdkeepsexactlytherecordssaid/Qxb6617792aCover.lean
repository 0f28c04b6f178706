import Derived.Test.Qxb6617792aPlainH
namespace Go.Proofs.Qxb6617792a
open Go.RowKit

/-- How many sequence numbers a segment takes. -/
def reachI (n : Nat) (f : Bool) : Int := n + if f then 1 else 0

set_option maxHeartbeats 400000 in
theorem reach_any (a : Option Addr) (n c : Nat) (f : Bool) (w : World) (hn : n ≤ 1048576) :
    Calls Try.prog 31 #[.slice a n c, .bool f] w fun e w' => e = .returned (.int .i64 (reachI n f)) ∧ w' = w := by
  cases f
  · go_enter Try.func31, Try.ntmps31
    go_wp2
    go_ret
    exact ⟨ret_int (by simp [reachI]), rfl⟩
  · go_enter Try.func31, Try.ntmps31
    go_wp2
    go_ret
    exact ⟨ret_int (by simp [reachI]), rfl⟩

/-- 'old' stands at the offer's number and takes at least as many. -/
def coversS (s old : Seg) : Bool := (old.seq == s.seq) && decide (reachI s.n s.fin ≤ reachI old.n old.fin)

theorem coversS_eq {q1 : Int} {a1 : Option Addr} {n1 c1 : Nat} {f1 : Bool} {q : Int} {a : Option Addr} {n c : Nat} {f : Bool} {b1 b2 : Bool} (h1 : (q1 == q) = b1) (h2 : decide (reachI n f ≤ reachI n1 f1) = b2) :
    coversS (Seg.mk q a n c f) (Seg.mk q1 a1 n1 c1 f1) = (b1 && b2) := by
  simp only [coversS, h1, h2]

/-- coveredBefore's answer. -/
def covS (rs os : List Seg) (j : Nat) (s : Seg) : Bool := rs.any (coversS s) || (headS os j).any (coversS s)

theorem covS_r {rs os : List Seg} {j k : Nat} {s t : Seg} (h : rs[k]? = some t) (hc : coversS s t = true) : covS rs os j s = true := by
  unfold covS
  rw [List.any_eq_true.2 ⟨t, List.mem_of_getElem? h, hc⟩]
  rfl
theorem covS_o {rs os : List Seg} {j k : Nat} {s t : Seg} (hk : k < j) (h : os[k]? = some t) (hc : coversS s t = true) : covS rs os j s = true := by
  unfold covS
  have : (headS os j).any (coversS s) = true := List.any_eq_true.2 ⟨t, List.mem_of_getElem? (i := k) (by unfold headS; rw [List.getElem?_take, if_pos hk]; exact h), hc⟩
  rw [this, Bool.or_true]
theorem covS_no {rs os : List Seg} {j n : Nat} {s : Seg} (hl : rs.length = n) (h : ∀ (i : Nat) (t : Seg), i < n → rs[i]? = some t → coversS s t = false) (k : ∀ (i : Nat) (t : Seg), i < j → os[i]? = some t → coversS s t = false) : covS rs os j s = false := by
  unfold covS
  rw [Bool.or_eq_false_iff]
  constructor
  · rw [List.any_eq_false]
    intro t ht
    obtain ⟨i, hi⟩ := List.getElem?_of_mem ht
    have := (List.getElem?_eq_some_iff.1 hi).1
    simp [h i t (by omega) hi]
  · rw [List.any_eq_false]
    intro t ht
    obtain ⟨i, hi⟩ := List.getElem?_of_mem ht
    unfold headS at hi
    rw [List.getElem?_take] at hi
    split at hi
    · simp [k i t (by omega) hi]
    · cases hi

set_option maxHeartbeats 2000000 in
set_option maxRecDepth 100000 in
theorem coveredBefore_any (a1 a2 : Option Addr) (n1 c1 n2 c2 j : Nat) (rs os : List Seg) (s : Seg) (w : World) (h1 : HRow w a1 n1 rs) (h2 : HRow w a2 n2 os) (hj : j < n2) (hs : os[j]? = some s) (hn1 : n1 ≤ 1048576) (hn2 : n2 ≤ 1048576) (hr : ∀ t ∈ rs, t.n ≤ 1048576) (ho : ∀ t ∈ os, t.n ≤ 1048576) :
    Calls Try.prog 22 #[.slice a1 n1 c1, .slice a2 n2 c2, .int .i64 j] w fun e w' => e = .returned (.bool (covS rs os j s)) ∧ ∃ m, w' = w.drewN m := by
  have HR : Hid (∀ t ∈ rs, t.n ≤ 1048576) := hr
  have HO : Hid (∀ t ∈ os, t.n ≤ 1048576) := ho
  clear hr ho
  obtain ⟨b2, o2, rfl, qj, paj, pnj, pcj, pfj, hsj, hj1, hj2, hj3⟩ := h2.at hj
  obtain rfl : s = Seg.mk qj paj pnj pcj pfj := by rw [hsj] at hs; exact (Option.some.inj hs).symm
  have hpj : pnj ≤ 1048576 := HO.out _ (List.mem_of_getElem? hsj)
  clear hsj hs
  go_enter Try.func22, Try.ntmps22
  go_wp2
  go_quiet ((go_at_call 31; exact Calls.quiet_of_same (reach_any paj pnj pcj pfj _ hpj)))
  go_wp2
  go_loopw [8] (fun i wr => ∃ k : Nat, k ≤ n1 ∧ i = .int .i64 k ∧ (∀ (i : Nat) (t : Seg), i < k → rs[i]? = some t → coversS (Seg.mk qj paj pnj pcj pfj) t = false) ∧ ∃ m, wr = w.drewN m) (fun i _ => n1 - (intOf i).toNat)
  case atStart => exact ⟨0, Nat.zero_le _, rfl, fun i t hi => absurd hi (Nat.not_lt_zero _), nq, rfl⟩
  case round =>
    obtain ⟨k, hk, rfl, hno, hm⟩ := hrel
    have HNO : Hid (∀ (i : Nat) (t : Seg), i < k → rs[i]? = some t → coversS (Seg.mk qj paj pnj pcj pfj) t = false) := hno
    have HM : Hid (∃ m, wr = w.drewN m) := hm
    have hb : Below w.heap.size w wr := by obtain ⟨m, rfl⟩ := hm; exact below_drewN (Below.refl _ _) _
    have kj1 := cell_later hb hj1
    have kj2 := cell_later hb hj2
    have kj3 := cell_later hb hj3
    clear hm hno
    by_cases hlt : k < n1
    · obtain ⟨b1, o1, rfl, q1, pa1, pn1, pc1, pf1, hs1, hc1, hc2, hc3⟩ := (h1.below hb).at hlt
      have hp1 : pn1 ≤ 1048576 := HR.out _ (List.mem_of_getElem? hs1)
      have HS : Hid (rs[k]? = some (Seg.mk q1 pa1 pn1 pc1 pf1)) := hs1
      clear hs1
      cases hqq : (q1 == qj)
      · have HC : Hid (coversS (Seg.mk qj paj pnj pcj pfj) (Seg.mk q1 pa1 pn1 pc1 pf1) = false) := by show coversS _ _ = false; rw [coversS_eq hqq rfl]; rfl
        go_wp2
        go_quiet (fail)
        go_wp2
        go_roundw
        case rel =>
          refine ⟨k + 1, by omega, by go_num, fun i t hi ht => ?_, ?_⟩
          · by_cases e : i = k
            · subst e
              have e2 := HS.out.symm.trans ht
              cases e2
              exact HC.out
            · exact HNO.out i t (by omega) ht
          · obtain ⟨m, rfl⟩ := HM.out
            exact ⟨m + nq, by simp⟩
        case measure => simp [intOf]; omega
      · cases hge : decide (reachI pnj pfj ≤ reachI pn1 pf1)
        · have HC : Hid (coversS (Seg.mk qj paj pnj pcj pfj) (Seg.mk q1 pa1 pn1 pc1 pf1) = false) := by show coversS _ _ = false; rw [coversS_eq hqq hge]; rfl
          go_wp2
          go_quiet ((go_at_call 31; exact Calls.quiet_of_same (reach_any pa1 pn1 pc1 pf1 _ hp1)))
          go_wp2
          go_roundw
          case rel =>
            refine ⟨k + 1, by omega, by go_num, fun i t hi ht => ?_, ?_⟩
            · by_cases e : i = k
              · subst e
                have e2 := HS.out.symm.trans ht
                cases e2
                exact HC.out
              · exact HNO.out i t (by omega) ht
            · obtain ⟨m, rfl⟩ := HM.out
              exact ⟨m + nq, by simp⟩
          case measure => simp [intOf]; omega
        · have HC : Hid (coversS (Seg.mk qj paj pnj pcj pfj) (Seg.mk q1 pa1 pn1 pc1 pf1) = true) := by show coversS _ _ = true; rw [coversS_eq hqq hge]; rfl
          go_wp2
          go_quiet ((go_at_call 31; exact Calls.quiet_of_same (reach_any pa1 pn1 pc1 pf1 _ hp1)))
          go_wp2
          go_ret
          obtain ⟨m, rfl⟩ := HM.out
          exact ⟨ret_bool (covS_r HS.out HC.out).symm, m + nq, by simp⟩
    · have HNA : Hid (∀ (i : Nat) (t : Seg), i < n1 → rs[i]? = some t → coversS (Seg.mk qj paj pnj pcj pfj) t = false) := fun i t hi => HNO.out i t (by omega)
      clear HNO
      go_wp2
      go_loopw [9] (fun i wr => ∃ k : Nat, k ≤ j ∧ i = .int .i64 k ∧ (∀ (i : Nat) (t : Seg), i < k → os[i]? = some t → coversS (Seg.mk qj paj pnj pcj pfj) t = false) ∧ ∃ m, wr = w.drewN m) (fun i _ => j - (intOf i).toNat)
      case atStart => exact ⟨0, Nat.zero_le _, rfl, fun i t hi => absurd hi (Nat.not_lt_zero _), HM.out⟩
      case round =>
        clear HM hb kj1 kj2 kj3
        obtain ⟨l, hl, rfl, hno, hm⟩ := hrel
        have HNO : Hid (∀ (i : Nat) (t : Seg), i < l → os[i]? = some t → coversS (Seg.mk qj paj pnj pcj pfj) t = false) := hno
        have HM : Hid (∃ m, wr = w.drewN m) := hm
        have hb : Below w.heap.size w wr := by obtain ⟨m, rfl⟩ := hm; exact below_drewN (Below.refl _ _) _
        have kj1 := cell_later hb hj1
        have kj2 := cell_later hb hj2
        have kj3 := cell_later hb hj3
        clear hm hno
        by_cases hlt2 : l < j
        · have hl2 : l < n2 := by omega
          obtain ⟨b1, o1, e0, q1, pa1, pn1, pc1, pf1, hs1, hc1, hc2, hc3⟩ := (h2.below hb).at hl2
          simp only [Option.some.injEq, Addr.mk.injEq, and_true] at e0
          obtain ⟨rfl, rfl⟩ := e0
          have hp1 : pn1 ≤ 1048576 := HO.out _ (List.mem_of_getElem? hs1)
          have HS : Hid (os[l]? = some (Seg.mk q1 pa1 pn1 pc1 pf1)) := hs1
          clear hs1
          cases hqq : (q1 == qj)
          · have HC : Hid (coversS (Seg.mk qj paj pnj pcj pfj) (Seg.mk q1 pa1 pn1 pc1 pf1) = false) := by show coversS _ _ = false; rw [coversS_eq hqq rfl]; rfl
            go_wp2
            go_quiet (fail)
            go_wp2
            go_roundw
            case rel =>
              refine ⟨l + 1, by omega, by go_num, fun i t hi ht => ?_, ?_⟩
              · by_cases e : i = l
                · subst e
                  have e2 := HS.out.symm.trans ht
                  cases e2
                  exact HC.out
                · exact HNO.out i t (by omega) ht
              · obtain ⟨m, rfl⟩ := HM.out
                exact ⟨m + nq, by simp⟩
            case measure => simp [intOf]; omega
          · cases hge : decide (reachI pnj pfj ≤ reachI pn1 pf1)
            · have HC : Hid (coversS (Seg.mk qj paj pnj pcj pfj) (Seg.mk q1 pa1 pn1 pc1 pf1) = false) := by show coversS _ _ = false; rw [coversS_eq hqq hge]; rfl
              go_wp2
              go_quiet ((go_at_call 31; exact Calls.quiet_of_same (reach_any pa1 pn1 pc1 pf1 _ hp1)))
              go_wp2
              go_roundw
              case rel =>
                refine ⟨l + 1, by omega, by go_num, fun i t hi ht => ?_, ?_⟩
                · by_cases e : i = l
                  · subst e
                    have e2 := HS.out.symm.trans ht
                    cases e2
                    exact HC.out
                  · exact HNO.out i t (by omega) ht
                · obtain ⟨m, rfl⟩ := HM.out
                  exact ⟨m + nq, by simp⟩
              case measure => simp [intOf]; omega
            · have HC : Hid (coversS (Seg.mk qj paj pnj pcj pfj) (Seg.mk q1 pa1 pn1 pc1 pf1) = true) := by show coversS _ _ = true; rw [coversS_eq hqq hge]; rfl
              go_wp2
              go_quiet ((go_at_call 31; exact Calls.quiet_of_same (reach_any pa1 pn1 pc1 pf1 _ hp1)))
              go_wp2
              go_ret
              obtain ⟨m, rfl⟩ := HM.out
              exact ⟨ret_bool (covS_o hlt2 HS.out HC.out).symm, m + nq, by simp⟩
        · go_wp2
          go_ret
          exact ⟨ret_bool (covS_no h1.1 HNA.out (fun i t hi => HNO.out i t (by omega))).symm, HM.out⟩
end Go.Proofs.Qxb6617792a
