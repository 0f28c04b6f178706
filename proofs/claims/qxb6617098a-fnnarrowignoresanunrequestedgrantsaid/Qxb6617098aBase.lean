import Derived.Test.Qxb6617098aRows
import Derived.WalkKit
import Derived.WalkSpells
import Derived.WalkLawsBesides
import Derived.BigQuiet
import Derived.Deep.QuietTactic
import Derived.Lib.SlicesS
namespace Go.Proofs.Qxb6617098a
open Go.RowKit

/-- A slice of strings: its elements 'ss', 'n' of them; where there is one it has an address and its cells hold them. -/
def SRow (w : World) (a : Option Addr) (n : Nat) (ss : List ByteArray) : Prop :=
  ss.length = n ∧ (∀ s ∈ ss, s.size ≤ maxLen) ∧ (0 < n → ∃ b off, a = some ⟨b, off, none⟩ ∧ ∀ j, j < n → w.cell? ⟨b, off + j, none⟩ = some (.string (ss.getD j ByteArray.empty)))

theorem SRow.at {w : World} {a : Option Addr} {n : Nat} {ss : List ByteArray} (h : SRow w a n ss) {k : Nat} (hk : k < n) :
    ∃ b off, a = some ⟨b, off, none⟩ ∧ ∃ s, ss[k]? = some s ∧ s.size ≤ maxLen ∧ w.cell? ⟨b, off + k, none⟩ = some (.string s) := by
  obtain ⟨hl, hm, hp⟩ := h
  obtain ⟨b, off, ha, hc⟩ := hp (by omega)
  have hk' : k < ss.length := by omega
  refine ⟨b, off, ha, ss[k], by simp [hk'], hm _ (List.getElem_mem hk'), ?_⟩
  have := hc k hk
  simpa [hk'] using this

set_option maxHeartbeats 400000 in
theorem room_any (a : Option Addr) (n c : Nat) (ss : List ByteArray) (room : Int) (w : World) (h : SRow w a n ss) (hn : n ≤ 1048576) (hr : room ≤ 1048576) :
    Calls Try.prog 7 #[.slice a n c, .int .i64 room] w fun e w' => w = w' ∧ ∃ r : Int, e = .returned (.int .i64 r) ∧ -1 ≤ r ∧ r ≤ 1048576 := by
  by_cases h0 : room < 0
  · go_enter Try.func7, Try.ntmps7
    go_wp2
    go_ret
    exact ⟨rfl, _, rfl, by omega, by omega⟩
  · go_enter Try.func7, Try.ntmps7
    go_wp2
    go_loop [1, 5] (fun m i => ∃ (k : Nat) (r : Int), k ≤ n ∧ i = .int .i64 k ∧ m = .int .i64 r ∧ 0 ≤ r ∧ r ≤ 1048576) (fun _ i => n - (intOf i).toNat)
    case atStart => exact ⟨0, room, Nat.zero_le _, rfl, rfl, by omega, by omega⟩
    case round =>
      obtain ⟨k, r, hk, rfl, rfl, hr1, hr2⟩ := hrel
      by_cases hlt : k < n
      · obtain ⟨b, off, rfl, s, hs, hsz, hcell⟩ := h.at hlt
        clear hs
        unfold maxLen at hsz
        go_wp2
        · go_ret
          exact ⟨rfl, _, rfl, by omega, by omega⟩
        · go_ret
          exact ⟨rfl, _, rfl, by omega, by omega⟩
        · go_round
          case rel => exact ⟨k + 1, _, by omega, by go_num, rfl, by omega, by omega⟩
          case measure => simp [intOf]; omega
      · go_wp2
        go_ret
        exact ⟨rfl, _, rfl, by omega, by omega⟩

/-- Some bool; where it is true, 'p'. -/
def AnyBool (p : Prop) (e : Ending) : Prop := ∃ bb : Bool, e = .returned (.bool bb) ∧ (bb = true → p)
theorem AnyBool.no (p : Prop) : AnyBool p (.returned (.bool false)) := ⟨false, rfl, by simp⟩
theorem AnyBool.yes {p : Prop} (h : p) : AnyBool p (.returned (.bool true)) := ⟨true, rfl, fun _ => h⟩

set_option maxHeartbeats 1000000 in
theorem bytes6_any (a0 a1 : Option Addr) (n0 c0 n1 c1 : Nat) (s0 s1 : List ByteArray) (w : World) (h0 : SRow w a0 n0 s0) (h1 : SRow w a1 n1 s1) (hm0 : n0 ≤ maxLen) (hm1 : n1 ≤ maxLen) :
    Calls Try.prog 6 #[.slice a0 n0 c0, .slice a1 n1 c1] w fun e w' => w = w' ∧ AnyBool (n0 ≤ 1048576 ∧ n1 ≤ 1048576) e := by
  unfold maxLen at hm0 hm1
  by_cases hl0 : 1048576 < n0
  · go_enter Try.func6, Try.ntmps6
    go_wp2
    go_ret
    exact ⟨rfl, AnyBool.no _⟩
  · go_enter Try.func6, Try.ntmps6
    go_wp2
    go_loop [5, 6] (fun m i => ∃ (k : Nat) (r : Int), k ≤ n0 ∧ i = .int .i64 k ∧ m = .int .i64 r ∧ 0 ≤ r ∧ r ≤ 1048576) (fun _ i => n0 - (intOf i).toNat)
    case atStart => exact ⟨0, n0, Nat.zero_le _, rfl, rfl, by omega, by omega⟩
    case round =>
      obtain ⟨k, r, hk, rfl, rfl, hr1, hr2⟩ := hrel
      by_cases hlt : k < n0
      · obtain ⟨b, off, rfl, s, hs, hsz, hcell⟩ := h0.at hlt
        clear hs
        unfold maxLen at hsz
        go_wp2
        · go_ret
          exact ⟨rfl, AnyBool.no _⟩
        · go_ret
          exact ⟨rfl, AnyBool.no _⟩
        · go_round
          case rel => exact ⟨k + 1, _, by omega, by go_num, rfl, by omega, by omega⟩
          case measure => simp [intOf]; omega
      · by_cases hl1 : 1048576 < n1
        · go_wp2
          go_ret
          exact ⟨rfl, AnyBool.no _⟩
        · by_cases hl2 : 1048576 < r + n1
          · go_wp2
            go_ret
            exact ⟨rfl, AnyBool.no _⟩
          · go_wp2
            go_loop [5, 7] (fun m i => ∃ (k : Nat) (r : Int), k ≤ n1 ∧ i = .int .i64 k ∧ m = .int .i64 r ∧ 0 ≤ r ∧ r ≤ 1048576) (fun _ i => n1 - (intOf i).toNat)
            case atStart => exact ⟨0, r + n1, Nat.zero_le _, rfl, rfl, by omega, by omega⟩
            case round =>
              obtain ⟨k, r, hk, rfl, rfl, hr1, hr2⟩ := hrel
              by_cases hlt : k < n1
              · obtain ⟨b, off, rfl, s, hs, hsz, hcell⟩ := h1.at hlt
                clear hs
                unfold maxLen at hsz
                go_wp2
                · go_ret
                  exact ⟨rfl, AnyBool.no _⟩
                · go_ret
                  exact ⟨rfl, AnyBool.no _⟩
                · go_round
                  case rel => exact ⟨k + 1, _, by omega, by go_num, rfl, by omega, by omega⟩
                  case measure => simp [intOf]; omega
              · go_wp2
                go_ret
                exact ⟨rfl, AnyBool.yes (by omega)⟩

theorem str_eq_iff (x y : ByteArray) : (x.toList == y.toList) = true ↔ x = y := Lib.bytes_beq_iff x y
theorem str_ne_iff (x y : ByteArray) : (x.toList == y.toList) = false ↔ x ≠ y := Lib.bytes_beq_false_iff x y

/-- Whether 'x' is among 'ss'. -/
def hasB (ss : List ByteArray) (x : ByteArray) : Bool := ss.any fun s => decide (s = x)

theorem hasB_iff (ss : List ByteArray) (x : ByteArray) : hasB ss x = true ↔ x ∈ ss := by
  simp [hasB]

theorem ret_bool {a b : Bool} (h : a = b) : Ending.returned (.bool a) = .returned (.bool b) := by rw [h]

theorem hasB_hit {ss : List ByteArray} {x s : ByteArray} {k : Nat} (h : ss[k]? = some s) (e : s = x) : hasB ss x = true := by
  subst e
  exact (hasB_iff _ _).2 (List.mem_of_getElem? h)

theorem hasB_miss {ss : List ByteArray} {x : ByteArray} {n : Nat} (hl : ss.length = n) (h : ∀ j s, j < n → ss[j]? = some s → s ≠ x) : hasB ss x = false := by
  rw [Bool.eq_false_iff, Ne, hasB_iff]
  intro hm
  obtain ⟨j, hj⟩ := List.getElem?_of_mem hm
  have := (List.getElem?_eq_some_iff.1 hj).1
  exact h j x (by omega) hj rfl

set_option maxHeartbeats 400000 in
theorem has_any (a : Option Addr) (n c : Nat) (ss : List ByteArray) (x : ByteArray) (w : World) (h : SRow w a n ss) (hn : n ≤ 1048576) :
    Calls Try.prog 10 #[.slice a n c, .string x] w fun e w' => w = w' ∧ e = .returned (.bool (hasB ss x)) := by
  go_enter Try.func10, Try.ntmps10
  go_wp2
  go_loop [5] (fun i => ∃ k : Nat, k ≤ n ∧ i = .int .i64 k ∧ ∀ j s, j < k → ss[j]? = some s → s ≠ x) (fun i => n - (intOf i).toNat)
  case atStart => exact ⟨0, Nat.zero_le _, rfl, fun j _ hj => absurd hj (Nat.not_lt_zero _)⟩
  case round =>
    obtain ⟨k, hk, rfl, hne⟩ := hrel
    have HN : Hid (∀ j s, j < k → ss[j]? = some s → s ≠ x) := hne
    clear hne
    by_cases hlt : k < n
    · obtain ⟨b, off, rfl, s, hs, hsz, hcell⟩ := h.at hlt
      have HS : Hid (ss[k]? = some s) := hs
      clear hs hsz
      go_wp2
      · have heq : (s.toList == x.toList) = true := by assumption
        go_ret
        exact ⟨rfl, ret_bool (hasB_hit HS.out ((str_eq_iff _ _).1 heq)).symm⟩
      · have heq : (s.toList == x.toList) = false := by assumption
        go_round
        case rel =>
          refine ⟨k + 1, by omega, by go_num, fun j t hj ht => ?_⟩
          by_cases e : j = k
          · subst e
            have e2 := HS.out.symm.trans ht
            cases e2
            exact (str_ne_iff _ _).1 heq
          · exact HN.out j t (by omega) ht
        case measure => simp [intOf]; omega
    · go_wp2
      go_ret
      exact ⟨rfl, ret_bool (hasB_miss h.1 (fun j s hj => HN.out j s (by omega))).symm⟩

set_option maxHeartbeats 400000 in
theorem index_any (a : Option Addr) (n c : Nat) (ss : List ByteArray) (x : ByteArray) (w : World) (h : SRow w a n ss) (hn : n ≤ 1048576) :
    Calls Try.prog 16 #[.slice a n c, .string x] w fun e w' => w = w' ∧ ∃ r : Int, e = .returned (.int .i64 r) ∧ (hasB ss x = decide (0 ≤ r)) := by
  go_enter Try.func16, Try.ntmps16
  go_wp2
  go_loop [5, 8] (fun _ i => ∃ k : Nat, k ≤ n ∧ i = .int .i64 k ∧ ∀ j s, j < k → ss[j]? = some s → s ≠ x) (fun _ i => n - (intOf i).toNat)
  case atStart => exact ⟨0, Nat.zero_le _, rfl, fun j _ hj => absurd hj (Nat.not_lt_zero _)⟩
  case round =>
    obtain ⟨k, hk, rfl, hne⟩ := hrel
    have HN : Hid (∀ j s, j < k → ss[j]? = some s → s ≠ x) := hne
    clear hne
    by_cases hlt : k < n
    · obtain ⟨b, off, rfl, s, hs, hsz, hcell⟩ := h.at hlt
      have HS : Hid (ss[k]? = some s) := hs
      clear hs hsz
      go_wp2
      · have heq : (x.toList == s.toList) = true := by assumption
        go_ret
        exact ⟨rfl, _, rfl, by rw [hasB_hit HS.out ((str_eq_iff _ _).1 heq).symm]; simp⟩
      · have heq : (x.toList == s.toList) = false := by assumption
        go_round
        case rel =>
          refine ⟨k + 1, by omega, by go_num, fun j t hj ht => ?_⟩
          by_cases e : j = k
          · subst e
            have e2 := HS.out.symm.trans ht
            cases e2
            exact ((str_ne_iff _ _).1 heq).symm
          · exact HN.out j t (by omega) ht
        case measure => simp [intOf]; omega
    · go_wp2
      go_ret
      exact ⟨rfl, _, rfl, by rw [hasB_miss h.1 (fun j s hj => HN.out j s (by omega))]; simp⟩

set_option maxHeartbeats 400000 in
theorem contains_any (a : Option Addr) (n c : Nat) (ss : List ByteArray) (x : ByteArray) (w : World) (h : SRow w a n ss) (hn : n ≤ 1048576) :
    Calls Try.prog 15 #[.slice a n c, .string x] w fun e w' => w = w' ∧ e = .returned (.bool (hasB ss x)) := by
  go_enter Try.func15, Try.ntmps15
  go_wp2_with (go_at_call 16; refine (index_any a n c ss x _ h hn).mono ?_; rintro e w' ⟨rfl, r, rfl, hr⟩; have HR := (show Hid _ from hr); clear hr)
  go_ret
  exact ⟨rfl, ret_bool HR.out.symm⟩

def subB (xs ys : List ByteArray) : Bool := xs.all (hasB ys)

theorem subB_miss {xs ys : List ByteArray} {k : Nat} {s : ByteArray} (h : xs[k]? = some s) (hb : hasB ys s = false) : subB xs ys = false := by
  simp only [subB, List.all_eq_false]
  exact ⟨s, List.mem_of_getElem? h, by simp [hb]⟩

theorem subB_all {xs ys : List ByteArray} {n : Nat} (hl : xs.length = n) (h : ∀ j s, j < n → xs[j]? = some s → hasB ys s = true) : subB xs ys = true := by
  simp only [subB, List.all_eq_true]
  intro s hs
  obtain ⟨j, hj⟩ := List.getElem?_of_mem hs
  have := (List.getElem?_eq_some_iff.1 hj).1
  exact h j s (by omega) hj

set_option maxHeartbeats 400000 in
theorem subset_any (a0 a1 : Option Addr) (n0 c0 n1 c1 : Nat) (xs ys : List ByteArray) (w : World) (h0 : SRow w a0 n0 xs) (h1 : SRow w a1 n1 ys) (hn0 : n0 ≤ 1048576) (hn1 : n1 ≤ 1048576) :
    Calls Try.prog 9 #[.slice a0 n0 c0, .slice a1 n1 c1] w fun e w' => w = w' ∧ e = .returned (.bool (subB xs ys)) := by
  go_enter Try.func9, Try.ntmps9
  go_wp2
  go_loop [5] (fun i => ∃ k : Nat, k ≤ n0 ∧ i = .int .i64 k ∧ ∀ j s, j < k → xs[j]? = some s → hasB ys s = true) (fun i => n0 - (intOf i).toNat)
  case atStart => exact ⟨0, Nat.zero_le _, rfl, fun j _ hj => absurd hj (Nat.not_lt_zero _)⟩
  case round =>
    obtain ⟨k, hk, rfl, hne⟩ := hrel
    have HN : Hid (∀ j s, j < k → xs[j]? = some s → hasB ys s = true) := hne
    clear hne
    by_cases hlt : k < n0
    · obtain ⟨b, off, rfl, s, hs, hsz, hcell⟩ := h0.at hlt
      have HS : Hid (xs[k]? = some s) := hs
      clear hs hsz
      cases hb : hasB ys s
      · go_wp2_with (go_at_call 10; refine (has_any a1 n1 c1 ys s _ h1 hn1).mono ?_; rintro e w' ⟨rfl, rfl⟩)
        go_ret
        exact ⟨rfl, ret_bool (subB_miss HS.out hb).symm⟩
      · go_wp2_with (go_at_call 10; refine (has_any a1 n1 c1 ys s _ h1 hn1).mono ?_; rintro e w' ⟨rfl, rfl⟩)
        go_round
        case rel =>
          refine ⟨k + 1, by omega, by go_num, fun j t hj ht => ?_⟩
          by_cases e : j = k
          · subst e
            have e2 := HS.out.symm.trans ht
            cases e2
            exact hb
          · exact HN.out j t (by omega) ht
        case measure => simp [intOf]; omega
    · go_wp2
      go_ret
      exact ⟨rfl, ret_bool (subB_all h0.1 (fun j s hj => HN.out j s (by omega))).symm⟩
end Go.Proofs.Qxb6617098a
