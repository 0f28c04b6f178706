import Derived.Test.Qxb6617098aBase
namespace Go.Proofs.Qxb6617098a
open Go.RowKit

set_option maxHeartbeats 1000000 in
theorem bytes11_any (a0 a1 a2 : Option Addr) (n0 c0 n1 c1 n2 c2 : Nat) (s0 s1 s2 : List ByteArray) (w : World) (h0 : SRow w a0 n0 s0) (h1 : SRow w a1 n1 s1) (h2 : SRow w a2 n2 s2) (hm0 : n0 ≤ maxLen) (hm1 : n1 ≤ maxLen) (hm2 : n2 ≤ maxLen) :
    Calls Try.prog 11 #[.slice a0 n0 c0, .slice a1 n1 c1, .slice a2 n2 c2] w fun e w' => w = w' ∧ AnyBool (n0 ≤ 1048576 ∧ n1 ≤ 1048576 ∧ n2 ≤ 1048576) e := by
  unfold maxLen at hm0 hm1 hm2
  by_cases hl0 : 1048576 < n0
  · go_enter Try.func11, Try.ntmps11
    go_wp2
    go_ret
    exact ⟨rfl, AnyBool.no _⟩
  · go_enter Try.func11, Try.ntmps11
    go_wp2
    go_loop [7, 8] (fun m i => ∃ (k : Nat) (r : Int), k ≤ n0 ∧ i = .int .i64 k ∧ m = .int .i64 r ∧ 0 ≤ r ∧ r ≤ 1048576) (fun _ i => n0 - (intOf i).toNat)
    case atStart => exact ⟨0, _, Nat.zero_le _, rfl, rfl, by omega, by omega⟩
    case round =>
      obtain ⟨k, r, hk, rfl, rfl, hr1, hr2⟩ := hrel
      by_cases hlt : k < n0
      · obtain ⟨b, off, rfl, s, hs, hsz, hcell⟩ := h0.at hlt
        clear hs
        unfold maxLen at hsz
        go_wp2
        · go_ret
          exact ⟨rfl, AnyBool.no _⟩
        · go_ret
          exact ⟨rfl, AnyBool.no _⟩
        · go_round
          case rel => exact ⟨k + 1, _, by omega, by go_num, rfl, by omega, by omega⟩
          case measure => simp [intOf]; omega
      · by_cases hl_n1 : 1048576 < n1
        · go_wp2
          go_ret
          exact ⟨rfl, AnyBool.no _⟩
        · by_cases hs_n1 : 1048576 < r + n1
          · go_wp2
            go_ret
            exact ⟨rfl, AnyBool.no _⟩
          · go_wp2
            go_loop [7, 9] (fun m i => ∃ (k : Nat) (r : Int), k ≤ n1 ∧ i = .int .i64 k ∧ m = .int .i64 r ∧ 0 ≤ r ∧ r ≤ 1048576) (fun _ i => n1 - (intOf i).toNat)
            case atStart => exact ⟨0, _, Nat.zero_le _, rfl, rfl, by omega, by omega⟩
            case round =>
              obtain ⟨k, r, hk, rfl, rfl, hr1, hr2⟩ := hrel
              by_cases hlt : k < n1
              · obtain ⟨b, off, rfl, s, hs, hsz, hcell⟩ := h1.at hlt
                clear hs
                unfold maxLen at hsz
                go_wp2
                · go_ret
                  exact ⟨rfl, AnyBool.no _⟩
                · go_ret
                  exact ⟨rfl, AnyBool.no _⟩
                · go_round
                  case rel => exact ⟨k + 1, _, by omega, by go_num, rfl, by omega, by omega⟩
                  case measure => simp [intOf]; omega
              · by_cases hl_n2 : 1048576 < n2
                · go_wp2
                  go_ret
                  exact ⟨rfl, AnyBool.no _⟩
                · by_cases hs_n2 : 1048576 < r + n2
                  · go_wp2
                    go_ret
                    exact ⟨rfl, AnyBool.no _⟩
                  · go_wp2
                    go_loop [7, 10] (fun m i => ∃ (k : Nat) (r : Int), k ≤ n2 ∧ i = .int .i64 k ∧ m = .int .i64 r ∧ 0 ≤ r ∧ r ≤ 1048576) (fun _ i => n2 - (intOf i).toNat)
                    case atStart => exact ⟨0, _, Nat.zero_le _, rfl, rfl, by omega, by omega⟩
                    case round =>
                      obtain ⟨k, r, hk, rfl, rfl, hr1, hr2⟩ := hrel
                      by_cases hlt : k < n2
                      · obtain ⟨b, off, rfl, s, hs, hsz, hcell⟩ := h2.at hlt
                        clear hs
                        unfold maxLen at hsz
                        go_wp2
                        · go_ret
                          exact ⟨rfl, AnyBool.no _⟩
                        · go_ret
                          exact ⟨rfl, AnyBool.no _⟩
                        · go_round
                          case rel => exact ⟨k + 1, _, by omega, by go_num, rfl, by omega, by omega⟩
                          case measure => simp [intOf]; omega
                      · go_wp2
                        go_ret
                        exact ⟨rfl, AnyBool.yes (by omega)⟩

set_option maxHeartbeats 1000000 in
theorem bytes13_any (a0 a1 : Option Addr) (n0 c0 n1 c1 : Nat) (s0 s1 : List ByteArray) (x : ByteArray) (at_ : Int) (w : World) (h0 : SRow w a0 n0 s0) (h1 : SRow w a1 n1 s1) (hx : x.size ≤ maxLen) (hm0 : n0 ≤ maxLen) (hm1 : n1 ≤ maxLen) :
    Calls Try.prog 13 #[.slice a0 n0 c0, .slice a1 n1 c1, .string x, .int .i64 at_] w fun e w' => w = w' ∧ AnyBool (n0 ≤ 1048576 ∧ n1 ≤ 1048576) e := by
  unfold maxLen at hm0 hm1 hx
  by_cases hl0 : 1048576 < n0
  · go_enter Try.func13, Try.ntmps13
    go_wp2
    go_ret
    exact ⟨rfl, AnyBool.no _⟩
  · go_enter Try.func13, Try.ntmps13
    go_wp2
    go_loop [9, 10] (fun m i => ∃ (k : Nat) (r : Int), k ≤ n0 ∧ i = .int .i64 k ∧ m = .int .i64 r ∧ 0 ≤ r ∧ r ≤ 1048576) (fun _ i => n0 - (intOf i).toNat)
    case atStart => exact ⟨0, _, Nat.zero_le _, rfl, rfl, by omega, by omega⟩
    case round =>
      obtain ⟨k, r, hk, rfl, rfl, hr1, hr2⟩ := hrel
      by_cases hlt : k < n0
      · obtain ⟨b, off, rfl, s, hs, hsz, hcell⟩ := h0.at hlt
        clear hs
        unfold maxLen at hsz
        go_wp2
        · go_ret
          exact ⟨rfl, AnyBool.no _⟩
        · go_ret
          exact ⟨rfl, AnyBool.no _⟩
        · go_round
          case rel => exact ⟨k + 1, _, by omega, by go_num, rfl, by omega, by omega⟩
          case measure => simp [intOf]; omega
      · by_cases hl_n1 : 1048576 < n1
        · go_wp2
          go_ret
          exact ⟨rfl, AnyBool.no _⟩
        · by_cases hs_n1 : 1048576 < r + n1
          · go_wp2
            go_ret
            exact ⟨rfl, AnyBool.no _⟩
          · go_wp2
            go_loop [9, 11] (fun m i => ∃ (k : Nat) (r : Int), k ≤ n1 ∧ i = .int .i64 k ∧ m = .int .i64 r ∧ 0 ≤ r ∧ r ≤ 1048576) (fun _ i => n1 - (intOf i).toNat)
            case atStart => exact ⟨0, _, Nat.zero_le _, rfl, rfl, by omega, by omega⟩
            case round =>
              obtain ⟨k, r, hk, rfl, rfl, hr1, hr2⟩ := hrel
              by_cases hlt : k < n1
              · obtain ⟨b, off, rfl, s, hs, hsz, hcell⟩ := h1.at hlt
                clear hs
                unfold maxLen at hsz
                go_wp2
                · go_ret
                  exact ⟨rfl, AnyBool.no _⟩
                · go_ret
                  exact ⟨rfl, AnyBool.no _⟩
                · go_round
                  case rel => exact ⟨k + 1, _, by omega, by go_num, rfl, by omega, by omega⟩
                  case measure => simp [intOf]; omega
              · go_wp2
                · go_ret
                  exact ⟨rfl, AnyBool.no _⟩
                · go_ret
                  exact ⟨rfl, AnyBool.no _⟩
                · go_ret
                  exact ⟨rfl, AnyBool.yes (by omega)⟩

end Go.Proofs.Qxb6617098a
