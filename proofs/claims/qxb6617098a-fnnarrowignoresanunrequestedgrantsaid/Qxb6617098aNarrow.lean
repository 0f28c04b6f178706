import Derived.Test.Qxb6617098aBase
namespace Go.Proofs.Qxb6617098a
open Go.RowKit

theorem Try.info9 : (Try.prog.info? 9).map (fun i => (i.zero, i.size, i.bytes)) = some (some (.string ByteArray.empty), 1, 16) := by kernel_rfl

/-- A grant that a request keeps: nothing is requested, or its name is. -/
def keepB (rs : List ByteArray) (s : ByteArray) : Bool := rs.isEmpty || hasB rs s
def keptL (rs gs : List ByteArray) : List ByteArray := gs.filter (keepB rs)
def okB (rs gs : List ByteArray) : Bool := subB rs (keptL rs gs)
def outL (rs gs : List ByteArray) : List ByteArray := if okB rs gs = true then keptL rs gs else []

theorem SRow.below {w w' : World} {a : Option Addr} {n : Nat} {ss : List ByteArray} (h : SRow w a n ss) (hb : Below w.heap.size w w') : SRow w' a n ss := by
  refine ⟨h.1, h.2.1, fun hn => ?_⟩
  obtain ⟨b, off, rfl, hc⟩ := h.2.2 hn
  exact ⟨b, off, rfl, fun j hj => cell_later hb (hc j hj)⟩

theorem SRow.nil (w : World) (a : Option Addr) : SRow w a 0 [] := ⟨rfl, by simp, fun h => absurd h (Nat.lt_irrefl _)⟩

/-- A slice of strings that the call itself has made: nil just where it is empty. -/
def Own (B : Nat) (w : World) (a : Option Addr) (m c : Nat) (ss : List ByteArray) : Prop :=
  w.ownsRow B 9 1 (.slice a m c) ss.length (ss.map Value.string) ∧ (∀ s ∈ ss, s.size ≤ maxLen) ∧ (ss = [] → a = none ∧ m = 0 ∧ c = 0)

theorem Own.nil (B : Nat) (w : World) : Own B w none 0 0 [] := ⟨World.ownsRow_nil _ _ _ _, by simp, fun _ => ⟨rfl, rfl, rfl⟩⟩

theorem Own.len {B : Nat} {w : World} {a : Option Addr} {m c : Nat} {ss : List ByteArray} (h : Own B w a m c ss) : m = ss.length := by
  rcases h.1.2 with ⟨hv, hn⟩ | ⟨g, cap, cur, hv, _⟩
  · simp at hv; omega
  · simp at hv; exact hv.2.1

theorem Own.srow {B : Nat} {w : World} {a : Option Addr} {m c : Nat} {ss : List ByteArray} (h : Own B w a m c ss) : SRow w a m ss := by
  have hl := h.len
  refine ⟨hl.symm, h.2.1, fun hm => ?_⟩
  rcases h.1.2 with ⟨hv, hn⟩ | ⟨g, cap, cur, hv, hB, hg, _⟩
  · simp at hv; omega
  · have hv' := hv
    simp at hv'
    obtain ⟨rfl, _, rfl⟩ := hv'
    refine ⟨g, 0, rfl, fun j hj => ?_⟩
    have := h.1.cells (g := g) rfl j (.string (ss.getD j ByteArray.empty)) (by
      have hj' : j < ss.length := by omega
      simp [hj'])
    rw [Addr.add_lit] at this
    exact this

theorem Own.slice {B : Nat} {w : World} {v : Value} {ss : List ByteArray} (h : w.ownsRow B 9 1 v ss.length (ss.map Value.string)) : ∃ a m c, v = .slice a m c := by
  rcases h.2 with ⟨hv, hn⟩ | ⟨g, cap, cur, hv, _⟩
  · exact ⟨_, _, _, hv⟩
  · exact ⟨_, _, _, hv⟩

/-- Behind the append of one string. -/
theorem Own.push {B : Nat} {w wr w1 : World} {o : Obj} {a : Option Addr} {m c : Nat} {ss : List ByteArray} {s : ByteArray} {v' : Value} (h : Own B wr a m c ss) (hb : Below B w wr) (hB : B ≤ wr.heap.size) (hs : s.size ≤ maxLen)
    (hown : w1.ownsRow B 9 1 v' (ss.length + 1) (ss.map Value.string ++ [.string s])) (hg : (wr.alloc o).grownBy w1 (Value.slice a m c).ownBlock) :
    (∃ a' m' c', v' = .slice a' m' c' ∧ Own B w1 a' m' c' (ss ++ [s])) ∧ Below B w w1 := by
  have hown' : w1.ownsRow B 9 1 v' (ss ++ [s]).length ((ss ++ [s]).map Value.string) := by simpa using hown
  obtain ⟨a', m', c', rfl⟩ := Own.slice hown'
  refine ⟨⟨a', m', c', rfl, hown', ?_, by simp⟩, (hb.alloc (by omega) o).grown hg (by simp; omega) (fun k hk => ((h.1.alloc o).lt k hk).1)⟩
  intro t ht
  rcases List.mem_append.1 ht with ht | ht
  · exact h.2.1 t ht
  · simp at ht; subst ht; exact hs

theorem kept_hit {rs gs : List ByteArray} {k : Nat} {s : ByteArray} (h : gs[k]? = some s) (hk : keepB rs s = true) : keptL rs (gs.take (k + 1)) = keptL rs (gs.take k) ++ [s] := by
  rw [List.take_add_one, h]
  simp [keptL, hk]
theorem kept_miss {rs gs : List ByteArray} {k : Nat} {s : ByteArray} (h : gs[k]? = some s) (hk : keepB rs s = false) : keptL rs (gs.take (k + 1)) = keptL rs (gs.take k) := by
  rw [List.take_add_one, h]
  simp [keptL, hk]
theorem kept_le (rs gs : List ByteArray) (k : Nat) : (keptL rs (gs.take k)).length ≤ k := Nat.le_trans (List.length_filter_le _ _) (List.length_take_le _ _)

/-- What narrow hands back. -/
def Narrowed (w : World) (gs rs : List ByteArray) (e : Ending) (w' : World) : Prop :=
  ∃ a m c, e = .returned (.tuple #[.slice a m c, .bool (okB rs gs)]) ∧ SRow w' a m (outL rs gs) ∧ (outL rs gs = [] → a = none ∧ m = 0 ∧ c = 0) ∧ Below w.heap.size w w'

theorem Narrowed.no {w w' : World} {gs rs : List ByteArray} (h : okB rs gs = false) (hb : Below w.heap.size w w') : Narrowed w gs rs (.returned (.tuple #[.slice none 0 0, .bool false])) w' := by
  have e : outL rs gs = [] := by simp [outL, h]
  refine ⟨none, 0, 0, by rw [h], ?_, fun _ => ⟨rfl, rfl, rfl⟩, hb⟩
  rw [e]
  exact SRow.nil _ _
theorem Narrowed.yes {w w' : World} {gs rs : List ByteArray} {a : Option Addr} {m c : Nat} (h : okB rs gs = true) (ho : Own w.heap.size w' a m c (keptL rs gs)) (hb : Below w.heap.size w w') :
    Narrowed w gs rs (.returned (.tuple #[.slice a m c, .bool true])) w' := by
  have e : outL rs gs = keptL rs gs := by simp [outL, h]
  refine ⟨a, m, c, by rw [h], ?_, ?_, hb⟩
  · rw [e]; exact ho.srow
  · rw [e]; exact ho.2.2

set_option maxHeartbeats 1000000 in
set_option maxRecDepth 100000 in
theorem narrow_any (a0 a1 : Option Addr) (n0 c0 n1 c1 : Nat) (gs rs : List ByteArray) (w : World) (h0 : SRow w a0 n0 gs) (h1 : SRow w a1 n1 rs) (hn0 : n0 ≤ 1048576) (hn1 : n1 ≤ 1048576) :
    Calls Try.prog 14 #[.slice a0 n0 c0, .slice a1 n1 c1] w fun e w' => Narrowed w gs rs e w' := by
  obtain ⟨i0, hi, hz0, hz1, hz2⟩ := info_parts Try.info9
  go_enter Try.func14, Try.ntmps14
  go_wp2
  go_loopw [6, 8, 13] (fun v _ i wr => ∃ (k : Nat) (a : Option Addr) (m c : Nat), k ≤ n0 ∧ i = .int .i64 k ∧ v = .slice a m c ∧ Own w.heap.size wr a m c (keptL rs (gs.take k)) ∧ Below w.heap.size w wr) (fun _ _ i _ => n0 - (intOf i).toNat)
  case atStart => exact ⟨0, none, 0, 0, Nat.zero_le _, rfl, rfl, by simpa [keptL] using Own.nil _ _, Below.refl _ _⟩
  case round =>
    obtain ⟨k, a, m, c, hk, rfl, rfl, hown, hbel⟩ := hrel
    by_cases hlt : k < n0
    · obtain ⟨b, off, rfl, s, hs, hsz, hcell0⟩ := h0.at hlt
      have HS : Hid (gs[k]? = some s) := hs
      have HSZ : Hid (s.size ≤ maxLen) := hsz
      have hcell := cell_later hbel hcell0
      have hle := kept_le rs gs k
      have h1r := h1.below hbel
      clear hs hsz hcell0
      by_cases hr : n1 = 0
      · have hr' : ((n1 : Int) == 0) = true := by simp [hr]
        have hkeep : keepB rs s = true := by
          have := h1.1
          obtain rfl : rs = [] := List.eq_nil_of_length_eq_zero (by omega)
          rfl
        have HK : Hid (keepB rs s = true) := hkeep
        clear hr hkeep
        go_wp2_with (at_builtin; refine wpList_append_own _ rfl _ _ 22 rfl w.heap.size 9 i0 (.string ByteArray.empty) 1 16 Try.underlying22 hi hz0 hz1 hz2 rfl (by decide) _ _ _ rfl (hown.1.alloc _) ⟨wr.heap.size, 0, none⟩ 1 1 [.string s] rfl rfl ?c1 ?c2 ?c3 ?c4 ?c5 ?_)
        case c1 => exact cell_one_new _ _ _
        case c2 => intro u hu; simp at hu; subst hu; rfl
        case c3 => unfold maxLen; omega
        case c4 => omega
        case c5 => have := hbel.size; simp; omega
        intro v' w1 hown' hgrow _
        obtain ⟨⟨a', m', c', rfl, hown2⟩, hbel2⟩ := hown.push hbel hbel.size HSZ.out hown' hgrow
        clear hown' hgrow hown hbel
        go_wp2
        go_roundw
        case rel => exact ⟨k + 1, a', m', c', by omega, by go_num, rfl, by rw [kept_hit HS.out HK.out]; exact hown2, hbel2⟩
        case measure => simp [intOf]; omega
      · have hr' : ((n1 : Int) == 0) = false := by simp [hr]
        have hne : rs.isEmpty = false := by
          have := h1.1
          cases rs with
          | nil => simp at this; omega
          | cons _ _ => rfl
        cases hb : hasB rs s
        · have HK : Hid (keepB rs s = false) := by show keepB rs s = false; simp [keepB, hne, hb]
          clear hr hne
          go_wp2_with (go_at_call 15; refine (contains_any a1 n1 c1 rs s _ h1r hn1).mono ?_; rintro e w' ⟨rfl, rfl⟩)
          go_roundw
          case rel => exact ⟨k + 1, a, m, c, by omega, by go_num, rfl, by rw [kept_miss HS.out HK.out]; exact hown, hbel⟩
          case measure => simp [intOf]; omega
        · have HK : Hid (keepB rs s = true) := by show keepB rs s = true; simp [keepB, hb]
          clear hr hne
          go_wp2_with (first | (go_at_call 15; refine (contains_any a1 n1 c1 rs s _ h1r hn1).mono ?_; rintro e w' ⟨rfl, rfl⟩) | (at_builtin; refine wpList_append_own _ rfl _ _ 22 rfl w.heap.size 9 i0 (.string ByteArray.empty) 1 16 Try.underlying22 hi hz0 hz1 hz2 rfl (by decide) _ _ _ rfl (hown.1.alloc _) ⟨wr.heap.size, 0, none⟩ 1 1 [.string s] rfl rfl ?c1 ?c2 ?c3 ?c4 ?c5 ?_))
          case c1 => exact cell_one_new _ _ _
          case c2 => intro u hu; simp at hu; subst hu; rfl
          case c3 => unfold maxLen; omega
          case c4 => omega
          case c5 => have := hbel.size; simp; omega
          intro v' w1 hown' hgrow _
          obtain ⟨⟨a', m', c', rfl, hown2⟩, hbel2⟩ := hown.push hbel hbel.size HSZ.out hown' hgrow
          clear hown' hgrow hown hbel
          go_wp2
          go_roundw
          case rel => exact ⟨k + 1, a', m', c', by omega, by go_num, rfl, by rw [kept_hit HS.out HK.out]; exact hown2, hbel2⟩
          case measure => simp [intOf]; omega
    · have hall : gs.take k = gs := List.take_of_length_le (by have := h0.1; omega)
      rw [hall] at hown
      clear hall
      have h1r := h1.below hbel
      have hsr := hown.srow
      have hml : m ≤ 1048576 := by have := hown.len; have := kept_le rs gs n0; rw [List.take_of_length_le (by have := h0.1; omega)] at this; omega
      go_wp2
      go_loop [10, 32] (fun _ i => ∃ k : Nat, k ≤ n1 ∧ i = .int .i64 k ∧ ∀ j s, j < k → rs[j]? = some s → hasB (keptL rs gs) s = true) (fun _ i => n1 - (intOf i).toNat)
      case atStart => exact ⟨0, Nat.zero_le _, rfl, fun j _ hj => absurd hj (Nat.not_lt_zero _)⟩
      case round =>
        obtain ⟨j, hj, rfl, hne⟩ := hrel
        have HN : Hid (∀ j' s, j' < j → rs[j']? = some s → hasB (keptL rs gs) s = true) := hne
        clear hne
        by_cases hlt2 : j < n1
        · obtain ⟨b, off, rfl, s, hs, hsz, hcell⟩ := h1r.at hlt2
          have HS : Hid (rs[j]? = some s) := hs
          clear hs hsz
          cases hb : hasB (keptL rs gs) s
          · go_wp2_with (go_at_call 15; refine (contains_any a m c _ s _ hsr hml).mono ?_; rintro e w' ⟨rfl, rfl⟩)
            go_ret2
            exact Narrowed.no (subB_miss HS.out hb) hbel
          · go_wp2_with (go_at_call 15; refine (contains_any a m c _ s _ hsr hml).mono ?_; rintro e w' ⟨rfl, rfl⟩)
            go_round
            case rel =>
              refine ⟨j + 1, by omega, by go_num, fun i t hi ht => ?_⟩
              by_cases e : i = j
              · subst e
                have e2 := HS.out.symm.trans ht
                cases e2
                exact hb
              · exact HN.out i t (by omega) ht
            case measure => simp [intOf]; omega
        · go_wp2
          go_ret2
          exact Narrowed.yes (subB_all h1.1 (fun i s hi => HN.out i s (by omega))) hown hbel

set_option maxHeartbeats 400000 in
theorem ZZnarrow_any (a0 a1 : Option Addr) (n0 c0 n1 c1 : Nat) (gs rs : List ByteArray) (w : World) (h0 : SRow w a0 n0 gs) (h1 : SRow w a1 n1 rs) (hn0 : n0 ≤ 1048576) (hn1 : n1 ≤ 1048576) :
    Calls Try.prog 8 #[.slice a0 n0 c0, .slice a1 n1 c1] w fun e w' => Narrowed w gs rs e w' := by
  go_enter Try.func8, Try.ntmps8
  go_wp2_with (go_at_call 14; refine (narrow_any a0 a1 n0 c0 n1 c1 gs rs _ h0 h1 hn0 hn1).mono ?_; rintro e w' ⟨a, m, c, rfl, hr⟩)
  go_ret2
  exact ⟨a, m, c, rfl, hr⟩
end Go.Proofs.Qxb6617098a
