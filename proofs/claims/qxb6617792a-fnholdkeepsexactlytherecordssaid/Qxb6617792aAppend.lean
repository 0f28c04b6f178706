import Derived.Test.Qxb6617792aBytes
namespace Go.Proofs.Qxb6617792a
open Go.RowKit

set_option maxHeartbeats 400000 in
theorem bytesEq_yes (a0 a1 : Option Addr) (n c0 c1 : Nat) (zs : List Int) (w : World) (h0 : BRow w a0 n zs) (h1 : BRow w a1 n zs) (hn : n ≤ 4194304) :
    Calls Try.prog 12 #[.slice a0 n c0, .slice a1 n c1] w fun e w' => e = .returned (.bool true) ∧ ∃ m, w' = w.drewN m := by
  go_enter Try.func12, Try.ntmps12
  go_wp2
  go_loopw [5] (fun i wr => ∃ k : Nat, k ≤ n ∧ i = .int .i64 k ∧ ∃ m, wr = w.drewN m) (fun i _ => n - (intOf i).toNat)
  case atStart => exact ⟨0, Nat.zero_le _, rfl, 0, rfl⟩
  case round =>
    obtain ⟨k, hk, rfl, q, rfl⟩ := hrel
    by_cases hlt : k < n
    · obtain ⟨b, off, rfl, z, hz, _, _, hcell⟩ := h0.at hlt
      obtain ⟨b', off', rfl, z', hz', _, _, hcell'⟩ := h1.at hlt
      obtain rfl : z = z' := by rw [hz] at hz'; exact Option.some.inj hz'
      clear hz hz'
      have hne : (z != z) = false := by simp
      go_wp2
      go_quiet (fail)
      go_wp2
      go_roundw
      case rel => exact ⟨k + 1, by omega, by go_num, q + nq, by simp⟩
      case measure => simp [intOf]; omega
    · go_wp2
      go_ret
      exact ⟨rfl, q, rfl⟩

/-- A row of memory whose first n cells are these bytes, with room for c. -/
def OwnB (w : World) (g n c : Nat) (zs : List Int) : Prop :=
  w.ownsRow 0 5 1 (.slice (some ⟨g, 0, none⟩) n c) n (bytesV zs) ∧ (∀ z ∈ zs, 0 ≤ z ∧ z < 256) ∧ zs.length = n

theorem bytesV_get {zs : List Int} {j : Nat} (h : j < zs.length) : (bytesV zs)[j]? = some (.int .u8 (zs.getD j 0)) := by
  simp [bytesV, h]
theorem bytesV_one (zs : List Int) : ∀ u ∈ bytesV zs, u.oneCell' = true := ints_oneCell .u8 zs
theorem bytesV_len (zs : List Int) : (bytesV zs).length = zs.length := by simp [bytesV]

theorem OwnB.brow {w : World} {g n c : Nat} {zs : List Int} (h : OwnB w g n c zs) : BRow w (some ⟨g, 0, none⟩) n zs := by
  refine ⟨h.2.2, h.2.1, fun _ => ⟨g, 0, rfl, fun j hj => ?_⟩⟩
  rw [Nat.zero_add, h.1.cellAt j (by omega), bytesV_get (by have := h.2.2; omega)]

theorem Fresh.own {B : Nat} {w : World} {g n : Nat} {zs : List Int} (h : Fresh B w g n zs) (hn : n ≤ maxLen) : OwnB w g n n zs := by
  obtain ⟨cur, hb, hsz, hc⟩ := h.row
  refine ⟨⟨by rw [bytesV_len, h.len, Nat.mul_one], .inr ⟨g, n, cur, rfl, Nat.zero_le _, hb, Nat.le_refl _, hn, by omega, ?_⟩⟩, h.bd, h.len⟩
  apply List.ext_getElem?
  intro j
  rw [List.getElem?_take]
  split
  · rename_i hj
    have hj' : j < n := by omega
    rw [bytesV_get (by have := h.len; omega)]
    have := hc j hj'
    simpa [bv] using this
  · rename_i hj
    rw [List.getElem?_eq_none (by rw [bytesV_len, h.len]; omega)]

theorem OwnB.grown {w w' : World} {g n c : Nat} {zs : List Int} {row : Option Nat} (h : OwnB w g n c zs) (hg : w.grownBy w' row) (hne : row ≠ some g) : OwnB w' g n c zs :=
  ⟨h.1.kept hg (.inr (by simpa [Value.ownBlock] using fun e => hne e.symm)), h.2⟩

theorem OwnB.lt {w : World} {g n c : Nat} {zs : List Int} (h : OwnB w g n c zs) : g < w.heap.size := (h.1.lt g rfl).2

/-- 'append(buf, b...)' where there is room. -/
theorem append_room {w : World} {g n c : Nat} {xs ys : List Int} {a : Option Addr} {m c2 : Nat} (h : OwnB w g n c xs) (hb : BRow w a m ys) (hnil : a = none → m = 0 ∧ c2 = 0) (hroom : n + m ≤ c) :
    ∃ w', (Builtin.append_ #[22, 22] 22 #[.slice (some ⟨g, 0, none⟩) n c, .slice a m c2]).run Try.prog w = .ok (.slice (some ⟨g, 0, none⟩) (n + m) c) w' ∧ OwnB w' g (n + m) c (xs ++ ys) ∧ BRow w' (some ⟨g, 0, none⟩) n xs ∧ w.grownBy w' (some g) := by
  obtain ⟨i0, hi, hz0, hz1, hz2⟩ := info_parts Try.info5
  have bd : ∀ z ∈ xs ++ ys, 0 ≤ z ∧ z < 256 := by
    intro z hz
    rcases List.mem_append.1 hz with hz | hz
    · exact h.2.1 z hz
    · exact hb.2.1 z hz
  have hlen : (xs ++ ys).length = n + m := by rw [List.length_append, h.2.2, hb.1]
  have hbv : bytesV (xs ++ ys) = bytesV xs ++ bytesV ys := by simp [bytesV]
  have key : ∀ w', w'.ownsRow 0 5 1 (.slice (some ⟨g, 0, none⟩) (n + m) c) (n + m) (bytesV xs ++ bytesV ys) → OwnB w' g (n + m) c (xs ++ ys) ∧ BRow w' (some ⟨g, 0, none⟩) n xs := by
    intro w' hw
    have ho : OwnB w' g (n + m) c (xs ++ ys) := ⟨by rw [hbv]; exact hw, bd, hlen⟩
    refine ⟨ho, h.2.2, h.2.1, fun _ => ⟨g, 0, rfl, fun j hj => ?_⟩⟩
    have hx := h.2.2
    rw [Nat.zero_add, ho.1.cellAt j (by omega), bytesV_get (by omega), getD_left (by omega)]
  cases a with
  | none =>
    obtain ⟨rfl, rfl⟩ := hnil rfl
    obtain rfl : ys = [] := List.eq_nil_of_length_eq_zero hb.1
    have hr := run_append_owned_none (P := Try.prog) w 0 22 22 5 i0 1 Try.underlying22 hi _ n _ h.1
    obtain ⟨k1, k2⟩ := key w (by simpa [bytesV] using h.1)
    exact ⟨w, by simpa using hr, k1, k2, ⟨rfl, rfl, rfl, Nat.le_refl _, fun _ _ _ => rfl⟩⟩
  | some ad =>
    by_cases hm : m = 0
    · subst hm
      obtain rfl : ys = [] := List.eq_nil_of_length_eq_zero hb.1
      obtain ⟨w', hr, ho, hg⟩ := run_append_fits (P := Try.prog) w 0 22 22 5 i0 1 Try.underlying22 hi hz1 g n c _ h.1 ad 0 c2 [] (by simp) (by simp) (by simp) hroom
      obtain ⟨k1, k2⟩ := key w' (by simpa [bytesV] using ho)
      exact ⟨w', hr, k1, k2, hg⟩
    · obtain ⟨b, off, hab, hc⟩ := hb.2.2 (by omega)
      obtain rfl := Option.some.inj hab
      obtain ⟨w', hr, ho, hg⟩ := run_append_fits (P := Try.prog) w 0 22 22 5 i0 1 Try.underlying22 hi hz1 g n c _ h.1 ⟨b, off, none⟩ m c2 (bytesV ys) (by rw [bytesV_len, hb.1, Nat.mul_one])
        (by
          intro j u hu
          have hj : j < m := by have := (List.getElem?_eq_some_iff.1 hu).1; rw [bytesV_len, hb.1] at this; exact this
          rw [bytesV_get (by have := hb.1; omega)] at hu
          rw [Addr.add_lit, hc j hj, hu])
        (bytesV_one ys) hroom
      obtain ⟨k1, k2⟩ := key w' ho
      exact ⟨w', hr, k1, k2, hg⟩

/-- 'grown := make([]byte, n, C); copy(grown, buf)'. -/
theorem make_grown {w : World} {g n : Nat} (c C : Nat) {xs : List Int} (h : BRow w (some ⟨g, 0, none⟩) n xs) (hn : n ≤ C) (hC : C ≤ 8388608) :
    ∃ w1 w2, (Instr.makeSlice 22 (.int .i64 (n : Int)) (.int .i64 (C : Int))).run Try.prog w = .ok (.slice (some ⟨w.heap.size, 0, none⟩) n C) w1 ∧
      (Builtin.copy_ #[22, 22] 3 #[.slice (some ⟨w.heap.size, 0, none⟩) n C, .slice (some ⟨g, 0, none⟩) n c]).run Try.prog w1 = .ok (.int .i64 n) w2 ∧
      OwnB w2 w.heap.size n C xs ∧ Below w.heap.size w w2 := by
  obtain ⟨i0, hi, hz0, hz1, hz2⟩ := info_parts Try.info5
  have hmk := run_make (P := Try.prog) w 22 5 i0 (.int .u8 0) Try.underlying22 hi hz0 .i64 .i64 n C (by omega) (by omega) (by rw [hz2]; omega) (by omega)
  simp only [Int.toNat_natCast, hz1, Nat.mul_one] at hmk
  have hbel1 : Below w.heap.size w (w.alloc (.cells (madeCells (Value.int .u8 0).cells C) 5)) := (Below.refl _ _).alloc (Nat.le_refl _) _
  have hcur : (w.alloc (.cells (madeCells (Value.int .u8 0).cells C) 5)).heap[w.heap.size]? = some (.cells (madeCells (Value.int .u8 0).cells C) 5 (0, 0)) := heap_alloc_new w _
  generalize w.alloc (.cells (madeCells (Value.int .u8 0).cells C) 5) = w1 at hmk hbel1 hcur
  have hsz : (madeCells (Value.int .u8 0).cells C).size = C := size_madeCells _ _
  generalize madeCells (Value.int .u8 0).cells C = cur at hcur hsz
  have h' := h.below hbel1
  by_cases h0 : n = 0
  · subst h0
    obtain rfl : xs = [] := List.eq_nil_of_length_eq_zero h.1
    have hcp := run_copy_none (P := Try.prog) w1 22 22 3 5 (some ⟨w.heap.size, 0, none⟩) (some ⟨g, 0, none⟩) 0 C 0 c Try.underlying22 Try.size5 (by simp)
    refine ⟨w1, w1, hmk, hcp, ⟨⟨by simp [bytesV], .inr ⟨w.heap.size, C, cur, rfl, Nat.zero_le _, hcur, hn, by unfold maxLen; omega, by omega, by simp [bytesV]⟩⟩, by simp, rfl⟩, hbel1⟩
  · obtain ⟨b, off, hab, hc⟩ := h'.2.2 (by omega)
    simp at hab
    obtain ⟨rfl, rfl⟩ := hab
    have hcp := run_copy_row (P := Try.prog) w1 22 22 3 5 w.heap.size 0 n C ⟨g, 0, none⟩ n c cur 5 (bytesV xs) Try.underlying22 Try.size5 hcur (by rw [bytesV_len, h.1]; simp)
      (by
        intro j v hj
        have hj' : j < n := by have := (List.getElem?_eq_some_iff.1 hj).1; rw [bytesV_len, h.1] at this; exact this
        rw [bytesV_get (by have := h.1; omega)] at hj
        rw [Addr.add_lit, hc j hj', hj])
      (by rw [bytesV_len, h.1]; omega) (bytesV_one xs)
    refine ⟨w1, _, hmk, hcp.trans (congrArg (fun k : Nat => Result.ok (goInt k) _) ((bytesV_len xs).trans h.1)), ⟨⟨by rw [bytesV_len, h.1, Nat.mul_one], .inr ⟨w.heap.size, C, _, rfl, Nat.zero_le _, setRow_heap w1 w.heap.size _ _ 5 _ hcur, hn, by unfold maxLen; omega, ?_, ?_⟩⟩, h.2.1, h.1⟩, below_setRow hbel1 (Nat.le_refl _) _⟩
    · simp only [List.size_toArray, List.length_append, List.length_take, List.length_drop, Array.length_toList, bytesV_len, h.1]
      omega
    · simp only [List.take_zero, List.nil_append, Nat.mul_one]
      rw [List.take_append_of_le_length (by rw [bytesV_len, h.1]; exact Nat.le_refl _), List.take_of_length_le (by rw [bytesV_len, h.1]; exact Nat.le_refl _)]

/-- An append whose run is known: a law for the walk. -/
theorem wpList_append_run {P : Program} {w : World} {ops : Array Oper} {rest : List Oper} {o : Oper} {a : Act} {Q : Exit → Act → World → Prop} (hg : o.guard = none) (s x : Operand) (t : TypeId)
    (hop : o.op = Op.call { callee := Callee.builtin Builtin.append, args := #[s, x], argTypes := #[t, t] }) {v1 v2 v : Value} {w' : World} (hs : a.eval s = v1) (hx : a.eval x = v2)
    (hrun : (Builtin.append_ #[t, t] o.type #[v1, v2]).run P w = .ok v w') (h : wpList P ops Q rest (a.put o.dst v) w') : wpList P ops Q (o :: rest) a w := by
  refine wpList_plain hg fun K hK => ?_
  unfold Oper.wp
  simp [execOp, hop, resolve, invoke, builtin, hs, hx, hrun, Result.andThen]
  exact hK _ _ h

/-- What appendStream hands back: a row with b's bytes behind buf's; buf's own bytes as they were; nothing else written that was there. -/
def Appended (w : World) (g n m : Nat) (xs ys : List Int) (e : Ending) (w' : World) : Prop :=
  ∃ g' c', e = .returned (.slice (some ⟨g', 0, none⟩) (n + m) c') ∧ OwnB w' g' (n + m) c' (xs ++ ys) ∧ BRow w' (some ⟨g, 0, none⟩) n xs ∧ w.grownBy w' (some g) ∧ (g' = g ∨ w.heap.size ≤ g')

set_option maxHeartbeats 400000 in
theorem appendStream_any (g n c : Nat) (a : Option Addr) (m c2 : Nat) (xs ys : List Int) (w : World) (h : OwnB w g n c xs) (hb : BRow w a m ys) (hnil : a = none → m = 0 ∧ c2 = 0) (hn : n ≤ 2097152) (hm : m ≤ 1048576) :
    Calls Try.prog 27 #[.slice (some ⟨g, 0, none⟩) n c, .slice a m c2] w fun e w' => Appended w g n m xs ys e w' := by
  by_cases hroom : n + m ≤ c
  · obtain ⟨w', hap, k1, k2, k3⟩ := append_room h hb hnil hroom
    clear hnil
    have HAP := (show Hid _ from hap)
    clear hap
    go_enter Try.func27, Try.ntmps27
    go_wp2_with (at_builtin; refine wpList_append_run rfl (.tmp 25) (.tmp 26) 22 rfl rfl rfl HAP.out ?_)
    go_ret
    exact ⟨g, c, rfl, k1, k2, k3, .inl rfl⟩
  · obtain ⟨w1, w2, hmk, hcp, ho, hb2⟩ := make_grown c (2 * (n + m)) h.brow (by omega) (by omega)
    obtain ⟨w', hap, k1, k2, k3⟩ := append_room ho (hb.below hb2) hnil (show n + m ≤ 2 * (n + m) by omega)
    have hlt := h.lt
    have hne : w2.grownBy w' (some w.heap.size) := k3
    have hb3 : Below w.heap.size w w' := hb2.grown k3 hb2.size (by intro k hk; simp at hk; omega)
    have k2' := h.brow.below hb3
    have k4 : w.grownBy w' (some g) := ⟨hb3.os, hb3.tape, hb3.output, hb3.size, fun k hk _ => hb3.block k hk⟩
    rw [show ((2 * (n + m) : Nat) : Int) = 2 * ((n : Int) + m) by omega] at hmk
    clear hnil k2 k3 hne hb2 hb3 ho hb h
    have HAP := (show Hid _ from hap)
    clear hap
    go_enter Try.func27, Try.ntmps27
    go_wp2_with (at_builtin; refine wpList_append_run rfl (.tmp 25) (.tmp 26) 22 rfl rfl rfl HAP.out ?_)
    go_ret
    exact ⟨w.heap.size, _, rfl, k1, k2', k4, .inr (Nat.le_refl _)⟩

set_option maxHeartbeats 400000 in
theorem ZZAppendStream_any (g n c : Nat) (a : Option Addr) (m c2 : Nat) (xs ys : List Int) (w : World) (h : OwnB w g n c xs) (hb : BRow w a m ys) (hnil : a = none → m = 0 ∧ c2 = 0) (hn : n ≤ 2097152) (hm : m ≤ 1048576) :
    Calls Try.prog 11 #[.slice (some ⟨g, 0, none⟩) n c, .slice a m c2] w fun e w' => Appended w g n m xs ys e w' := by
  go_enter Try.func11, Try.ntmps11
  go_wp2_with fail
  refine (appendStream_any g n c a m c2 xs ys _ h hb hnil hn hm).mono ?_
  rintro e w1 ⟨g', c', rfl, k⟩
  go_wp2_with fail
  go_ret
  exact ⟨g', c', rfl, k⟩

set_option maxHeartbeats 400000 in
theorem bytes8_any (a0 a1 : Option Addr) (n0 c0 n1 c1 : Nat) (k : Int) (w : World) (hm0 : n0 ≤ maxLen) (hm1 : n1 ≤ maxLen) :
    Calls Try.prog 8 #[.slice a0 n0 c0, .slice a1 n1 c1, .int .i64 k] w fun e w' => w = w' ∧ AnyBool (n0 ≤ 1048576 ∧ n1 ≤ 1048576) e := by
  unfold maxLen at hm0 hm1
  by_cases hl0 : 1048576 < n0
  · go_enter Try.func8, Try.ntmps8
    go_wp2
    go_ret
    exact ⟨rfl, AnyBool.no _⟩
  · by_cases hl1 : 1048576 < n1
    · go_enter Try.func8, Try.ntmps8
      go_wp2
      go_ret
      exact ⟨rfl, AnyBool.no _⟩
    · go_enter Try.func8, Try.ntmps8
      go_wp2
      · go_ret
        exact ⟨rfl, AnyBool.no _⟩
      · go_ret
        exact ⟨rfl, AnyBool.yes (by omega)⟩
end Go.Proofs.Qxb6617792a
