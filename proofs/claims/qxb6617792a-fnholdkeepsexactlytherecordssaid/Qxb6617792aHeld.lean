import Derived.Test.Qxb6617792aClone
import Derived.Deep.RegionHeld3
namespace Go.Proofs.Qxb6617792a
open Go.RowKit

/-- A segment as its three cells hold it: its number, its payload's slice, its FIN. -/
structure Seg where
  seq : Int
  a : Option Addr
  n : Nat
  c : Nat
  fin : Bool

def Seg.sv (s : Seg) : Value := .int .u32 s.seq
def Seg.pv (s : Seg) : Value := .slice s.a s.n s.c
def Seg.fv (s : Seg) : Value := .bool s.fin

/-- A segment as data. -/
structure DSeg where
  seq : Int
  pay : List Int
  fin : Bool

/-- The cells 's' stand for the data 'd' in the world w. -/
def Rep (w : World) (s : Seg) (d : DSeg) : Prop :=
  s.seq = d.seq ∧ s.fin = d.fin ∧ BRow w s.a s.n d.pay ∧ s.n ≤ maxLen ∧ (s.a = none → s.n = 0 ∧ s.c = 0) ∧ 0 ≤ s.seq ∧ s.seq < 4294967296

def Reps (w : World) (ss : List Seg) (ds : List DSeg) : Prop :=
  ss.length = ds.length ∧ ∀ (j : Nat) (s : Seg) (d : DSeg), ss[j]? = some s → ds[j]? = some d → Rep w s d

theorem Rep.below {w w' : World} {s : Seg} {d : DSeg} (h : Rep w s d) (hb : Below w.heap.size w w') : Rep w' s d :=
  ⟨h.1, h.2.1, h.2.2.1.below hb, h.2.2.2⟩
theorem Reps.below {w w' : World} {ss : List Seg} {ds : List DSeg} (h : Reps w ss ds) (hb : Below w.heap.size w w') : Reps w' ss ds :=
  ⟨h.1, fun j s d hs hd => (h.2 j s d hs hd).below hb⟩

/-- A slice of segments (three cells each). -/
def HRow (w : World) (a : Option Addr) (n : Nat) (ss : List Seg) : Prop :=
  ss.length = n ∧ (0 < n → ∃ b off, a = some ⟨b, off, none⟩ ∧ ∀ (j : Nat) (s : Seg), ss[j]? = some s →
    w.cell? ⟨b, off + j * 3, none⟩ = some s.sv ∧ w.cell? ⟨b, off + j * 3 + 1, none⟩ = some s.pv ∧ w.cell? ⟨b, off + j * 3 + 2, none⟩ = some s.fv)

theorem HRow.below {w w' : World} {a : Option Addr} {n : Nat} {ss : List Seg} (h : HRow w a n ss) (hb : Below w.heap.size w w') : HRow w' a n ss := by
  refine ⟨h.1, fun hn => ?_⟩
  obtain ⟨b, off, rfl, hc⟩ := h.2 hn
  refine ⟨b, off, rfl, fun j s hs => ?_⟩
  obtain ⟨h1, h2, h3⟩ := hc j s hs
  exact ⟨cell_later hb h1, cell_later hb h2, cell_later hb h3⟩

theorem HRow.nil (w : World) (a : Option Addr) : HRow w a 0 [] := ⟨rfl, fun h => absurd h (Nat.lt_irrefl _)⟩

theorem HRow.at {w : World} {a : Option Addr} {n : Nat} {ss : List Seg} (h : HRow w a n ss) {k : Nat} (hk : k < n) :
    ∃ b off, a = some ⟨b, off, none⟩ ∧ ∃ q pa pn pc pf, ss[k]? = some ⟨q, pa, pn, pc, pf⟩ ∧ w.cell? ⟨b, off + k * 3, none⟩ = some (.int .u32 q) ∧
      w.cell? ⟨b, off + k * 3 + 1, none⟩ = some (.slice pa pn pc) ∧ w.cell? ⟨b, off + k * 3 + 2, none⟩ = some (.bool pf) := by
  obtain ⟨b, off, ha, hc⟩ := h.2 (by omega)
  have hk' : k < ss.length := by have := h.1; omega
  have hs : ss[k]? = some ss[k] := by simp [hk']
  obtain ⟨h1, h2, h3⟩ := hc k _ hs
  exact ⟨b, off, ha, _, _, _, _, _, hs, h1, h2, h3⟩

theorem Reps.len {w : World} {ss : List Seg} {ds : List DSeg} (h : Reps w ss ds) {k : Nat} {q : Int} {pa : Option Addr} {pn pc : Nat} {pf : Bool} (hs : ss[k]? = some ⟨q, pa, pn, pc, pf⟩) :
    ∃ d, ds[k]? = some d ∧ Rep w ⟨q, pa, pn, pc, pf⟩ d := by
  have hk : k < ds.length := by have := (List.getElem?_eq_some_iff.1 hs).1; have := h.1; omega
  exact ⟨ds[k], by simp [hk], h.2 k _ _ hs (by simp [hk])⟩

/-- Some number; where it is at most 2^20, all payloads are. -/
def SumOk (ss : List Seg) (e : Ending) : Prop := ∃ r : Int, e = .returned (.int .i64 r) ∧ 0 ≤ r ∧ (r ≤ 1048576 → ∀ s ∈ ss, s.n ≤ 1048576)

set_option maxHeartbeats 400000 in
theorem addHeld_any (sum : Int) (a : Option Addr) (n c : Nat) (ss : List Seg) (ds : List DSeg) (w : World) (h : HRow w a n ss) (hd : Reps w ss ds) (hn : n ≤ 1048576) (hs0 : 0 ≤ sum) (hs : sum ≤ 1048576) :
    Calls Try.prog 18 #[.int .i64 sum, .slice a n c] w fun e w' => w = w' ∧ SumOk ss e := by
  go_enter Try.func18, Try.ntmps18
  go_wp2
  go_loop [0, 5] (fun m i => ∃ (k : Nat) (r : Int), k ≤ n ∧ i = .int .i64 k ∧ m = .int .i64 r ∧ 0 ≤ r ∧ r ≤ 1048576 ∧ ∀ (j : Nat) (s : Seg), j < k → ss[j]? = some s → s.n ≤ 1048576) (fun _ i => n - (intOf i).toNat)
  case atStart => exact ⟨0, sum, Nat.zero_le _, rfl, rfl, by omega, by omega, fun j s hj => absurd hj (Nat.not_lt_zero _)⟩
  case round =>
    obtain ⟨k, r, hk, rfl, rfl, hr1, hr2, hall⟩ := hrel
    have HA : Hid (∀ (j : Nat) (s : Seg), j < k → ss[j]? = some s → s.n ≤ 1048576) := hall
    clear hall
    by_cases hlt : k < n
    · obtain ⟨b, off, rfl, q, pa, pn, pc, pf, hs', hc1, hc2, hc3⟩ := h.at hlt
      obtain ⟨d, hd1, hrep⟩ := hd.len hs'
      have hpn : pn ≤ maxLen := hrep.2.2.2.1
      unfold maxLen at hpn
      have HS : Hid (ss[k]? = some ⟨q, pa, pn, pc, pf⟩) := hs'
      clear hs' hd1 hrep
      by_cases hbig : 1048576 < pn
      · go_wp2
        go_ret
        exact ⟨rfl, _, rfl, by omega, by omega⟩
      · by_cases hsum : 1048576 < r + (32 + pn)
        · go_wp2
          go_ret
          exact ⟨rfl, _, rfl, by omega, by omega⟩
        · go_wp2
          go_round
          case rel =>
            refine ⟨k + 1, _, by omega, by go_num, rfl, by omega, by omega, fun j t hj ht => ?_⟩
            by_cases e : j = k
            · subst e
              have e2 := HS.out.symm.trans ht
              cases e2
              exact Nat.not_lt.1 hbig
            · exact HA.out j t (by omega) ht
          case measure => simp [intOf]; omega
    · go_wp2
      go_ret
      refine ⟨rfl, _, rfl, by omega, fun _ s hs => ?_⟩
      obtain ⟨j, hj⟩ := List.getElem?_of_mem hs
      have := (List.getElem?_eq_some_iff.1 hj).1
      exact HA.out j s (by have := h.1; omega) hj

/-- Block g is a row of room for n segments; the first ones are 'ss'. -/
def HOwn (t : TypeId) (w : World) (g n : Nat) (ss : List Seg) : Prop :=
  ∃ cur : Array Value, w.heap[g]? = some (.cells cur t (0, 0)) ∧ cur.size = n * 3 ∧ ∀ (j : Nat) (s : Seg), ss[j]? = some s → cur[j * 3]? = some s.sv ∧ cur[j * 3 + 1]? = some s.pv ∧ cur[j * 3 + 2]? = some s.fv

theorem HOwn.there {t : TypeId} {w : World} {g n : Nat} {ss : List Seg} (h : HOwn t w g n ss) {i : Nat} (hi : i < n * 3) : (∃ v, w.cell? ⟨g, i, none⟩ = some v) ∧ w.frozen? ⟨g, i, none⟩ = false := by
  obtain ⟨cur, hg, hs, _⟩ := h
  refine ⟨⟨cur[i]'(by omega), ?_⟩, frozen_of_row w g i cur t hg⟩
  rw [cell_of_row w g i cur t (0, 0) hg]
  simp [show i < cur.size by omega]

theorem HOwn.keep {t : TypeId} {w w' : World} {g n : Nat} {ss : List Seg} (h : HOwn t w g n ss) (hb : w'.heap[g]? = w.heap[g]?) : HOwn t w' g n ss := by
  obtain ⟨cur, hg, r⟩ := h
  exact ⟨cur, hb.trans hg, r⟩

theorem HOwn.lt {t : TypeId} {w : World} {g n : Nat} {ss : List Seg} (h : HOwn t w g n ss) : g < w.heap.size := by
  obtain ⟨cur, hg, _⟩ := h
  exact (Array.getElem?_eq_some_iff.1 hg).1

theorem HOwn.push {t : TypeId} {w : World} {g n k : Nat} {ss : List Seg} (h : HOwn t w g n ss) (hl : ss.length = k) (hk : k < n) (s : Seg) :
    HOwn t (((w.setCell ⟨g, k * 3, none⟩ s.sv).setCell ⟨g, k * 3 + 1, none⟩ s.pv).setCell ⟨g, k * 3 + 2, none⟩ s.fv) g n (ss ++ [s]) := by
  obtain ⟨cur, hg, hs, hc⟩ := h
  have h1 := heap_setCell_same w g (k * 3) cur t s.sv hg
  have h2 := heap_setCell_same _ g (k * 3 + 1) _ t s.pv h1
  have h3 := heap_setCell_same _ g (k * 3 + 2) _ t s.fv h2
  refine ⟨_, h3, by simp [hs], fun j u hu => ?_⟩
  by_cases hj : j < k
  · rw [List.getElem?_append_left (by omega)] at hu
    obtain ⟨c1, c2, c3⟩ := hc j u hu
    simp only [Array.getElem?_setIfInBounds]
    refine ⟨?_, ?_, ?_⟩
    · rw [if_neg (by omega), if_neg (by omega), if_neg (by omega)]; exact c1
    · rw [if_neg (by omega), if_neg (by omega), if_neg (by omega)]; exact c2
    · rw [if_neg (by omega), if_neg (by omega), if_neg (by omega)]; exact c3
  · have hj' : j = k := by
      have := (List.getElem?_eq_some_iff.1 hu).1
      simp at this
      omega
    subst hj'
    rw [← hl] at hu
    simp at hu
    subst hu
    simp only [Array.getElem?_setIfInBounds, Array.size_setIfInBounds]
    refine ⟨?_, ?_, ?_⟩
    · rw [if_neg (by omega), if_neg (by omega), if_pos trivial, if_pos (by omega)]
    · rw [if_neg (by omega), if_pos trivial, if_pos (by omega)]
    · rw [if_pos trivial, if_pos (by omega)]

theorem HOwn.hrow {t : TypeId} {w : World} {g n : Nat} {ss : List Seg} (h : HOwn t w g n ss) : HRow w (some ⟨g, 0, none⟩) ss.length ss := by
  obtain ⟨cur, hg, hs, hc⟩ := h
  refine ⟨rfl, fun _ => ⟨g, 0, rfl, fun j s hj => ?_⟩⟩
  obtain ⟨c1, c2, c3⟩ := hc j s hj
  simp only [Nat.zero_add]
  rw [cell_of_row w g _ cur t (0, 0) hg, cell_of_row w g _ cur t (0, 0) hg, cell_of_row w g _ cur t (0, 0) hg]
  exact ⟨c1, c2, c3⟩

theorem Reps.nil (w : World) : Reps w [] [] := ⟨rfl, by simp⟩
theorem Reps.push {w : World} {ss : List Seg} {ds : List DSeg} {s : Seg} {d : DSeg} (h : Reps w ss ds) (hr : Rep w s d) : Reps w (ss ++ [s]) (ds ++ [d]) := by
  refine ⟨by simp [h.1], fun j u e hu he => ?_⟩
  by_cases hj : j < ss.length
  · rw [List.getElem?_append_left hj] at hu
    rw [List.getElem?_append_left (by have := h.1; omega)] at he
    exact h.2 j u e hu he
  · have hj' : j = ss.length := by
      have := (List.getElem?_eq_some_iff.1 hu).1
      simp at this
      omega
    subst hj'
    rw [show ss.length = ds.length from h.1] at he
    simp at hu he
    subst hu
    subst he
    exact hr

theorem BRow.keep {w w' : World} {a : Option Addr} {n : Nat} {zs : List Int} (h : BRow w a n zs) (hb : ∀ b off, a = some ⟨b, off, none⟩ → w'.heap[b]? = w.heap[b]?) : BRow w' a n zs := by
  refine ⟨h.1, h.2.1, fun hn => ?_⟩
  obtain ⟨b, off, rfl, hc⟩ := h.2.2 hn
  exact ⟨b, off, rfl, fun j hj => (World.cell?_of_block (w := w) (hb b off rfl)).trans (hc j hj)⟩

/-- No payload lies in block g. -/
def Far (g : Nat) (ss : List Seg) : Prop := ∀ s ∈ ss, ∀ b off, s.a = some ⟨b, off, none⟩ → b ≠ g

theorem Reps.keep {w w' : World} {g : Nat} {ss : List Seg} {ds : List DSeg} (h : Reps w ss ds) (hf : Far g ss) (hb : ∀ b, b ≠ g → w'.heap[b]? = w.heap[b]?) : Reps w' ss ds := by
  refine ⟨h.1, fun j s d hs hd => ?_⟩
  have hr := h.2 j s d hs hd
  exact ⟨hr.1, hr.2.1, hr.2.2.1.keep (fun b off e => hb b (hf s (List.mem_of_getElem? hs) b off e)), hr.2.2.2⟩

theorem Far.push {g : Nat} {ss : List Seg} {s : Seg} (h : Far g ss) (hs : ∀ b off, s.a = some ⟨b, off, none⟩ → b ≠ g) : Far g (ss ++ [s]) := by
  intro t ht
  rcases List.mem_append.1 ht with ht | ht
  · exact h t ht
  · simp at ht; subst ht; exact hs

theorem block_set3 {w : World} {g i j l : Nat} {x y z : Value} (b : Nat) (h : b ≠ g) : (((w.setCell ⟨g, i, none⟩ x).setCell ⟨g, j, none⟩ y).setCell ⟨g, l, none⟩ z).heap[b]? = w.heap[b]? := by
  rw [heap_setCell_other _ _ b _ h, heap_setCell_other _ _ b _ h, heap_setCell_other _ _ b _ h]

/-- What copyHeld hands back: fresh cells for the same data. -/
def Copied (n : Nat) (ds : List DSeg) (e : Ending) (w' : World) : Prop :=
  ∃ a c ss, e = .returned (.slice a n c) ∧ HRow w' a n ss ∧ Reps w' ss ds ∧ (a = none → n = 0 ∧ c = 0)

theorem Try.info42 : (Try.prog.info? 42).map (fun i => (i.zero, i.size, i.bytes)) = some (some (.agg #[.int .u32 0, .slice none 0 0, .bool false]), 3, 40) := by kernel_rfl

theorem make_held (n : Nat) (hn : n ≤ 1048576) (w : World) : ∃ w1, (Instr.makeSlice 31 (.int .i64 (n : Int)) (.int .i64 (n : Int))).run Try.prog w = .ok (.slice (some ⟨w.heap.size, 0, none⟩) n n) w1 ∧ HOwn 42 w1 w.heap.size n [] ∧ Below w.heap.size w w1 := by
  obtain ⟨i0, hi, hz0, hz1, hz2⟩ := info_parts Try.info42
  have hmk := run_make (P := Try.prog) w 31 42 i0 _ Try.underlying31 hi hz0 .i64 .i64 n n (by omega) (by omega) (by rw [hz2]; omega) (by omega)
  simp only [Int.toNat_natCast, hz1] at hmk
  exact ⟨_, hmk, ⟨_, heap_alloc_new w _, size_madeCells _ _, by simp⟩, (Below.refl _ _).alloc (Nat.le_refl _) _⟩

theorem cell_set3 {w : World} {b g o i j l : Nat} {x y z : Value} (h : b ≠ g) : (((w.setCell ⟨g, i, none⟩ x).setCell ⟨g, j, none⟩ y).setCell ⟨g, l, none⟩ z).cell? ⟨b, o, none⟩ = w.cell? ⟨b, o, none⟩ := by
  have hn : ∀ q, (⟨g, q, none⟩ : Addr) ≠ ⟨b, o, none⟩ := fun q e => h (congrArg Addr.block e).symm
  rw [World.cell?_setCell_other _ _ _ _ (hn l), World.cell?_setCell_other _ _ _ _ (hn j), World.cell?_setCell_other _ _ _ _ (hn i)]

theorem below_of_drew {w w' : World} (h : Below w.drew.heap.size w.drew w') : Below w.heap.size w w' := ⟨h.os, h.tape, h.output, h.size, h.block⟩

set_option maxHeartbeats 1000000 in
theorem copyHeld_any (a : Option Addr) (n c : Nat) (ss : List Seg) (ds : List DSeg) (w : World) (h : HRow w a n ss) (hd : Reps w ss ds) (hn : n ≤ 1048576) (hall : ∀ s ∈ ss, s.n ≤ 1048576) (hnil : a = none → n = 0 ∧ c = 0) :
    Calls Try.prog 19 #[.slice a n c] w fun e w' => Copied n ds e w' ∧ Below w.heap.size w w' := by
  have heqn := fun (w : World) (a : Option Addr) (n c : Nat) => Lib.run_eql_slice_nil (P := Try.prog) w 31 42 a n c 0 0 Try.underlying31
  cases a with
  | none =>
    obtain ⟨rfl, rfl⟩ := hnil rfl
    go_enter Try.func19, Try.ntmps19
    go_wp2
    go_ret
    exact ⟨⟨none, 0, ss, rfl, h, hd, fun _ => ⟨rfl, rfl⟩⟩, Below.refl _ _⟩
  | some ad =>
    clear hnil
    have HALL : Hid (∀ s ∈ ss, s.n ≤ 1048576) := hall
    clear hall
    obtain ⟨w1, hmk, ho, hb1⟩ := make_held n hn w
    go_enter Try.func19, Try.ntmps19
    go_wp2
    clear hmk
    go_loopw [4] (fun i wr => ∃ (k : Nat) (ss' : List Seg), k ≤ n ∧ i = .int .i64 k ∧ ss'.length = k ∧ HOwn 42 wr w.heap.size n ss' ∧ Reps wr ss' (ds.take k) ∧ Far w.heap.size ss' ∧ Below w.heap.size w wr) (fun i _ => n - (intOf i).toNat)
    case atStart => exact ⟨0, [], Nat.zero_le _, rfl, rfl, ho, by simpa using Reps.nil _, by simp [Far], hb1⟩
    case round =>
      clear ho hb1
      obtain ⟨k, ss', hk, rfl, hlen, ho, hre, hfar, hb⟩ := hrel
      have HL : Hid (ss'.length = k) := hlen
      clear hlen
      by_cases hlt : k < n
      · obtain ⟨b, off, hab, q, pa, pn, pc, pf, hs, hc1, hc2, hc3⟩ := (h.below hb).at hlt
        obtain rfl := Option.some.inj hab
        obtain ⟨d, hd1, hrep⟩ := (hd.below hb).len hs
        have hpn := HALL.out _ (List.mem_of_getElem? hs)
        have hpn : pn ≤ 1048576 := hpn
        have HD : Hid (ds[k]? = some d) := hd1
        have hbw : b < w.heap.size := by
          obtain ⟨b', off', hab', hcc⟩ := h.2 (by omega)
          have hlt' : b' < w.heap.size := World.block_lt_of_cell? _ _ (hcc k _ hs).1
          simp at hab'
          omega
        clear hs hd1 hab
        have hgt := ho.lt
        have hne : b ≠ w.heap.size := by omega
        obtain ⟨⟨v0, hv0⟩, hf0⟩ := ho.there (i := k * 3) (by omega)
        obtain ⟨⟨v1, hv1⟩, hf1⟩ := ho.there (i := k * 3 + 1) (by omega)
        obtain ⟨⟨v2, hv2⟩, hf2⟩ := ho.there (i := k * 3 + 2) (by omega)
        go_wp2
        go_region_held3 (fun w' => w'.cell? ⟨b, off + k * 3, none⟩ = some (.int .u32 q) ∧ w'.cell? ⟨b, off + k * 3 + 1, none⟩ = some (.slice pa pn pc) ∧ w'.cell? ⟨b, off + k * 3 + 2, none⟩ = some (.bool pf)) (first | go_keep | (refine ⟨?_, ?_, ?_⟩ <;> (rw [cell_set3 hne]; assumption)))
          ((go_at_call 25; refine (clone_any pa pn pc d.pay wr.drew hrep.2.2.1 hpn hrep.2.2.2.2.1).mono ?_; rintro e w2 ⟨⟨pa', pc', rfl, hbr, hle, hnl, hfr⟩, hb2'⟩; have hb2 := below_of_drew hb2'; have kc1 := cell_later hb2 hc1; have kc2 := cell_later hb2 hc2; have kc3 := cell_later hb2 hc3; have kv0 := cell_later hb2 hv0; have kv1 := cell_later hb2 hv1; have kv2 := cell_later hb2 hv2; have kf0 := (hb2.frozen (p := ⟨w.heap.size, k * 3, none⟩) hgt).trans hf0; have kf1 := (hb2.frozen (p := ⟨w.heap.size, k * 3 + 1, none⟩) hgt).trans hf1; have kf2 := (hb2.frozen (p := ⟨w.heap.size, k * 3 + 2, none⟩) hgt).trans hf2))
        go_wp2
        go_roundw
        case rel =>
          have hb3 : Below w.heap.size w w2 := hb.trans (hb2.mono hb.size)
          have ho2 : HOwn 42 w2 w.heap.size n ss' := ho.keep (hb2.block _ hgt)
          have hre2 := (hre.below hb2).push (s := Seg.mk q pa' pn pc' pf) (d := d) ⟨hrep.1, hrep.2.1, hbr, hrep.2.2.2.1, hnl, hrep.2.2.2.2.2⟩
          have hfar2 : Far w.heap.size (ss' ++ [Seg.mk q pa' pn pc' pf]) := hfar.push (fun b off e => by have : wr.heap.size ≤ b := hfr b off e; omega)
          refine ⟨k + 1, ss' ++ [Seg.mk q pa' pn pc' pf], by omega, by go_num, by simp [HL.out], ho2.push HL.out hlt (Seg.mk q pa' pn pc' pf), ?_, hfar2, ?_⟩
          · rw [List.take_add_one, HD.out]
            exact hre2.keep hfar2 (fun b hb => block_set3 b hb)
          · exact ((hb3.setCell (Nat.le_refl _) _).setCell (Nat.le_refl _) _).setCell (Nat.le_refl _) _
        case measure => simp [intOf]; omega
      · go_wp2
        go_ret
        obtain rfl : k = n := by omega
        rw [List.take_of_length_le (by have := hd.1; have := h.1; omega)] at hre
        have hrow := ho.hrow
        rw [HL.out] at hrow
        exact ⟨⟨_, _, ss', rfl, hrow, hre, fun h => by simp at h⟩, hb⟩
end Go.Proofs.Qxb6617792a
