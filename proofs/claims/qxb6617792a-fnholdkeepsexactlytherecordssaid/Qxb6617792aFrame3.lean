import Derived.Test.Qxb6617792aFrame2
import Derived.Test.Qxb6617792aHeld
import Derived.Deep.Strs
import Derived.Deep.Slices
namespace Go.Proofs.Qxb6617792a
open Go.ChangeShapes Go.WideShapes Go.ChangeAt Go.RowKit

theorem Try.cells42 : Try.prog.cellsOf 42 = 3 := by kernel_rfl
theorem Try.cells27 : Try.prog.cellsOf 27 = 1 := by kernel_rfl
theorem Try.cells22 : Try.prog.cellsOf 22 = 1 := by kernel_rfl
theorem Try.cells4 : Try.prog.cellsOf 4 = 1 := by kernel_rfl

/-- One segment that came in. -/
theorem seg_of_trod {H : Type} {enc : TypeId × Value → H} {W : World} {fuel : Nat} {cs : List Value} {y : DataW H × List MemPlace}
    (hf : DataW.trod enc Try.prog W 0 (fun _ => true) true fuel 42 cs = some y) : ∃ (s : Seg) (d : DSeg), cs = [s.sv, s.pv, s.fv] ∧ Rep W s d := by
  obtain ⟨y0, y1, y2, n, _, hl, h0, h1, h2⟩ := Go.Deep.trod_struct3 Try.underlying42 hf
  rw [Try.cells42] at hl
  match cs, hl with
  | [c0, c1, c2], _ =>
    simp only [Try.cells27, List.drop_zero, List.take_succ_cons, List.take_zero] at h0
    simp only [Try.cells22, List.drop_succ_cons, List.drop_zero, List.take_succ_cons, List.take_zero] at h1
    simp only [Try.cells4, List.drop_succ_cons, List.drop_zero, List.take_succ_cons, List.take_zero] at h2
    obtain ⟨q, e0, _, wq⟩ := DataW.trod_int Try.underlying27 h0
    obtain ⟨f, e2, _⟩ := DataW.trod_bool Try.underlying4 h2
    have hsl : ∃ a len cap, c1 = .slice a len cap := by
      rcases DataW.trod_slice Try.underlying22 h1 with ⟨e, _⟩ | ⟨a, len, cap, _, _, _, _, e, _⟩
      · simp at e; exact ⟨_, _, _, e⟩
      · simp at e; exact ⟨_, _, _, e⟩
    obtain ⟨a, len, cap, rfl⟩ := hsl
    have h1' : DataW.trod enc Try.prog W 0 (fun _ => true) true n 22 (Value.slice a len cap).cells.toList = some y1 := by simpa [Value.cells] using h1
    obtain ⟨zs, hb, _, hm⟩ := brow_of_trod h1'
    have hn := nil_of_trod h1'
    simp at e0 e2
    subst e0
    subst e2
    have bq := bounds_u32 wq
    exact ⟨Seg.mk q a len cap f, DSeg.mk q zs f, rfl, rfl, rfl, hb, hm, hn, bq.1, by show q < 4294967296; omega⟩

/-- A slice of segments that came in. -/
theorem held_of_trod {H : Type} {enc : TypeId × Value → H} {W : World} {a : Option Addr} {len cap fuel : Nat} {x : DataW H × List MemPlace}
    (hf : DataW.trod enc Try.prog W 0 (fun _ => true) true fuel 31 (Value.slice a len cap).cells.toList = some x) : ∃ ss ds, HRow W a len ss ∧ Reps W ss ds ∧ len ≤ maxLen ∧ (a = none → len = 0 ∧ cap = 0) := by
  rcases DataW.trod_slice Try.underlying31 hf with ⟨hcs, _⟩ | ⟨ad, l, c, elems, rest, n, _, hcs, _, _, hl, hm, hlen, hel, _, _⟩
  · simp [Value.cells] at hcs
    obtain ⟨rfl, rfl, rfl⟩ := hcs
    exact ⟨[], [], HRow.nil _ _, Reps.nil _, Nat.zero_le _, fun _ => ⟨rfl, rfl⟩⟩
  · simp [Value.cells] at hcs
    obtain ⟨rfl, rfl, rfl⟩ := hcs
    have each : ∀ i, i < len → ∃ p : Seg × DSeg, W.cell? (ad.add (i * 3)) = some p.1.sv ∧ W.cell? ((ad.add (i * 3)).add 1) = some p.1.pv ∧ W.cell? ((ad.add (i * 3)).add 2) = some p.1.fv ∧ Rep W p.1 p.2 := by
      intro i hi
      have h := hel i hi
      rw [List.getElem?_eq_getElem (by omega), Option.bind_eq_some_iff] at h
      obtain ⟨cs, hc, ht⟩ := h
      rw [Try.cells42] at hc
      obtain ⟨s, d, rfl, hr⟩ := seg_of_trod ht
      have hcc := (World.cells?_some hc).2.2
      refine ⟨(s, d), ?_, ?_, ?_, hr⟩
      · have := hcc 0 (by omega)
        simpa [Addr.add] using this
      · have := hcc 1 (by omega)
        simpa using this
      · have := hcc 2 (by omega)
        simpa using this
    obtain ⟨f, hF⟩ := @Go.Deep.choose_lt (Seg × DSeg) ⟨(Seg.mk 0 none 0 0 false, DSeg.mk 0 [] false)⟩ len _ each
    refine ⟨(List.range len).map fun i => (f i).1, (List.range len).map fun i => (f i).2, ⟨by simp, fun hp => ?_⟩, ⟨by simp, fun j s d hs hd => ?_⟩, Nat.le_trans hl hm, fun h => by simp at h⟩
    · obtain ⟨b, off, spot⟩ := ad
      have hspot : spot = none := by simpa [Addr.add] using World.cell?_spot (hF 0 hp).1
      subst hspot
      refine ⟨b, off, rfl, fun j s hs => ?_⟩
      have hj : j < len := by have := (List.getElem?_eq_some_iff.1 hs).1; simpa using this
      simp [hj] at hs
      subst hs
      obtain ⟨h1, h2, h3, _⟩ := hF j hj
      rw [Addr.add_lit] at h1 h2 h3
      rw [Addr.add_lit] at h2 h3
      exact ⟨h1, h2, h3⟩
    · have hj : j < len := by have := (List.getElem?_eq_some_iff.1 hs).1; simpa using this
      simp [hj] at hs hd
      subst hs
      subst hd
      exact (hF j hj).2.2.2
end Go.Proofs.Qxb6617792a
