import Derived.Test.Qxb6617792aSplit
import Derived.Deep.AppendLies
import Derived.Deep.RegionLaw
namespace Go.Proofs.Qxb6617792a
open Go.RowKit

/-- 'old' stands at the offer's number and reaches at least as far. -/
def covers (s old : Seg) : Bool := (old.seq == s.seq) && !beforeB (endU old.seq old.n old.fin) (endU s.seq s.n s.fin)
/-- What hold makes of the segments held. -/
def holdL (ss : List Seg) (s : Seg) : List Seg := if ss.any (covers s) then ss else ss ++ [s]

theorem holdL_no {ss : List Seg} {s : Seg} {k : Nat} {t : Seg} (h : ss[k]? = some t) (hc : covers s t = true) : holdL ss s = ss := by
  unfold holdL
  rw [if_pos]
  exact List.any_eq_true.2 ⟨t, List.mem_of_getElem? h, hc⟩
theorem holdL_yes {ss : List Seg} {s : Seg} {n : Nat} (hl : ss.length = n) (h : ∀ (j : Nat) (t : Seg), j < n → ss[j]? = some t → covers s t = false) : holdL ss s = ss ++ [s] := by
  unfold holdL
  rw [if_neg]
  intro hq
  obtain ⟨t, ht, hc⟩ := List.any_eq_true.1 hq
  obtain ⟨j, hj⟩ := List.getElem?_of_mem ht
  have := (List.getElem?_eq_some_iff.1 hj).1
  rw [h j t (by omega) hj] at hc
  cases hc

/-- The cells of the segments, one behind the other. -/
def segV (ss : List Seg) : List Value := ss.flatMap fun s => [s.sv, s.pv, s.fv]
theorem segV_len (ss : List Seg) : (segV ss).length = ss.length * 3 := by
  induction ss with
  | nil => rfl
  | cons s ss ih => simp only [segV, List.flatMap_cons, List.length_append, List.length_cons, List.length_nil] at ih ⊢; omega
theorem segV_at {ss : List Seg} {j : Nat} {s : Seg} (h : ss[j]? = some s) : (segV ss)[j * 3]? = some s.sv ∧ (segV ss)[j * 3 + 1]? = some s.pv ∧ (segV ss)[j * 3 + 2]? = some s.fv := by
  induction ss generalizing j with
  | nil => simp at h
  | cons t ss ih =>
    cases j with
    | zero =>
      simp at h
      subst h
      simp [segV]
    | succ j =>
      simp at h
      obtain ⟨h1, h2, h3⟩ := ih h
      have e : segV (t :: ss) = [t.sv, t.pv, t.fv] ++ segV ss := by simp [segV]
      rw [e]
      refine ⟨?_, ?_, ?_⟩
      · rw [List.getElem?_append_right (by simp; omega)]; simpa [show (j + 1) * 3 - 3 = j * 3 by omega] using h1
      · rw [List.getElem?_append_right (by simp; omega)]; simpa [show (j + 1) * 3 + 1 - 3 = j * 3 + 1 by omega] using h2
      · rw [List.getElem?_append_right (by simp; omega)]; simpa [show (j + 1) * 3 + 2 - 3 = j * 3 + 2 by omega] using h3
theorem segV_snoc (ss : List Seg) (s : Seg) : segV (ss ++ [s]) = segV ss ++ [s.sv, s.pv, s.fv] := by simp [segV]

theorem hrow_of_owns {B : Nat} {w : World} {a : Option Addr} {n c : Nat} {ss : List Seg} {t : TypeId} (h : w.ownsRow B t 3 (.slice a n c) n (segV ss)) : HRow w a n ss := by
  have hl : ss.length = n := by have := h.1; rw [segV_len] at this; omega
  refine ⟨hl, fun hn => ?_⟩
  rcases h.2 with ⟨hv, h0⟩ | ⟨g, cap, cur, hv, hB, hg, _⟩
  · omega
  · have hv' := hv
    simp at hv'
    obtain ⟨rfl, rfl⟩ := hv'
    refine ⟨g, 0, rfl, fun j s hs => ?_⟩
    have hj : j < n := by have := (List.getElem?_eq_some_iff.1 hs).1; omega
    obtain ⟨h1, h2, h3⟩ := segV_at hs
    simp only [Nat.zero_add]
    rw [h.cellAt (j * 3) (by omega), h.cellAt (j * 3 + 1) (by omega), h.cellAt (j * 3 + 2) (by omega)]
    exact ⟨h1, h2, h3⟩

/-- What hold leaves: the variable holds a slice of what is kept. -/
def HeldIn (R : Nat) (ss : List Seg) (w' : World) : Prop := ∃ a c, w'.cell? ⟨R, 0, none⟩ = some (.slice a ss.length c) ∧ HRow w' a ss.length ss

theorem Try.info48 : (Try.prog.info? 48).map (fun i => (i.zero, i.size, i.bytes)) = some (some (.agg #[.int .u32 0, .slice none 0 0, .bool false]), 3, 40) := by kernel_rfl

theorem seg_oneCell (q : Int) (a : Option Addr) (n c : Nat) (f : Bool) : ∀ u ∈ [Value.int .u32 q, .slice a n c, .bool f], u.oneCell' = true := by
  intro u hu
  simp at hu
  rcases hu with rfl | rfl | rfl <;> rfl

theorem grown_frozen {w w' : World} {row : Option Nat} {p : Addr} (hg : w.grownBy w' row) (hp : p.block < w.heap.size) (hne : some p.block ≠ row) : w'.frozen? p = w.frozen? p :=
  World.frozen?_of_block (hg.block p.block hp hne)

/-- 'append(*r, h)', as one step of the statement. -/
theorem step_append_seg {ops : Array Oper} {o : Oper} {a : Act} {K : Act → World → Prop} {Q : Exit → Act → World → Prop} {E : Prop} {wr : World} {B n c : Nat} {aa : Option Addr} {ss : List Seg} {q : Int} {sa : Option Addr} {sn sc : Nat} {sf : Bool}
    (hgd : o.guard = none) (ho : o.op = .call { callee := .builtin .append, args := #[.tmp 39, .tmp 41], argTypes := #[51, 51] }) (hs : a.eval (.tmp 39) = .slice aa n c) (hx : a.eval (.tmp 41) = .slice (some ⟨wr.heap.size, 0, none⟩) 1 1)
    (kow : wr.ownsRow B 48 3 (.slice aa n c) n (segV ss)) (hB : B ≤ wr.heap.size) (hn : n ≤ 1048576)
    (h : ∀ g cap w', w'.ownsRow B 48 3 (.slice (some ⟨g, 0, none⟩) (n + 1) cap) (n + 1) (segV ss ++ [.int .u32 q, .slice sa sn sc, .bool sf]) → (wr.alloc (.cells #[.int .u32 q, .slice sa sn sc, .bool sf] 48)).drew.grownBy w' (Value.slice aa n c).ownBlock →
      ((Value.slice aa n c).ownBlock = some g ∨ g = wr.heap.size + 1) → K (a.put o.dst (.slice (some ⟨g, 0, none⟩) (n + 1) cap)) w') :
    if Region.wanted o (yielded ops a.tmps) = true then Oper.wp Try.prog o a (wr.alloc (.cells #[.int .u32 q, .slice sa sn sc, .bool sf] 48)).drew K Q else E := by
  obtain ⟨i0, hi, hz0, hz1, hz2⟩ := info_parts Try.info48
  have hblk : (wr.alloc (.cells #[.int .u32 q, .slice sa sn sc, .bool sf] 48)).drew.heap[wr.heap.size]? = some (.cells #[.int .u32 q, .slice sa sn sc, .bool sf] 48 (0, 0)) := Go.heap_alloc_new wr _
  refine step_append_lies _ hgd (.tmp 39) (.tmp 41) 51 ho B 48 i0 (.agg #[.int .u32 0, .slice none 0 0, .bool false]) 3 40 Try.underlying51 hi hz0 hz1 hz2 rfl (by omega) (.slice aa n c) n (segV ss) hs ((kow.alloc _).drew) ⟨wr.heap.size, 0, none⟩ 1 1 [.int .u32 q, .slice sa sn sc, .bool sf] hx rfl ?_ (seg_oneCell _ _ _ _ _) (by omega) (by unfold maxLen; omega) (by omega) ?_ (wr.heap.size + 1) ?_ (fun g cap w' h1 h2 h3 _ => h g cap w' h1 h2 h3)
  · intro j u hu
    exact World.news_of_block hblk j u (by simpa using hu)
  · show B ≤ (wr.alloc _).heap.size
    simp; omega
  · show (wr.alloc _).heap.size = _
    simp

/-- What the statement '*r = append(*r, h)' leaves. -/
theorem held_append {B R g n cap : Nat} {a : Option Addr} {c : Nat} {w wr w1 : World} {ss : List Seg} {s : Seg} {o : Obj} (hbw : Below B w wr) (hBw : B ≤ wr.heap.size) (hBR : B ≤ R) (hRw : R < wr.heap.size) (hne : (Value.slice a n c).ownBlock ≠ some R)
    (hn : ss.length = n) (ho : wr.ownsRow B 48 3 (.slice a n c) n (segV ss)) (hown : w1.ownsRow B 48 3 (.slice (some ⟨g, 0, none⟩) (n + 1) cap) (n + 1) (segV ss ++ [s.sv, s.pv, s.fv])) (hgrow : (wr.alloc o).drew.grownBy w1 (Value.slice a n c).ownBlock)
    (hat : (Value.slice a n c).ownBlock = some g ∨ g = wr.heap.size + 1) (hr1 : w1.cell? ⟨R, 0, none⟩ = some (.slice a n c)) :
    HeldIn R (ss ++ [s]) (w1.setCell ⟨R, 0, none⟩ (.slice (some ⟨g, 0, none⟩) (n + 1) cap)) ∧ Below B w (w1.setCell ⟨R, 0, none⟩ (.slice (some ⟨g, 0, none⟩) (n + 1) cap)) := by
  have hgR : g ≠ R := by
    rcases hat with h | h
    · rw [h] at hne; simpa using hne
    · omega
  have hlen : (ss ++ [s]).length = n + 1 := by simp [hn]
  refine ⟨⟨some ⟨g, 0, none⟩, cap, ?_, ?_⟩, ?_⟩
  · rw [hlen]
    exact World.cell?_setCell_same _ _ _ hr1
  · rw [hlen]
    rw [← segV_snoc] at hown
    refine hrow_of_owns (B := B) (t := 48) (c := cap) ?_
    exact hown.kept (w' := w1.setCell ⟨R, 0, none⟩ _) (row := some R) ⟨rfl, rfl, rfl, by simp [World.setCell], fun k _ hk => heap_setCell_other _ _ _ _ (fun e => hk (by simp [e]))⟩ (.inr (by simpa [Value.ownBlock] using hgR))
  · refine Below.setCell ?_ hBR _
    refine Below.grown (w := (wr.alloc o).drew) ((hbw.alloc hBw o).drew) hgrow (by simp; omega) (fun k hk => (ho.lt k hk).1)

set_option maxHeartbeats 1000000 in
set_option maxRecDepth 100000 in
theorem hold_any (B R : Nat) (a : Option Addr) (n c : Nat) (ss : List Seg) (sq : Int) (sa : Option Addr) (sn sc : Nat) (sf : Bool) (w : World) (hr : w.cell? ⟨R, 0, none⟩ = some (.slice a n c)) (hfz : w.frozen? ⟨R, 0, none⟩ = false) (ho : w.ownsRow B 48 3 (.slice a n c) n (segV ss))
    (hBR : B ≤ R) (hRw : R < w.heap.size) (hne : (Value.slice a n c).ownBlock ≠ some R) (hn : n ≤ 1048576) (hall : ∀ s ∈ ss, s.n ≤ 1048576) (hsn : sn ≤ 1048576) :
    Calls Try.prog 30 #[.pointer (some ⟨R, 0, none⟩), .int .u32 sq, .slice sa sn sc, .bool sf] w fun e w' => e = .returned (.tuple #[]) ∧ HeldIn R (holdL ss (Seg.mk sq sa sn sc sf)) w' ∧ Below B w w' := by
  have hrow := hrow_of_owns ho
  have HALL : Hid (∀ s ∈ ss, s.n ≤ 1048576) := hall
  clear hall
  go_enter Try.func30, Try.ntmps30
  go_wp2
  go_loopw [19] (fun i wr => ∃ k : Nat, k ≤ n ∧ i = .int .i64 k ∧ (∀ (j : Nat) (t : Seg), j < k → ss[j]? = some t → covers (Seg.mk sq sa sn sc sf) t = false) ∧ Below (w.heap.size + 1) (w.alloc (.cells #[.int .u32 sq, .slice sa sn sc, .bool sf] 48)) wr) (fun i _ => n - (intOf i).toNat)
  case atStart => exact ⟨0, Nat.zero_le _, rfl, fun j t hj => absurd hj (Nat.not_lt_zero _), Below.refl _ _⟩
  case round =>
    obtain ⟨k, hk, rfl, hno, hb⟩ := hrel
    have HNO : Hid (∀ (j : Nat) (t : Seg), j < k → ss[j]? = some t → covers (Seg.mk sq sa sn sc sf) t = false) := hno
    clear hno
    by_cases hlt : k < n
    · have hsz : w.heap.size < wr.heap.size := by have := hb.size; simp at this; omega
      have hbw : Below w.heap.size w wr := ((Below.refl _ _).alloc (Nat.le_refl _) _).trans (hb.mono (Nat.le_succ _))
      obtain ⟨b, off, rfl, q, pa, pn, pc, pf, hs, hc1, hc2, hc3⟩ := (hrow.below hbw).at hlt
      have hpn : pn ≤ 1048576 := HALL.out _ (List.mem_of_getElem? hs)
      have HS : Hid (ss[k]? = some (Seg.mk q pa pn pc pf)) := hs
      clear hs
      have kh0 : wr.cell? ⟨w.heap.size, 0, none⟩ = some (.int .u32 sq) := (hb.cell (p := ⟨w.heap.size, 0, none⟩) (by simp)).trans (by simp [go_sem])
      have kh1 : wr.cell? ⟨w.heap.size, 1, none⟩ = some (.slice sa sn sc) := (hb.cell (p := ⟨w.heap.size, 1, none⟩) (by simp)).trans (by simp [go_sem])
      have kh2 : wr.cell? ⟨w.heap.size, 2, none⟩ = some (.bool sf) := (hb.cell (p := ⟨w.heap.size, 2, none⟩) (by simp)).trans (by simp [go_sem])
      go_wp2
      go_cut [34] (fun t wc => t = .bool (covers (Seg.mk sq sa sn sc sf) (Seg.mk q pa pn pc pf)) ∧ Below wr.heap.size wr wc)
      case first =>
        by_cases hq : q = sq
        · subst hq
          have hqb : (q == q) = true := by simp
          have HCV : Hid (covers (Seg.mk q sa sn sc sf) (Seg.mk q pa pn pc pf) = !beforeB (endU q pn pf) (endU q sn sf)) := by show covers _ _ = _; simp [covers]
          go_region_held3 (fun w' => w'.cell? ⟨wr.heap.size, 0, none⟩ = some (.int .u32 q) ∧ w'.cell? ⟨wr.heap.size, 1, none⟩ = some (.slice pa pn pc) ∧ w'.cell? ⟨wr.heap.size, 2, none⟩ = some (.bool pf) ∧ w'.cell? ⟨w.heap.size, 0, none⟩ = some (.int .u32 q) ∧ w'.cell? ⟨w.heap.size, 1, none⟩ = some (.slice sa sn sc) ∧ w'.cell? ⟨w.heap.size, 2, none⟩ = some (.bool sf)) (first | go_keep)
            (first | (go_at_call 28; refine (end_any _ _ _ _ _ _ (by first | exact hpn | exact hsn)).mono ?_; rintro e w2 ⟨rfl, hb2⟩; have hbz : Below wr.heap.size wr w2 := (by first | exact hbz.trans (hb2.mono hbz.size) | exact (((Below.refl wr.heap.size wr).alloc (Nat.le_refl _) _).drew).trans (hb2.mono (by simp))); have m0 : w2.cell? ⟨wr.heap.size, 0, none⟩ = some (.int .u32 q) := cell_later hb2 (by first | exact m0 | (simp [go_sem]; done)); have m1 : w2.cell? ⟨wr.heap.size, 1, none⟩ = some (.slice pa pn pc) := cell_later hb2 (by first | exact m1 | (simp [go_sem]; done)); have m2 : w2.cell? ⟨wr.heap.size, 2, none⟩ = some (.bool pf) := cell_later hb2 (by first | exact m2 | (simp [go_sem]; done)); have m3 : w2.cell? ⟨w.heap.size, 0, none⟩ = some (.int .u32 q) := cell_later hb2 (by first | exact m3 | (simp [go_sem, hsz, kh0]; done)); have m4 : w2.cell? ⟨w.heap.size, 1, none⟩ = some (.slice sa sn sc) := cell_later hb2 (by first | exact m4 | (simp [go_sem, hsz, kh1]; done)); have m5 : w2.cell? ⟨w.heap.size, 2, none⟩ = some (.bool sf) := cell_later hb2 (by first | exact m5 | (simp [go_sem, hsz, kh2]; done))) | (go_at_call 29; refine (seqBefore_any _ _ _).mono ?_; rintro e w3 ⟨rfl, rfl⟩))
          go_wp2
          go_meet
          case rel => exact ⟨by rw [HCV.out], hbz⟩
        · have hqb : (q == sq) = false := by simp [hq]
          have HCV : Hid (covers (Seg.mk sq sa sn sc sf) (Seg.mk q pa pn pc pf) = false) := by show covers _ _ = _; simp [covers, hq]
          clear hq
          go_quiet (fail)
          go_wp2
          go_meet
          case rel => exact ⟨by rw [HCV.out], below_drewN ((Below.refl _ _).alloc (Nat.le_refl _) _) _⟩
      case rest =>
        obtain ⟨rfl, hbc⟩ := hcut
        cases hcov : covers (Seg.mk sq sa sn sc sf) (Seg.mk q pa pn pc pf)
        · go_wp2
          go_roundw
          case rel =>
            refine ⟨k + 1, by omega, by go_num, fun j t hj ht => ?_, hb.trans (hbc.mono (by omega))⟩
            by_cases e : j = k
            · subst e
              have e2 := HS.out.symm.trans ht
              cases e2
              exact hcov
            · exact HNO.out j t (by omega) ht
          case measure => simp [intOf]; omega
        · go_wp2
          have hbwc : Below w.heap.size w wc := hbw.trans (hbc.mono (by omega))
          refine bodyPost_ret (v := .tuple #[]) (by simp [results, Try.results30]) rfl ⟨rfl, ?_, hbwc.mono (by omega)⟩
          rw [holdL_no HS.out hcov]
          have hl := hrow.1
          exact ⟨_, c, by rw [hl]; exact cell_later hbwc hr, by rw [hl]; exact hrow.below hbwc⟩
    · have hsz : w.heap.size < wr.heap.size := by have := hb.size; simp at this; omega
      have hbw : Below w.heap.size w wr := ((Below.refl _ _).alloc (Nat.le_refl _) _).trans (hb.mono (Nat.le_succ _))
      have kh0 : wr.cell? ⟨w.heap.size, 0, none⟩ = some (.int .u32 sq) := (hb.cell (p := ⟨w.heap.size, 0, none⟩) (by simp)).trans (by simp [go_sem])
      have kh1 : wr.cell? ⟨w.heap.size, 1, none⟩ = some (.slice sa sn sc) := (hb.cell (p := ⟨w.heap.size, 1, none⟩) (by simp)).trans (by simp [go_sem])
      have kh2 : wr.cell? ⟨w.heap.size, 2, none⟩ = some (.bool sf) := (hb.cell (p := ⟨w.heap.size, 2, none⟩) (by simp)).trans (by simp [go_sem])
      have kr := cell_later hbw hr
      have kf : wr.frozen? ⟨R, 0, none⟩ = false := (hbw.frozen (p := ⟨R, 0, none⟩) hRw).trans hfz
      have kow : wr.ownsRow B 48 3 (.slice a n c) n (segV ss) := ho.kept (row := none) ⟨hbw.os, hbw.tape, hbw.output, hbw.size, fun k hk _ => hbw.block k hk⟩ (by cases (Value.slice a n c).ownBlock <;> simp)
      have hyes : holdL ss (Seg.mk sq sa sn sc sf) = ss ++ [Seg.mk sq sa sn sc sf] := holdL_yes hrow.1 (fun j t hj => HNO.out j t (by omega))
      have HY : Hid (holdL ss (Seg.mk sq sa sn sc sf) = ss ++ [Seg.mk sq sa sn sc sf]) := hyes
      have HNEQ : Hid ((Value.slice a n c).ownBlock ≠ some R) := hne
      have hRr : R < wr.heap.size := by omega
      have hBw : B ≤ wr.heap.size := by omega
      have HRA : Hid (R < (wr.alloc (.cells #[.int .u32 sq, .slice sa sn sc, .bool sf] 48)).drew.heap.size) := by
        show R < (wr.alloc _).heap.size
        simp; omega
      have KFA : Hid ((wr.alloc (.cells #[.int .u32 sq, .slice sa sn sc, .bool sf] 48)).drew.frozen? ⟨R, 0, none⟩ = false) := by
        show (wr.alloc _).frozen? _ = false
        rw [World.frozen?_alloc_past _ _ _ hRr]
        exact kf
      clear hyes hne hr hfz ho hb
      go_wp2
      go_region_law ((refine step_append_seg (by rfl) (by rfl) (by rfl) (by rfl) kow hBw hn ?_; intro g cap w1 hown1 hgrow hat; have kr1 : w1.cell? ⟨R, 0, none⟩ = some (.slice a n c) := hgrow.cell (a := ⟨R, 0, none⟩) (cell_later (wx := (wr.alloc (.cells #[.int .u32 sq, .slice sa sn sc, .bool sf] 48)).drew) (((Below.refl _ _).alloc (Nat.le_refl _) _).drew) kr) (fun e => HNEQ.out e.symm); have kf1 : w1.frozen? ⟨R, 0, none⟩ = false := (grown_frozen (p := ⟨R, 0, none⟩) hgrow HRA.out (fun e => HNEQ.out e.symm)).trans KFA.out))
      all_goals
        have hfin := held_append (s := Seg.mk sq sa sn sc sf) (hbw.mono (show B ≤ w.heap.size by omega)) hBw hBR hRr HNEQ.out hrow.1 kow hown1 hgrow hat kr1
        have HF : Hid (HeldIn R (holdL ss (Seg.mk sq sa sn sc sf)) (w1.setCell ⟨R, 0, none⟩ (.slice (some ⟨g, 0, none⟩) (n + 1) cap)) ∧ Below B w (w1.setCell ⟨R, 0, none⟩ (.slice (some ⟨g, 0, none⟩) (n + 1) cap))) := by
          show HeldIn R (holdL ss (Seg.mk sq sa sn sc sf)) _ ∧ _
          rw [HY.out]
          exact hfin
        clear hfin
        go_wp2
        go_end0
        exact ⟨rfl, HF.out.1, HF.out.2⟩
end Go.Proofs.Qxb6617792a
