import Derived.Test.Qxb6617792aCover
namespace Go.Proofs.Qxb6617792a
open Go.RowKit

def reachD (d : DSeg) : Int := reachI d.pay.length d.fin
def coversD (d old : DSeg) : Bool := (old.seq == d.seq) && decide (reachD d ≤ reachD old)
/-- Covered by what was held, or by one of the first k offers. -/
def covD (ds os : List DSeg) (k : Nat) (d : DSeg) : Bool := ds.any (coversD d) || (os.take k).any (coversD d)

/-- One hold, as data. -/
def holdOne (cur : List DSeg) (d : DSeg) : List DSeg := if cur.any (coversD d) then cur else cur ++ [d]
/-- What is held behind the first k offers. -/
def recs (ds os : List DSeg) : Nat → List DSeg
  | 0 => ds
  | k + 1 => match os[k]? with
    | some d => holdOne (recs ds os k) d
    | none => recs ds os k
/-- What the law expects behind the first k offers. -/
def exps (ds os : List DSeg) : Nat → List DSeg
  | 0 => ds
  | k + 1 => match os[k]? with
    | some d => if covD ds os k d then exps ds os k else exps ds os k ++ [d]
    | none => exps ds os k

theorem recs_step {ds os : List DSeg} {k : Nat} {d : DSeg} (h : os[k]? = some d) : recs ds os (k + 1) = holdOne (recs ds os k) d := by
  simp only [recs, h]
theorem exps_step {ds os : List DSeg} {k : Nat} {d : DSeg} (h : os[k]? = some d) : exps ds os (k + 1) = if covD ds os k d then exps ds os k else exps ds os k ++ [d] := by
  simp only [exps, h]

theorem coversD_trans {a b c : DSeg} (h1 : coversD a b = true) (h2 : coversD b c = true) : coversD a c = true := by
  simp only [coversD, Bool.and_eq_true, beq_iff_eq, decide_eq_true_eq] at h1 h2 ⊢
  exact ⟨h2.1.trans h1.1, by omega⟩

theorem recs_any (ds os : List DSeg) (d : DSeg) : ∀ k, (recs ds os k).any (coversD d) = covD ds os k d
  | 0 => by simp [recs, covD]
  | k + 1 => by
    have ih := recs_any ds os d k
    cases ho : os[k]? with
    | none =>
      have : recs ds os (k + 1) = recs ds os k := by simp only [recs, ho]
      rw [this, ih]
      unfold covD
      rw [List.take_add_one, ho]
      simp
    | some o =>
      rw [recs_step ho]
      have e : covD ds os (k + 1) d = (covD ds os k d || coversD d o) := by
        unfold covD
        rw [List.take_add_one, ho, List.any_append]
        simp [Bool.or_assoc]
      rw [e, ← ih]
      unfold holdOne
      by_cases hc : (recs ds os k).any (coversD o) = true
      · rw [if_pos hc]
        cases hd : coversD d o
        · simp
        · obtain ⟨t, ht, hto⟩ := List.any_eq_true.1 hc
          rw [List.any_eq_true.2 ⟨t, ht, coversD_trans hd hto⟩]
          rfl
      · rw [if_neg hc, List.any_append]
        simp

theorem recs_eq (ds os : List DSeg) : ∀ k, recs ds os k = exps ds os k
  | 0 => rfl
  | k + 1 => by
    cases ho : os[k]? with
    | none => simp only [recs, exps, ho, recs_eq ds os k]
    | some o =>
      rw [recs_step ho, exps_step ho, holdOne, recs_any, recs_eq ds os k]

theorem Reps.any {w : World} {ss : List Seg} {ds : List DSeg} (h : Reps w ss ds) {f : Seg → Bool} {g : DSeg → Bool} (hfg : ∀ (j : Nat) (s : Seg) (d : DSeg), ss[j]? = some s → ds[j]? = some d → f s = g d) : ss.any f = ds.any g := by
  rw [Bool.eq_iff_iff, List.any_eq_true, List.any_eq_true]
  constructor
  · rintro ⟨s, hs, hf⟩
    obtain ⟨j, hj⟩ := List.getElem?_of_mem hs
    have hlt : j < ds.length := by have := (List.getElem?_eq_some_iff.1 hj).1; have := h.1; omega
    exact ⟨ds[j], List.getElem_mem hlt, by rw [← hfg j s ds[j] hj (by simp [hlt])]; exact hf⟩
  · rintro ⟨d, hd, hg⟩
    obtain ⟨j, hj⟩ := List.getElem?_of_mem hd
    have hlt : j < ss.length := by have := (List.getElem?_eq_some_iff.1 hj).1; have := h.1; omega
    exact ⟨ss[j], List.getElem_mem hlt, by rw [hfg j ss[j] d (by simp [hlt]) hj]; exact hg⟩

theorem before_reach (q : Int) (n m : Nat) (f g : Bool) (hn : n ≤ 1048576) (hm : m ≤ 1048576) : (!beforeB (endU q n f) (endU q m g)) = decide (reachI m g ≤ reachI n f) := by
  unfold beforeB endU reachI
  rw [← decide_not, decide_eq_decide]
  cases f <;> cases g <;> simp <;> omega

theorem covers_rep {w w' : World} {s t : Seg} {d e : DSeg} (h : Rep w s d) (k : Rep w' t e) (hn : s.n ≤ 1048576) (hm : t.n ≤ 1048576) : covers s t = coversD d e := by
  have h1 : d.pay.length = s.n := h.2.2.1.1
  have k1 : e.pay.length = t.n := k.2.2.1.1
  unfold covers coversD reachD
  rw [← h.1, ← k.1, ← h.2.1, ← k.2.1, h1, k1]
  cases hq : (t.seq == s.seq)
  · simp
  · have hq' : t.seq = s.seq := by simpa using hq
    rw [hq', before_reach _ _ _ _ _ hm hn]

theorem coversS_rep {w w' : World} {s t : Seg} {d e : DSeg} (h : Rep w s d) (k : Rep w' t e) : coversS s t = coversD d e := by
  have h1 : d.pay.length = s.n := h.2.2.1.1
  have k1 : e.pay.length = t.n := k.2.2.1.1
  unfold coversS coversD reachD
  rw [← h.1, ← k.1, ← h.2.1, ← k.2.1, h1, k1]

theorem Reps.head {w : World} {ss : List Seg} {ds : List DSeg} (h : Reps w ss ds) (k : Nat) : Reps w (headS ss k) (ds.take k) := by
  refine ⟨by simp [headS, h.1], fun j s d hs hd => ?_⟩
  unfold headS at hs
  rw [List.getElem?_take] at hs hd
  split at hs
  · rename_i hj
    rw [if_pos hj] at hd
    exact h.2 j s d hs hd
  · cases hs

theorem covS_rep {w : World} {rs os : List Seg} {ds es : List DSeg} {s : Seg} {d : DSeg} (hr : Reps w rs ds) (ho : Reps w os es) (h : Rep w s d) (j : Nat) : covS rs os j s = covD ds es j d := by
  unfold covS covD
  rw [hr.any (f := coversS s) (g := coversD d) (fun i t e ht he => coversS_rep h (hr.2 i t e ht he)), (ho.head j).any (f := coversS s) (g := coversD d) (fun i t e ht he => coversS_rep h ((ho.head j).2 i t e ht he))]

theorem reps_hold {w : World} {hs : List Seg} {D : List DSeg} {s : Seg} {d : DSeg} (h : Reps w hs D) (hr : Rep w s d) (hall : ∀ t ∈ hs, t.n ≤ 1048576) (hn : s.n ≤ 1048576) : Reps w (holdL hs s) (holdOne D d) := by
  have e : hs.any (covers s) = D.any (coversD d) := h.any (fun j t e ht he => covers_rep hr (h.2 j t e ht he) hn (hall t (List.mem_of_getElem? ht)))
  unfold holdL holdOne
  rw [e]
  by_cases hc : D.any (coversD d) = true
  · rw [if_pos hc, if_pos hc]; exact h
  · rw [if_neg hc, if_neg hc]; exact h.push hr

theorem holdOne_bd {D : List DSeg} {d : DSeg} {B : Nat} (h : ∀ e ∈ D, e.pay.length ≤ B) (hd : d.pay.length ≤ B) : ∀ e ∈ holdOne D d, e.pay.length ≤ B := by
  unfold holdOne
  split
  · exact h
  · intro e he
    rcases List.mem_append.1 he with he | he
    · exact h e he
    · simp at he; subst he; exact hd
theorem holdOne_len (D : List DSeg) (d : DSeg) : (holdOne D d).length ≤ D.length + 1 := by
  unfold holdOne
  split <;> simp
theorem recs_bd {ds os : List DSeg} {B : Nat} (h : ∀ e ∈ ds, e.pay.length ≤ B) (k : ∀ e ∈ os, e.pay.length ≤ B) : ∀ j, ∀ e ∈ recs ds os j, e.pay.length ≤ B
  | 0 => h
  | j + 1 => by
    cases ho : os[j]? with
    | none =>
      have : recs ds os (j + 1) = recs ds os j := by simp only [recs, ho]
      rw [this]; exact recs_bd h k j
    | some o => rw [recs_step ho]; exact holdOne_bd (recs_bd h k j) (k o (List.mem_of_getElem? ho))
theorem recs_len (ds os : List DSeg) : ∀ j, (recs ds os j).length ≤ ds.length + j
  | 0 => Nat.le_refl _
  | j + 1 => by
    have ih := recs_len ds os j
    cases ho : os[j]? with
    | none =>
      have : recs ds os (j + 1) = recs ds os j := by simp only [recs, ho]
      rw [this]; omega
    | some o => rw [recs_step ho]; have := holdOne_len (recs ds os j) o; omega
end Go.Proofs.Qxb6617792a
