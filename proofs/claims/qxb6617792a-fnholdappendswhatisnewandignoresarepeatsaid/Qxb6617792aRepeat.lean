import Derived.Test.Qxb6617792aPlainH
namespace Go.Proofs.Qxb6617792a
open Go.RowKit

/-- None of the first k stands at the number q. -/
def freshB (ss : List Seg) (k : Nat) (q : Int) : Bool := (headS ss k).all fun t => !(t.seq == q)
theorem freshB_hit {ss : List Seg} {k : Nat} {s : Seg} {q : Int} (h : ss[k]? = some s) (e : (s.seq == q) = true) : freshB ss (k + 1) q = false := by
  unfold freshB; rw [headS_step h]; simp [e]
theorem freshB_miss {ss : List Seg} {k : Nat} {s : Seg} {q : Int} (h : ss[k]? = some s) (e : (s.seq == q) = false) : freshB ss (k + 1) q = freshB ss k q := by
  unfold freshB; rw [headS_step h]; simp [e]
theorem freshB_all {ss : List Seg} {n : Nat} {q : Int} (hl : ss.length = n) (h : freshB ss n q = true) : ∀ (j : Nat) (t : Seg), ss[j]? = some t → t.seq ≠ q := by
  intro j t ht
  unfold freshB at h
  rw [headS_all (by omega), List.all_eq_true] at h
  have := h t (List.mem_of_getElem? ht)
  simpa using this

/-- Two readings of the same data agree. -/
theorem rep_agree {w : World} {q q' : Int} {a a' : Option Addr} {n n' c c' : Nat} {f f' : Bool} {d : DSeg} (h : Rep w (Seg.mk q a n c f) d) (k : Rep w (Seg.mk q' a' n' c' f') d) :
    q = q' ∧ f = f' ∧ n = n' ∧ BRow w a n d.pay ∧ BRow w a' n d.pay := by
  have h1 : q = d.seq := h.1
  have k1 : q' = d.seq := k.1
  have h2 : f = d.fin := h.2.1
  have k2 : f' = d.fin := k.2.1
  have h3 : BRow w a n d.pay := h.2.2.1
  have k3 : BRow w a' n' d.pay := k.2.2.1
  have e : n = n' := h3.1.symm.trans k3.1
  subst e
  exact ⟨h1.trans k1.symm, h2.trans k2.symm, rfl, h3, k3⟩

theorem fresh_other {w : World} {ss ss' : List Seg} {ds : List DSeg} {q : Int} (h : Reps w ss ds) (k : Reps w ss' ds) (hf : ∀ (j : Nat) (t : Seg), ss[j]? = some t → t.seq ≠ q) : ∀ (j : Nat) (t : Seg), ss'[j]? = some t → t.seq ≠ q := by
  intro j t ht
  have h1 : j < ss'.length := (List.getElem?_eq_some_iff.1 ht).1
  have h2 : j < ds.length := by have := k.1; omega
  have h3 : j < ss.length := by have := h.1; omega
  have r1 := k.2 j t ds[j] ht (by simp [h2])
  have r2 := h.2 j ss[j] ds[j] (by simp [h3]) (by simp [h2])
  have := hf j ss[j] (by simp [h3])
  rw [r1.1, ← r2.1]
  exact this

set_option maxHeartbeats 4000000 in
set_option maxRecDepth 100000 in
theorem repeat_walk (a : Option Addr) (n c : Nat) (ss : List Seg) (ds : List DSeg) (q : Int) (pa : Option Addr) (pn pc : Nat) (zs : List Int) (pf : Bool) (w : World) (h : HRow w a n ss) (hd : Reps w ss ds) (hm : n ≤ maxLen) (hnil : a = none → n = 0 ∧ c = 0)
    (hq0 : 0 ≤ q) (hq1 : q < 4294967296) (hp : BRow w pa pn zs) (hpm : pn ≤ maxLen) (hpnil : pa = none → pn = 0 ∧ pc = 0) :
    Calls Try.prog 7 #[.slice a n c, .int .u32 q, .slice pa pn pc, .bool pf] w fun e w' => e = .returned (.bool true) ∧ Below w.heap.size w w' := by
  have HNIL : Hid (a = none → n = 0 ∧ c = 0) := hnil
  have HPN : Hid (pa = none → pn = 0 ∧ pc = 0) := hpnil
  clear hnil hpnil
  go_enter Try.func7, Try.ntmps7
  go_wp2_with fail
  refine (bytes24_any a n c ss ds q pa pn pc pf _ h hd hm hpm).mono ?_
  rintro e w' ⟨rfl, bb, rfl, hbb⟩
  cases bb
  · go_wp2_with fail
    go_ret
    exact ⟨rfl, Below.refl _ _⟩
  obtain ⟨hl, hpl⟩ := hbb rfl
  have HPM : Hid (pn ≤ maxLen) := hpm
  clear hbb hm hpm
  by_cases hg : 4096 < n
  · go_wp2_with fail
    go_ret
    exact ⟨rfl, Below.refl _ _⟩
  go_wp2_with fail
  refine (addHeld_any pn a n c ss ds _ h hd hl (by omega) (by omega)).mono ?_
  rintro e w' ⟨rfl, r, rfl, hr0, hrs⟩
  by_cases hr1 : 1048576 < r
  · go_wp2_with fail
    go_ret
    exact ⟨rfl, Below.refl _ _⟩
  have hall := hrs (by omega)
  have dall := hd.to_d hall
  have HALL : Hid (∀ s ∈ ss, s.n ≤ 1048576) := hall
  have HD : Hid (∀ d ∈ ds, d.pay.length ≤ 1048576) := dall
  clear hrs hr0 hall dall
  go_wp2_with fail
  refine (copyHeld_any a n c ss ds _ h hd hl HALL.out HNIL.out).mono ?_
  rintro e w1 ⟨⟨a1, c1, ssr, rfl, hrR, hdR, hnR⟩, hb1⟩
  have HNR : Hid (a1 = none → n = 0 ∧ c1 = 0) := hnR
  have hp1 := hp.below hb1
  clear h hd hp hnR
  go_wp2_with fail
  refine (clone_any pa pn pc zs _ hp1 hpl HPN.out).mono ?_
  rintro e w2 ⟨⟨pa1, pc1, rfl, hpB, hle, hnP, hfr⟩, hb2⟩
  have HNP : Hid (pa1 = none → pn = 0 ∧ pc1 = 0) := hnP
  have hrR := hrR.below hb2
  have hdR := hdR.below hb2
  have hb2 := hb1.trans (hb2.mono hb1.size)
  clear hb1 hp1 hle hnP hfr
  go_wp2_with fail
  refine (copyHeld_any a1 n c1 ssr ds _ hrR hdR hl (hdR.to_s HD.out) HNR.out).mono ?_
  rintro e w3 ⟨⟨a3, c3, ss0, rfl, hr3, hd3, hn3⟩, hb3⟩
  have hrR := hrR.below hb3
  have hdR := hdR.below hb3
  have hpB := hpB.below hb3
  have hb3 := hb2.trans (hb3.mono hb2.size)
  clear hb2 hn3
  go_wp2_with fail
  refine (splitHeld_any a3 n c3 ss0 _ hr3 hl).mono ?_
  rintro e w4 ⟨⟨g1, g2, g3, rfl, hT⟩, hb4⟩
  have hrR := hrR.below hb4
  have hdR := hdR.below hb4
  have hpB := hpB.below hb4
  have hd4 := hd3.below hb4
  have hb4 := hb3.trans (hb4.mono hb3.size)
  clear hb3 hr3 hd3
  go_wp2_with fail
  refine (clone_any pa1 pn pc1 zs _ hpB hpl HNP.out).mono ?_
  rintro e w5 ⟨⟨pa5, pc5, rfl, hpC, hle5, hn5, hfr5⟩, hb5⟩
  have hrR := hrR.below hb5
  have hdR := hdR.below hb5
  have hpB := hpB.below hb5
  have hd5 := hd4.below hb5
  have hT := hT.below hb5
  have HN5 : Hid (pa5 = none → pn = 0 ∧ pc5 = 0) := hn5
  have hb5 := hb4.trans (hb5.mono hb4.size)
  clear hb4 hd4 hle5 hn5 hfr5
  go_wp2_with fail
  refine (holdInto_any (some ⟨g1, 0, none⟩) (some ⟨g2, 0, none⟩) (some ⟨g3, 0, none⟩) n n n n ss0 q pa5 pn pc5 pf _ hT (by omega) (hd5.to_s HD.out) hpl).mono ?_
  rintro e w6 ⟨⟨f1, f2, f3, rfl, hT6⟩, hb6⟩
  have hrR := hrR.below hb6
  have hdR := hdR.below hb6
  have hpB := hpB.below hb6
  have hpC := hpC.below hb6
  have hd6 := hd5.below hb6
  have hb6 := hb5.trans (hb6.mono hb5.size)
  have hbd : ∀ s ∈ holdL ss0 (Seg.mk q pa5 pn pc5 pf), s.n ≤ 1048576 := holdL_bd (hd5.to_s HD.out) hpl
  have hK := kept_holdL hT.1 (Seg.mk q pa5 pn pc5 pf)
  have htw := fun (a' : Option Addr) (c' : Nat) => holdL_twice ss0 q pa5 a' pn pc5 c' pf
  have hRH := hd6.holdL (s := Seg.mk q pa5 pn pc5 pf) (d := DSeg.mk q zs pf) ⟨rfl, rfl, hpC, HPM.out, HN5.out, hq0, hq1⟩
  have hml : (holdL ss0 (Seg.mk q pa5 pn pc5 pf)).length ≤ 4097 := by have := hT.1; have := holdL_len (ss := ss0) (s := Seg.mk q pa5 pn pc5 pf); omega
  generalize holdL ss0 (Seg.mk q pa5 pn pc5 pf) = hs at hT6 hbd hK htw hRH hml ⊢
  generalize holdD ds (DSeg.mk q zs pf) (ss0.any (covers (Seg.mk q pa5 pn pc5 pf))) = dsH at hRH
  have HBD : Hid (∀ s ∈ hs, s.n ≤ 1048576) := hbd
  have HTW : Hid (∀ (a' : Option Addr) (c' : Nat), holdL hs (Seg.mk q a' pn c' pf) = hs) := htw
  clear hb5 hd5 hbd htw hT
  go_wp2_with fail
  refine (clone_any pa1 pn pc1 zs _ hpB hpl HNP.out).mono ?_
  rintro e w7 ⟨⟨pa7, pc7, rfl, hp7, hle7, hn7, hfr7⟩, hb7⟩
  have hrR := hrR.below hb7
  have hdR := hdR.below hb7
  have hpB := hpB.below hb7
  have hpC := hpC.below hb7
  have hd7 := hd6.below hb7
  have hT7 := hT6.below hb7
  have hRH := hRH.below hb7
  have hb7 := hb6.trans (hb7.mono hb6.size)
  clear hb6 hd6 hT6 hle7 hn7 hfr7 hp7
  go_wp2_with fail
  refine (holdInto_any (some ⟨f1, 0, none⟩) (some ⟨f2, 0, none⟩) (some ⟨f3, 0, none⟩) hs.length hs.length hs.length hs.length hs q pa7 pn pc7 pf _ hT7 (by omega) HBD.out hpl).mono ?_
  rw [HTW.out]
  rintro e w8 ⟨⟨k1, k2, k3, rfl, hT8⟩, hb8⟩
  have hrR := hrR.below hb8
  have hdR := hdR.below hb8
  have hpB := hpB.below hb8
  have hpC := hpC.below hb8
  have hd8 := hd7.below hb8
  have hT7 := hT7.below hb8
  have hRH := hRH.below hb8
  have hb8 := hb7.trans (hb8.mono hb7.size)
  clear hb7 hd7
  have HK : Hid (Kept ss0 hs n (Seg.mk q pa5 pn pc5 pf)) := hK
  clear hK
  go_upto_region 17 with fail
  go_cut [98] from 22 (fun t wc => t = .bool false ∧ w8 = wc)
  case first =>
    rcases HK.out.len with hlen | hlen
    · have hA : ((hs.length : Int) != (n : Int)) = false := by simp; omega
      clear hlen
      go_wp2
      go_meet
      case rel => exact ⟨rfl, rfl⟩
    · have hA : ((hs.length : Int) != (n : Int)) = true := by simp; omega
      have hB : ((hs.length : Int) != (n : Int) + 1) = false := by simp; omega
      clear hlen
      go_wp2
      go_meet
      case rel => exact ⟨rfl, rfl⟩
  case rest =>
    obtain ⟨rfl, rfl⟩ := hcut
    have hnl : n ≤ hs.length := by rcases HK.out.len with h | h <;> omega
    go_wp2_with fail
    go_loopw [19] (fun i wr => ∃ j : Nat, j ≤ n ∧ i = .int .i64 j ∧ ∃ m, wr = w8.drewN m) (fun i _ => n - (intOf i).toNat)
    case atStart => exact ⟨0, Nat.zero_le _, rfl, 0, rfl⟩
    case round =>
      obtain ⟨j, hj, rfl, hm⟩ := hrel
      have HM : Hid (∃ m, wr = w8.drewN m) := hm
      have hb : Below w8.heap.size w8 wr := by obtain ⟨m, rfl⟩ := hm; exact below_drewN (Below.refl _ _) _
      clear hm
      by_cases hlt : j < n
      · obtain ⟨b, off, rfl, q1, pa', pn', pc', pf', hs1, hc1, hc2, hc3⟩ := (hrR.below hb).at hlt
        obtain ⟨b1, o1, b2, o2, b3, o3, e1, e2, e3, q2, pa'', pn'', pc'', pf'', hs2, hk1, hk2, hk3⟩ := (hT7.below hb).at (show j < hs.length by omega)
        simp only [Option.some.injEq, Addr.mk.injEq, and_true] at e1 e2 e3
        obtain ⟨rfl, rfl⟩ := e1
        obtain ⟨rfl, rfl⟩ := e2
        obtain ⟨rfl, rfl⟩ := e3
        simp only [Nat.zero_add] at hk1 hk2 hk3
        rw [HK.out.pre j hlt] at hs2
        obtain ⟨d, hdd, hrep1⟩ := (hdR.below hb).len hs1
        obtain ⟨d', hdd', hrep2⟩ := (hd8.below hb).len hs2
        obtain rfl : d = d' := by rw [hdd] at hdd'; exact Option.some.inj hdd'
        obtain ⟨rfl, rfl, rfl, hbr2, hbr1⟩ := rep_agree hrep2 hrep1
        have hpn : pn'' ≤ 1048576 := (hdR.to_s HD.out) _ (List.mem_of_getElem? hs1)
        have hx : j < hs.length := by omega
        clear hs1 hs2 hdd hdd' hrep1 hrep2
        have g1 : (q2 != q2) = false := by simp
        have g2 : (pf'' != pf'') = false := by simp
        go_wp2
        go_quiet ((go_at_call 12; exact Calls.quiet_of (bytesEq_yes pa'' pa' pn'' pc'' pc' d.pay _ hbr2 hbr1 (by omega))))
        go_wp2
        go_roundw
        case rel =>
          obtain ⟨m, rfl⟩ := HM.out
          exact ⟨j + 1, by omega, by go_num, m + nq, by simp⟩
        case measure => simp [intOf]; omega
      · go_upto_if 143 with fail
        go_cut [] from 22 (fun wc => ∃ m, wc = wr.drewN m)
        case first =>
          by_cases hlen1 : hs.length = n + 1
          · have hC : ((hs.length : Int) == (n : Int) + 1) = true := by simp; omega
            obtain ⟨b1, o1, b2, o2, b3, o3, e1, e2, e3, q2, pa'', pn'', pc'', pf'', hs2, hk1, hk2, hk3⟩ := (hT7.below hb).at (show n < hs.length by omega)
            simp only [Option.some.injEq, Addr.mk.injEq, and_true] at e1 e2 e3
            obtain ⟨rfl, rfl⟩ := e1
            obtain ⟨rfl, rfl⟩ := e2
            obtain ⟨rfl, rfl⟩ := e3
            simp only [Nat.zero_add] at hk1 hk2 hk3
            rw [HK.out.last hlen1] at hs2
            simp only [Option.some.injEq, Seg.mk.injEq] at hs2
            obtain ⟨rfl, rfl, rfl, rfl, rfl⟩ := hs2
            have hx : n < hs.length := by omega
            have g1 : (q != q) = false := by simp
            have g2 : (pf != pf) = false := by simp
            have hbA := hpC.below hb
            have hbB := hpB.below hb
            clear hlen1
            go_wp2_with fail
            refine (bytesEq_yes _ _ pn _ _ zs _ hbA hbB (by omega)).mono ?_
            rintro e w' ⟨rfl, m, rfl⟩
            go_wp2_with fail
            go_meet
            case rel => exact ⟨m, rfl⟩
          · have hC : ((hs.length : Int) == (n : Int) + 1) = false := by simp; omega
            clear hlen1
            go_wp2_with fail
            go_meet
            case rel => exact ⟨0, rfl⟩
        case rest =>
          obtain ⟨m', hm'⟩ := hcut
          have hbY : Below w8.heap.size w8 wc := by rw [hm']; exact below_drewN hb _
          clear hm' hb HM
          go_wp2_with fail
          go_loop [20, 21] (fun fv i => ∃ k : Nat, k ≤ n ∧ i = .int .i64 k ∧ fv = .bool (freshB ssr k q)) (fun _ i => n - (intOf i).toNat)
          case atStart => exact ⟨0, Nat.zero_le _, rfl, rfl⟩
          case round =>
            obtain ⟨k, hk, rfl, rfl⟩ := hrel
            by_cases hlt2 : k < n
            · obtain ⟨b, off, rfl, q1, pa', pn', pc', pf', hs1, hc1, hc2, hc3⟩ := (hrR.below hbY).at hlt2
              have HS : Hid (ssr[k]? = some (Seg.mk q1 pa' pn' pc' pf')) := hs1
              clear hs1
              cases hqq : (q1 == q)
              · go_wp2
                go_round
                case rel => exact ⟨k + 1, by omega, by go_num, by rw [freshB_miss HS.out hqq]⟩
                case measure => simp [intOf]; omega
              · go_wp2
                go_round
                case rel => exact ⟨k + 1, by omega, by go_num, by rw [freshB_hit HS.out hqq]⟩
                case measure => simp [intOf]; omega
            · obtain rfl : k = n := by omega
              have hD : freshB ssr k q = true → ((hs.length : Int) != (k : Int) + 1) = false := by
                intro hf
                have := HK.out.fresh (fresh_other hdR hd8 (freshB_all hrR.1 hf))
                simp; omega
              have T1 := hT7.below hbY
              have T2 := hT8.below hbY
              have RH := hRH.below hbY
              have hbE := hb8.trans (hbY.mono hb8.size)
              cases hfr : freshB ssr k q
              all_goals
                try have hD' := hD hfr
                clear hD hT7 hT8 hRH hrR hdR hpB hpC hd8
                go_wp2_with fail
                refine (sameTriples_yes _ _ _ _ _ _ hs.length _ _ _ _ _ _ hs dsH _ T1 T2 RH (by omega) HBD.out).mono ?_
                rintro e w' ⟨rfl, m, rfl⟩
                go_wp2_with fail
                go_ret
                exact ⟨rfl, below_drewN hbE _⟩
end Go.Proofs.Qxb6617792a
