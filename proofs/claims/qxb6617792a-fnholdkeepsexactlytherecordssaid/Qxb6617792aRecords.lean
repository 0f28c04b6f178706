import Derived.Test.Qxb6617792aRecs
import Derived.Test.Qxb6617792aSame
namespace Go.Proofs.Qxb6617792a
open Go.RowKit

/-- Behind the append of one segment. -/
theorem own_push {B : Nat} {w wr w1 : World} {o : Obj} {a : Option Addr} {m c : Nat} {es : List Seg} {s : Seg} {v' : Value} (h : wr.ownsRow B 42 3 (.slice a m c) m (segV es)) (hb : Below B w wr) (hB : B ≤ wr.heap.size)
    (hown : w1.ownsRow B 42 3 v' (m + 1) (segV es ++ [s.sv, s.pv, s.fv])) (hg : (wr.alloc o).grownBy w1 (Value.slice a m c).ownBlock) :
    (∃ a' c', v' = .slice a' (m + 1) c' ∧ w1.ownsRow B 42 3 (.slice a' (m + 1) c') (m + 1) (segV (es ++ [s]))) ∧ Below B w w1 := by
  rw [← segV_snoc] at hown
  have hv : ∃ a' c', v' = .slice a' (m + 1) c' := by
    rcases hown.2 with ⟨_, h0⟩ | ⟨g, cap, cur, hv, _⟩
    · omega
    · exact ⟨_, _, hv⟩
  obtain ⟨a', c', rfl⟩ := hv
  exact ⟨⟨a', c', rfl, hown⟩, (hb.alloc (by omega) o).grown hg (by simp; omega) (fun k hk => ((h.alloc o).lt k hk).1)⟩

/-- 'exp := make([]Held, 0, n)'. -/
theorem make_exp (w : World) (n : Nat) (hn : n ≤ 1048576) :
    ∃ w1 a c, (Instr.makeSlice 31 (.int .i64 0) (.int .i64 (n : Int))).run Try.prog w = .ok (.slice a 0 c) w1 ∧ w1.ownsRow w.heap.size 42 3 (.slice a 0 c) 0 (segV []) ∧ Below w.heap.size w w1 := by
  obtain ⟨i0, hi, hz0, hz1, hz2⟩ := info_parts Try.info42
  obtain ⟨w1, hmk, hown, hgrow⟩ := run_make_own (P := Try.prog) w w.heap.size 31 42 i0 _ 3 Try.underlying31 hi hz0 hz1 .i64 .i64 n (by rw [hz2]; omega) (by unfold maxLen; omega) (Nat.le_refl _)
  exact ⟨w1, _, _, hmk, hown, (Below.refl _ _).grown hgrow (Nat.le_refl _) (by simp)⟩

theorem seg_news {w : World} {q : Int} {a : Option Addr} {n c : Nat} {f : Bool} : ∀ j u, [Value.int .u32 q, .slice a n c, .bool f][j]? = some u → (w.alloc (.cells #[.int .u32 q, .slice a n c, .bool f] 42)).cell? ((⟨w.heap.size, 0, none⟩ : Addr).add j) = some u := by
  intro j u hu
  exact World.news_of_block (Go.heap_alloc_new w _) j u (by simpa using hu)

set_option maxHeartbeats 4000000 in
set_option maxRecDepth 100000 in
theorem records_walk (a0 a1 : Option Addr) (n0 c0 n1 c1 : Nat) (s0 s1 : List Seg) (ds os : List DSeg) (w : World) (h0 : HRow w a0 n0 s0) (d0 : Reps w s0 ds) (h1 : HRow w a1 n1 s1) (d1 : Reps w s1 os) (hm0 : n0 ≤ maxLen) (hm1 : n1 ≤ maxLen) (hnil0 : a0 = none → n0 = 0 ∧ c0 = 0) (hnil1 : a1 = none → n1 = 0 ∧ c1 = 0) :
    Calls Try.prog 6 #[.slice a0 n0 c0, .slice a1 n1 c1] w fun e w' => e = .returned (.bool true) ∧ Below w.heap.size w w' := by
  have HN0 : Hid (a0 = none → n0 = 0 ∧ c0 = 0) := hnil0
  have HN1 : Hid (a1 = none → n1 = 0 ∧ c1 = 0) := hnil1
  clear hnil0 hnil1
  go_enter Try.func6, Try.ntmps6
  go_wp2_with fail
  refine (bytes17_any a0 a1 n0 c0 n1 c1 s0 s1 ds os _ h0 h1 d0 d1 hm0 hm1).mono ?_
  rintro e w' ⟨rfl, bb, rfl, hbb⟩
  cases bb
  · go_wp2_with fail
    go_ret
    exact ⟨rfl, Below.refl _ _⟩
  obtain ⟨hl0, hl1⟩ := hbb rfl
  clear hbb hm0 hm1
  by_cases hg0 : 4096 < n0
  · go_wp2_with fail
    go_ret
    exact ⟨rfl, Below.refl _ _⟩
  by_cases hg1 : 1024 < n1
  · go_wp2_with fail
    go_ret
    exact ⟨rfl, Below.refl _ _⟩
  go_wp2_with fail
  refine (addHeld_any 0 a0 n0 c0 s0 ds _ h0 d0 hl0 (by omega) (by omega)).mono ?_
  rintro e w' ⟨rfl, r, rfl, hr0, hrs⟩
  by_cases hr1 : 1048576 < r
  · go_wp2_with fail
    go_ret
    exact ⟨rfl, Below.refl _ _⟩
  have hall0 := hrs (by omega)
  have HA0 : Hid (∀ s ∈ s0, s.n ≤ 1048576) := hall0
  have HD0 : Hid (∀ d ∈ ds, d.pay.length ≤ 1048576) := d0.to_d hall0
  clear hrs hall0
  go_wp2_with fail
  refine (addHeld_any r a1 n1 c1 s1 os _ h1 d1 hl1 hr0 (by omega)).mono ?_
  rintro e w' ⟨rfl, r', rfl, hr0', hrs⟩
  by_cases hr2 : 1048576 < r'
  · go_wp2_with fail
    go_ret
    exact ⟨rfl, Below.refl _ _⟩
  have hall1 := hrs (by omega)
  have HA1 : Hid (∀ s ∈ s1, s.n ≤ 1048576) := hall1
  have HD1 : Hid (∀ d ∈ os, d.pay.length ≤ 1048576) := d1.to_d hall1
  clear hrs hall1 hr0 hr0'
  go_wp2_with fail
  refine (copyHeld_any a0 n0 c0 s0 ds _ h0 d0 hl0 HA0.out HN0.out).mono ?_
  rintro e w1 ⟨⟨a2, c2, ssr, rfl, hR, dR, nR⟩, hb1⟩
  have HNR : Hid (a2 = none → n0 = 0 ∧ c2 = 0) := nR
  have h1 := h1.below hb1
  have d1 := d1.below hb1
  clear h0 d0 nR
  go_wp2_with fail
  refine (copyHeld_any a1 n1 c1 s1 os _ h1 d1 hl1 HA1.out HN1.out).mono ?_
  rintro e w2 ⟨⟨a3, c3, sso, rfl, hO, dO, nO⟩, hb2⟩
  have HNO : Hid (a3 = none → n1 = 0 ∧ c3 = 0) := nO
  have hR := hR.below hb2
  have dR := dR.below hb2
  have hb2 := hb1.trans (hb2.mono hb1.size)
  clear h1 d1 nO hb1
  go_wp2_with fail
  refine (copyHeld_any a2 n0 c2 ssr ds _ hR dR hl0 (dR.to_s HD0.out) HNR.out).mono ?_
  rintro e w3 ⟨⟨a4, c4, ss0, rfl, h4, d4, _⟩, hb3⟩
  have hR := hR.below hb3
  have dR := dR.below hb3
  have hO := hO.below hb3
  have dO := dO.below hb3
  have hb3 := hb2.trans (hb3.mono hb2.size)
  clear hb2
  go_wp2_with fail
  refine (splitHeld_any a4 n0 c4 ss0 _ h4 hl0).mono ?_
  rintro e w4 ⟨⟨g1, g2, g3, rfl, hT⟩, hb4⟩
  have hR := hR.below hb4
  have dR := dR.below hb4
  have hO := hO.below hb4
  have dO := dO.below hb4
  have d4 := d4.below hb4
  have hb4 := hb3.trans (hb4.mono hb3.size)
  clear hb3 h4
  go_wp2_with fail
  refine (copyHeld_any a3 n1 c3 sso os _ hO dO hl1 (dO.to_s HD1.out) HNO.out).mono ?_
  rintro e w5 ⟨⟨a5, c5, ssg, rfl, hG, dG, _⟩, hb5⟩
  have hR := hR.below hb5
  have dR := dR.below hb5
  have hO := hO.below hb5
  have dO := dO.below hb5
  have d4 := d4.below hb5
  have hT := hT.below hb5
  have hb5 := hb4.trans (hb5.mono hb4.size)
  clear hb4
  have HB : Hid (Below w.heap.size w w5) := hb5
  have HT : Hid (TRow w5 (some ⟨g1, 0, none⟩) (some ⟨g2, 0, none⟩) (some ⟨g3, 0, none⟩) n0 ss0) := hT
  have HD4 : Hid (Reps w5 ss0 ds) := d4
  clear hb5 hT d4
  go_wp2_with fail
  go_loopw [6, 7, 8, 10] (fun v1 v2 v3 i wr => ∃ (k f1 f2 f3 m : Nat) (hs : List Seg), k ≤ n1 ∧ i = .int .i64 k ∧ v1 = .slice (some ⟨f1, 0, none⟩) m m ∧ v2 = .slice (some ⟨f2, 0, none⟩) m m ∧ v3 = .slice (some ⟨f3, 0, none⟩) m m ∧
      TRow wr (some ⟨f1, 0, none⟩) (some ⟨f2, 0, none⟩) (some ⟨f3, 0, none⟩) m hs ∧ Reps wr hs (recs ds os k) ∧ Below w5.heap.size w5 wr) (fun _ _ _ i _ => n1 - (intOf i).toNat)
  case atStart => exact ⟨0, g1, g2, g3, n0, ss0, Nat.zero_le _, rfl, rfl, rfl, rfl, HT.out, HD4.out, Below.refl _ _⟩
  case round =>
    clear HT HD4
    obtain ⟨k, f1, f2, f3, m, hs, hk, rfl, rfl, rfl, rfl, hTT, dH, hb⟩ := hrel
    have hml : m ≤ 5120 := by have := hTT.1; have := dH.1; have := recs_len ds os k; have := dR.1; have := hR.1; omega
    by_cases hlt : k < n1
    · obtain ⟨b, off, rfl, q, pa, pn, pc, pf, hsk, hc1, hc2, hc3⟩ := (hG.below hb).at hlt
      obtain ⟨d, hdk, hrep⟩ := (dG.below hb).len hsk
      have hpn : pn ≤ 1048576 := (dG.to_s HD1.out) _ (List.mem_of_getElem? hsk)
      have HDK : Hid (os[k]? = some d) := hdk
      have hall := dH.to_s (recs_bd HD0.out HD1.out k)
      have HALL : Hid (∀ s ∈ hs, s.n ≤ 1048576) := hall
      clear hsk hdk hall
      go_wp2
      go_region_held3 (fun w' => w'.cell? ⟨b, off + k * 3, none⟩ = some (.int .u32 q) ∧ w'.cell? ⟨b, off + k * 3 + 1, none⟩ = some (.slice pa pn pc) ∧ w'.cell? ⟨b, off + k * 3 + 2, none⟩ = some (.bool pf)) (first | exact ⟨hc1, hc2, hc3⟩ | exact ⟨kc1, kc2, kc3⟩)
        ((go_at_call 21; refine (holdInto_any (some ⟨f1, 0, none⟩) (some ⟨f2, 0, none⟩) (some ⟨f3, 0, none⟩) m m m m hs q pa pn pc pf wr.drew hTT (by omega) HALL.out hpn).mono ?_; rintro e wn ⟨⟨j1, j2, j3, rfl, hTn⟩, hbn'⟩; have hbn := below_of_drew hbn'; have kc1 := cell_later hbn hc1; have kc2 := cell_later hbn hc2; have kc3 := cell_later hbn hc3))
      go_wp2
      go_roundw
      case rel =>
        exact ⟨k + 1, j1, j2, j3, _, holdL hs (Seg.mk q pa pn pc pf), by omega, by go_num, rfl, rfl, rfl, hTn, by rw [recs_step HDK.out]; exact reps_hold (dH.below hbn) (hrep.below hbn) HALL.out hpn, hb.trans (hbn.mono hb.size)⟩
      case measure => simp [intOf]; omega
    · obtain rfl : k = n1 := by omega
      have hR := hR.below hb
      have dR := dR.below hb
      have hO := hO.below hb
      have dO := dO.below hb
      have HBr : Hid (Below w.heap.size w wr) := HB.out.trans (hb.mono HB.out.size)
      have HRs : Hid (∀ t ∈ ssr, t.n ≤ 1048576) := dR.to_s HD0.out
      have HOs : Hid (∀ t ∈ sso, t.n ≤ 1048576) := dO.to_s HD1.out
      obtain ⟨wm, am, cm, hmk, hown0, hbm⟩ := make_exp wr (n0 + k) (by omega)
      rw [show ((n0 + k : Nat) : Int) = (n0 : Int) + k by omega] at hmk
      clear hb hG dG HB
      go_wp2_with fail
      clear hmk
      obtain ⟨i0, hi, hz0, hz1, hz2⟩ := info_parts Try.info42
      obtain ⟨wl, hwl⟩ : ∃ wl, wl = wr := ⟨_, rfl⟩
      rw [← hwl] at hTT dH hR dR hO dO HBr hown0 hbm
      clear hwl
      go_loopw [11, 12] (fun v i wr => ∃ (j : Nat) (a : Option Addr) (c : Nat), j ≤ n0 ∧ i = .int .i64 j ∧ v = .slice a j c ∧ wr.ownsRow wl.heap.size 42 3 (.slice a j c) j (segV (headS ssr j)) ∧ Below wl.heap.size wl wr) (fun _ i _ => n0 - (intOf i).toNat)
      case atStart => exact ⟨0, am, cm, Nat.zero_le _, rfl, rfl, hown0, hbm⟩
      case round =>
        clear hown0 hbm
        obtain ⟨j, a, c, hj, rfl, rfl, hown, hb⟩ := hrel
        by_cases hlt2 : j < n0
        · obtain ⟨b, off, rfl, q, pa, pn, pc, pf, hsj, hc1, hc2, hc3⟩ := (hR.below hb).at hlt2
          have HS : Hid (ssr[j]? = some (Seg.mk q pa pn pc pf)) := hsj
          clear hsj
          go_wp2_with (at_builtin; refine wpList_append_own _ rfl _ _ 31 rfl wl.heap.size 42 i0 (.agg #[.int .u32 0, .slice none 0 0, .bool false]) 3 40 Try.underlying31 hi hz0 hz1 hz2 rfl (by decide) _ _ _ rfl (hown.alloc _) ⟨wr.heap.size, 0, none⟩ 1 1 [.int .u32 q, .slice pa pn pc, .bool pf] rfl rfl ?c1 ?c2 ?c3 ?c4 ?c5 ?_)
          case c1 => exact seg_news
          case c2 => exact seg_oneCell _ _ _ _ _
          case c3 => unfold maxLen; omega
          case c4 => omega
          case c5 => have := hb.size; simp; omega
          intro v' w1 hown' hgrow _
          obtain ⟨⟨a', c', rfl, hown2⟩, hb2⟩ := own_push (s := Seg.mk q pa pn pc pf) hown hb hb.size hown' hgrow
          clear hown' hgrow hown hb hc1 hc2 hc3
          go_wp2
          go_roundw
          case rel => exact ⟨j + 1, a', c', by omega, by go_num, rfl, by rw [headS_step HS.out]; exact hown2, hb2⟩
          case measure => simp [intOf]; omega
        · obtain rfl : j = n0 := by omega
          rw [headS_all (by have := hR.1; omega)] at hown
          have hlr := hR.1
          have hds : ds.length = j := by have := dR.1; omega
          have HDS : Hid (ds.length = j) := hds
          clear hlr hds
          go_wp2
          go_loopw [11, 13] (fun v i wr => ∃ (l m : Nat) (a : Option Addr) (c : Nat) (es : List Seg), l ≤ k ∧ i = .int .i64 l ∧ v = .slice a m c ∧ wr.ownsRow wl.heap.size 42 3 (.slice a m c) m (segV es) ∧ Reps wl es (exps ds os l) ∧ Below wl.heap.size wl wr) (fun _ i _ => k - (intOf i).toNat)
          case atStart => exact ⟨0, j, a, c, ssr, Nat.zero_le _, rfl, rfl, hown, dR, hb⟩
          case round =>
            clear hown hb
            obtain ⟨l, m', a, c, es, hl, rfl, rfl, hown, dE, hb⟩ := hrel
            have hml' : m' ≤ 5120 := by
              have h1 := hown.1
              rw [segV_len] at h1
              have := dE.1
              rw [← recs_eq] at this
              have := recs_len ds os l
              have := HDS.out
              omega
            by_cases hlt3 : l < k
            · obtain ⟨b, off, rfl, q, pa, pn, pc, pf, hsl, _⟩ := (hO.below hb).at hlt3
              obtain ⟨d, hdl, hrep⟩ := dO.len hsl
              have HS : Hid (sso[l]? = some (Seg.mk q pa pn pc pf)) := hsl
              have HDL : Hid (os[l]? = some d) := hdl
              have hcv : covS ssr sso l (Seg.mk q pa pn pc pf) = covD ds os l d := covS_rep dR dO hrep l
              have HCV : Hid (covS ssr sso l (Seg.mk q pa pn pc pf) = covD ds os l d) := hcv
              clear hsl hdl hcv
              cases hco : covS ssr sso l (Seg.mk q pa pn pc pf)
              · have HX : Hid (exps ds os (l + 1) = exps ds os l ++ [d]) := by
                  show exps ds os (l + 1) = _
                  rw [exps_step HDL.out, ← HCV.out, hco]; rfl
                go_wp2_with fail
                refine (coveredBefore_any a2 (some ⟨b, off, none⟩) j c2 k c3 l ssr sso (Seg.mk q pa pn pc pf) _ (hR.below hb) (hO.below hb) hlt3 HS.out (by omega) (by omega) HRs.out HOs.out).mono ?_
                rintro e wy ⟨rfl, q', hwy⟩
                have hownY : wy.ownsRow wl.heap.size 42 3 (.slice a m' c) m' (segV es) := by rw [hwy]; exact hown
                have hbY : Below wl.heap.size wl wy := by rw [hwy]; exact below_drewN hb _
                rw [hco]
                clear hwy hown hb
                obtain ⟨b', off', e0, q1, pa1, pn1, pc1, pf1, hs1, hc1, hc2, hc3⟩ := (hO.below hbY).at hlt3
                simp only [Option.some.injEq, Addr.mk.injEq, and_true] at e0
                obtain ⟨rfl, rfl⟩ := e0
                rw [HS.out] at hs1
                simp only [Option.some.injEq, Seg.mk.injEq] at hs1
                obtain ⟨rfl, rfl, rfl, rfl, rfl⟩ := hs1
                go_wp2_with (at_builtin; refine wpList_append_own _ rfl _ _ 31 rfl wl.heap.size 42 i0 (.agg #[.int .u32 0, .slice none 0 0, .bool false]) 3 40 Try.underlying31 hi hz0 hz1 hz2 rfl (by decide) _ _ _ rfl (hownY.alloc _) ⟨wy.heap.size, 0, none⟩ 1 1 [.int .u32 q, .slice pa pn pc, .bool pf] rfl rfl ?c1 ?c2 ?c3 ?c4 ?c5 ?_)
                case c1 => exact seg_news
                case c2 => exact seg_oneCell _ _ _ _ _
                case c3 => unfold maxLen; omega
                case c4 => omega
                case c5 => have := hbY.size; simp; omega
                intro v' w1 hown' hgrow _
                obtain ⟨⟨a', c', rfl, hown2⟩, hb2⟩ := own_push (s := Seg.mk q pa pn pc pf) hownY hbY hbY.size hown' hgrow
                clear hown' hgrow hownY hbY hc1 hc2 hc3
                go_wp2
                go_roundw
                case rel => exact ⟨l + 1, m' + 1, a', c', es ++ [Seg.mk q pa pn pc pf], by omega, by go_num, rfl, hown2, by rw [HX.out]; exact dE.push hrep, hb2⟩
                case measure => simp [intOf]; omega
              · have HX : Hid (exps ds os (l + 1) = exps ds os l) := by
                  show exps ds os (l + 1) = _
                  rw [exps_step HDL.out, ← HCV.out, hco]; rfl
                go_wp2_with fail
                refine (coveredBefore_any a2 (some ⟨b, off, none⟩) j c2 k c3 l ssr sso (Seg.mk q pa pn pc pf) _ (hR.below hb) (hO.below hb) hlt3 HS.out (by omega) (by omega) HRs.out HOs.out).mono ?_
                rintro e wy ⟨rfl, q', hwy⟩
                have hownY : wy.ownsRow wl.heap.size 42 3 (.slice a m' c) m' (segV es) := by rw [hwy]; exact hown
                have hbY : Below wl.heap.size wl wy := by rw [hwy]; exact below_drewN hb _
                rw [hco]
                clear hwy hown hb
                go_wp2
                go_roundw
                case rel => exact ⟨l + 1, m', a, c, es, by omega, by go_num, rfl, hownY, by rw [HX.out]; exact dE, hbY⟩
                case measure => simp [intOf]; omega
            · obtain rfl : l = k := by omega
              rw [← recs_eq] at dE
              have hlenE : m' = m := by
                have h1 := hown.1
                rw [segV_len] at h1
                have := dE.1
                have := dH.1
                have := hTT.1
                omega
              subst hlenE
              have hE := hrow_of_owns hown
              have hT' := hTT.below hb
              have dH' := dH.below hb
              have dE' := dE.below hb
              have HBz : Hid (Below w.heap.size w wr) := HBr.out.trans (hb.mono HBr.out.size)
              clear hown hb hTT dH dE
              go_wp2_with fail
              refine (sameAsHeld_yes _ _ _ a m' _ _ _ c hs es (recs ds os l) _ hT' hE dH' dE' (by omega) (recs_bd HD0.out HD1.out l)).mono ?_
              rintro e wz ⟨rfl, mz, rfl⟩
              go_wp2_with fail
              go_ret
              exact ⟨rfl, below_drewN HBz.out _⟩
end Go.Proofs.Qxb6617792a
