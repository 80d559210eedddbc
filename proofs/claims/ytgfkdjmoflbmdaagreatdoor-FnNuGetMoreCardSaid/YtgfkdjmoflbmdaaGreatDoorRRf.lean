/- Contract: divBasic. -/
import Derived.Test.YtgfkdjmoflbmdaaGreatDoorRSbxRfe
namespace Go.Proofs.YtgfkdjmoflbmdaaGreatDoor
open Go.RowKit
open Go.Proofs
set_option maxRecDepth 100000 in
set_option maxHeartbeats 16000000 in
theorem divBasic_any (p : Nat) (q : Option Nat) (A : Option Addr) (ns c bq oq Nq cq bu ou Nu cu bv ov cv n m lu : Nat) (qs us vs : List Nat) (w : World) (hS : StkAt w p q A ns c) (h : DivIn w A ns bq oq Nq bu ou Nu bv ov qs us vs)
    (hv : vs.length = n) (hu : us.length = lu) (hlu : lu = m + n) (hcu : lu ≤ cu) (hk : lu ≤ 400) (hn4 : 4 ≤ n) (hlq : qs.length ≤ 1000) (hns : ns ≤ 100000) (hnorm : M ≤ 2 * vs.getD (n - 1) 0)
    (hq1 : qs.length = m ∧ Pl.val M (us.drop m) < Pl.val M vs ∨ m < qs.length) (hq2 : Pl.val M (qs.drop (m + 1)) = 0) :
    Calls Tryz.prog 239 #[.slice (some ⟨bq, oq, none⟩) qs.length cq, .pointer (some ⟨p, 0, none⟩), .slice (some ⟨bu, ou, none⟩) lu cu, .slice (some ⟨bv, ov, none⟩) n cv] w (DivBack w p q A ns bq oq qs.length bu ou us vs) := by
  have HSV := Lib.hid (save_any p q A ns c w hS)
  have HNT := Lib.hid (stkNat_any p q A ns c (n + 1) w hS (by omega) (by omega) hns)
  have HIN := Lib.hid h
  have cvn := h.atv (n - 1) (by omega)
  have hvn : vs[n - 1]'(by omega) = vs.getD (n - 1) 0 := by simp [List.getD_eq_getElem?_getD, show n - 1 < vs.length from by omega]
  rw [hvn] at cvn
  have hyM : vs.getD (n - 1) 0 < M := by rw [← hvn]; exact h.vlt _ (List.getElem_mem _)
  obtain ⟨y1, hy1⟩ : ∃ y, vs.getD (n - 1) 0 = y := ⟨_, rfl⟩
  rw [hy1] at cvn hyM hnorm
  have hr1 : 2 ^ 63 ≤ y1 * 2 ^ 0 := by rw [Nat.pow_zero, Nat.mul_one]; rw [M_eq] at hnorm; omega
  have hr2 : y1 * 2 ^ 0 < M := by rw [Nat.pow_zero, Nat.mul_one]; exact hyM
  have h064 : 0 < 64 := by decide
  have HRC := Lib.hid (fun W => recip_any y1 0 W h064 hr1 hr2)
  have HDW := Lib.hid (fun x1 x0 W (k1 : x1 < y1) (k2 : x0 < M) => divWW_any x1 x0 y1 0 W h064 hr1 hr2 k1 k2)
  generalize Pl.recip M (y1 * 2 ^ 0) = rc at HRC HDW
  have i1 : IntKind.i64.wrap ((lu : Int) - (n : Int)) = (m : Int) := by rw [IntWalk.i64_in _ (by omega)]; omega
  have i2 : IntKind.i64.wrap ((n : Int) - 1) = ((n - 1 : Nat) : Int) := by rw [IntWalk.i64_in _ (by omega)]; omega
  have i3 : IntKind.i64.wrap ((n : Int) - 2) = ((n - 2 : Nat) : Int) := by rw [IntWalk.i64_in _ (by omega)]; omega
  have HV := Lib.hid hv
  have HU := Lib.hid hu
  have HLU := Lib.hid hlu
  have HY1 := Lib.hid hy1
  have hn1 : n - 1 < n := by omega
  have hmlu : m ≤ lu := by omega
  have hnlu : n ≤ lu := by omega
  have HS := Lib.hid hS
  clear h hv hu hlu hvn hy1 hr1 hr2 h064 hS
  go_enter_defers Tryz.func239, Tryz.ntmps239
  go_wp2_with fail
  refine HSV.out.mono ?_; rintro e w1 ⟨rfl, rfl⟩
  go_wp2_with fail
  refine HNT.out.mono ?_; rintro e w2 ⟨g, c', q', rfl, hAg, hgk, hS2, hgA, hqq, hch⟩
  obtain ⟨Nv, harrv⟩ := HIN.out.arrv
  have hw2v : WAt w2 bv ov vs := stk_keeps HS.out hch harrv HIN.out.atv HIN.out.sv
  have hw2u : WAt w2 bu ou us := stk_keeps HS.out hch HIN.out.arru HIN.out.atu HIN.out.su
  have hw2q : WAt w2 bq oq qs := stk_keeps HS.out hch HIN.out.arrq HIN.out.atq HIN.out.sq
  have dgu : bu ≠ g ∨ ou + us.length ≤ ns := by
    rcases hgA with h | h
    · by_cases e : bu = g
      · subst e; exact Or.inr (HIN.out.su h)
      · exact Or.inl e
    · left; have := HIN.out.arru.lt; omega
  have dgq : bq ≠ g ∨ oq + qs.length ≤ ns := by
    rcases hgA with h | h
    · by_cases e : bq = g
      · subst e; exact Or.inr (HIN.out.sq h)
      · exact Or.inl e
    · left; have := HIN.out.arrq.lt; omega
  have dgv : bv ≠ g ∨ ov + vs.length ≤ ns := by
    rcases hgA with h | h
    · by_cases e : bv = g
      · subst e; exact Or.inr (HIN.out.sv h)
      · exact Or.inl e
    · left; have := harrv.lt; omega
  have har2u := hch.arr _ _ HIN.out.arru
  have har2q := hch.arr _ _ HIN.out.arrq
  have cvn2 := hw2v (n - 1) (by rw [HV.out]; omega)
  rw [show vs[n - 1]'(by rw [HV.out]; omega) = y1 from by rw [← HY1.out]; simp [List.getD_eq_getElem?_getD, show n - 1 < vs.length from by rw [HV.out]; omega]] at cvn2
  go_wp2_with fail
  refine (HRC.out _).mono ?_; rintro e w3 ⟨rfl, hb3⟩
  have hw3v := hw2v.below hb3
  have hw3u := hw2u.below hb3
  have hw3q := hw2q.below hb3
  have har3u := har2u.below hb3
  have har3q := har2q.below hb3
  have har3g := hAg.below hb3
  have hV1 : M ^ (n - 1) ≤ Pl.val M vs := by
    have h1 := val_ge_top M vs (n - 1) (by rw [HV.out]; omega)
    rw [HY1.out] at h1
    have hy0 : 1 ≤ y1 := by rw [M_eq] at hnorm; omega
    exact Nat.le_trans (Nat.le_mul_of_pos_left _ hy0) h1
  have hVp : 0 < Pl.val M vs := Nat.lt_of_lt_of_le (Nat.pow_pos M_pos) hV1
  have hstart : Pl.KInv M us vs (m + 1) us qs := by
    have hlt : Pl.val M (us.drop (m + 1)) < Pl.val M vs := by
      refine Nat.lt_of_lt_of_le (Pl.val_lt M _ (fun d hd => HIN.out.ult d (List.mem_of_mem_drop hd))) (Nat.le_trans (Nat.pow_le_pow_right M_pos ?_) hV1)
      rw [List.length_drop, HU.out, HLU.out]; omega
    refine ⟨rfl, HIN.out.ult, HIN.out.qlt, rfl, ?_, (Nat.mod_eq_of_lt hlt).symm, by rw [hq2, Nat.div_eq_of_lt hlt]⟩
    rw [List.drop_of_length_le (by rw [HU.out, HV.out, HLU.out]; omega)]
    intro d hd; cases hd
  have HST := Lib.hid hstart
  have HVP := Lib.hid hVp
  have HQ1 := Lib.hid hq1
  have HW := Lib.hid (And.intro hw3v (And.intro hw3u (And.intro hw3q (And.intro har3u (And.intro har3q har3g)))))
  have HD := Lib.hid (And.intro dgu (And.intro dgq dgv))
  have HCH := Lib.hid (And.intro hch (And.intro hb3 (And.intro hgA hqq)))
  have HS2 := Lib.hid hS2
  clear hw3v hw3u hw3q har3u har3q har3g hw2v hw2u hw2q har2u har2q hV1 hVp hstart hq1 hq2 dgu dgq dgv hch hb3 hgA hqq hAg hS2 harrv cvn2 cvn
  go_wp2_with fail
  go_loopw [13, 14, 15, 16, 17, 18, 19, 20, 21, 22, 23] (fun uv jv _ _ _ _ _ _ _ _ _ wr => ∃ (i x : Nat) (us' qs' : List Nat), i ≤ m + 1 ∧ uv = .int .u64 (x : Int) ∧ jv = .int .i64 ((i : Int) - 1) ∧ (0 < i → x = us'.getD (i - 1 + n) 0) ∧ qs'.length = qs.length ∧ Pl.KInv M us vs i us' qs' ∧
    WAt wr bu ou us' ∧ WAt wr bq oq qs' ∧ WAt wr bv ov vs ∧ Arr wr bu Nu ∧ Arr wr bq Nq ∧ Arr wr g c' ∧ Chg w3 wr (DivS bq oq qs.length bu ou lu g ns (n + 1))) (fun _ jv _ _ _ _ _ _ _ _ _ _ => (intOf jv + 1).toNat)
  case atStart =>
    obtain ⟨k1, k2, k3, k4, k5, k6⟩ := HW.out
    exact ⟨m + 1, 0, us, qs, Nat.le_refl _, rfl, by (congr 1; omega), fun _ => by rw [List.getD_eq_getElem?_getD, List.getElem?_eq_none (by rw [HU.out, HLU.out]; omega)]; rfl, rfl, HST.out, k2, k3, k1, k4, k5, k6, Chg.refl _ _⟩
  case round =>
    obtain ⟨i, x, us', qs', hi, rfl, rfl, hx, hql, hK, hau, haq, hav, hru, hrq, hrg, hcg⟩ := hrel
    rcases Nat.eq_zero_or_pos i with hi0 | hi0
    · subst hi0
      have hfin : ∃ Ne, CallsD Tryz.prog 231 #[.pointer (some ⟨p, 0, none⟩), .int .i64 (ns : Int)] .returning wr Ne ∧ ∀ e u' w', Ne e u' w' → u' = FrameMode.returning ∧ e = .returned (.tuple #[]) ∧ DivBack w p q A ns bq oq qs.length bu ou us vs (.returned (.tuple #[])) w' := by
        obtain ⟨hch, hb3, hgA, hqq⟩ := HCH.out
        have hS3 := (HS2.out.below hb3).chg hcg (fun b off h => by
          obtain ⟨_, _, _, k4, k5, k6⟩ := HW.out
          rcases h with h | h | h
          · exact ⟨_, h.1 ▸ k6⟩
          · exact ⟨_, h.1 ▸ k4⟩
          · exact ⟨_, h.1 ▸ k5⟩)
        refine ⟨_, restoreD_any p (some q') (some ⟨g, 0, none⟩) _ c' ns .returning wr hS3 (by omega), ?_⟩
        rintro e u' w' ⟨rfl, rfl, hS4, hch4⟩
        refine ⟨rfl, rfl, rfl, us', qs', q', g, c', hK, hql, ?_, ?_, hS4, hgA, hqq, ?_⟩
        · exact hch4.at hau (fun j hj h => hS3.2.inner.not_arr (by decide) hru (Option.some.inj h.1).symm)
        · exact hch4.at haq (fun j hj h => hS3.2.inner.not_arr (by decide) hrq (Option.some.inj h.1).symm)
        · have hc1 : Chg w w3 (DivCh p q A ns bq oq qs.length bu ou us.length) := by
            refine hch.trans (Chg.of_below hb3 (fun _ _ => False)) (fun b off h => ?_) (fun b off _ h => h.elim)
            rcases h with h | h | h
            · exact Or.inl h
            · exact Or.inr (Or.inl h)
            · exact Or.inr (Or.inr (Or.inl ⟨h.1, by omega⟩))
          refine (hc1.trans hcg (fun _ _ h => h) (fun b off hl h => ?_)).trans hch4 (fun _ _ h => h) (fun b off hl h => ?_)
          · rcases h with h | h | h
            · rcases hgA with h2 | h2
              · exact Or.inr (Or.inr (Or.inl ⟨by rw [h.1]; exact h2, h.2.1⟩))
              · have := h.1; omega
            · exact Or.inr (Or.inr (Or.inr (Or.inl ⟨h.1, h.2.1, by have := HU.out; omega⟩)))
            · exact Or.inr (Or.inr (Or.inr (Or.inr h)))
          · rcases hqq with h2 | ⟨_, h2⟩
            · exact Or.inr (Or.inl (h2.trans h.1))
            · have := Option.some.inj h.1; omega
      have HFIN := Lib.hid hfin
      clear hfin
      go_wp2
      obtain ⟨Ne, hN1, hN2⟩ := HFIN.out
      refine leaves_cons (f := 231) (args := #[.pointer (some ⟨p, 0, none⟩), .int .i64 (ns : Int)]) (by simp) (by simp [go_sem]) ?_
      refine hN1.mono ?_
      intro e u' w' hN
      obtain ⟨rfl, rfl, hD⟩ := hN2 e u' w' hN
      exact ⟨_, results_none rfl _ _ _, hD⟩
    · obtain ⟨j, rfl⟩ : ∃ j, i = j + 1 := ⟨i - 1, by omega⟩
      have hji : ((j + 1 : Nat) : Int) - 1 = (j : Int) := by omega
      rw [hji]
      have hjm : j ≤ m := by omega
      obtain ⟨kk, hkk⟩ : ∃ kk, n = kk + 2 := ⟨n - 2, by omega⟩
      have hlen : (us'.drop j).length = lu - j := by rw [List.length_drop, hK.lu, HU.out]
      have hzer : ∀ d ∈ (us'.drop j).drop (kk + 3), d = 0 := by
        have := hK.zer
        rw [HV.out] at this
        rw [List.drop_drop, show j + (kk + 3) = j + 1 + n from by omega]
        exact this
      have hseg := Pl.val_seg (b := M) (l := us'.drop j) (k := kk) (by rw [hlen, HLU.out]; omega) hzer
      have hgd : ∀ t, (us'.drop j).getD t 0 = us'.getD (j + t) 0 := by intro t; simp [List.getD_eq_getElem?_getD, List.getElem?_drop]
      rw [hgd, hgd, hgd] at hseg
      have hxx := hx (by omega)
      rw [show j + 1 - 1 + n = j + (kk + 2) from by omega] at hxx
      rw [← hxx] at hseg
      obtain ⟨a0, ha0⟩ : ∃ a, us'.getD (j + kk) 0 = a := ⟨_, rfl⟩
      obtain ⟨a1, ha1⟩ : ∃ a, us'.getD (j + (kk + 1)) 0 = a := ⟨_, rfl⟩
      rw [ha0, ha1] at hseg
      have hyy : vs.getD (kk + 1) 0 = y1 := by rw [← HY1.out]; congr 1; omega
      obtain ⟨y0, hy0⟩ : ∃ y, vs.getD kk 0 = y := ⟨_, rfl⟩
      have hvs := Pl.split2 (l := vs) (k := kk) (by rw [HV.out, hkk])
      rw [hyy, hy0] at hvs
      have hvv : Pl.val M vs = Pl.val M (vs.take kk ++ [y0, y1]) := congrArg (Pl.val M) hvs
      have hltN := hK.lt (by rw [HU.out, HLU.out]; omega) HVP.out M_pos
      have hxM : x < M := by rw [hxx]; exact getD_lt hK.ult _
      have ha0M : a0 < M := by rw [← ha0]; exact getD_lt hK.ult _
      have ha1M : a1 < M := by rw [← ha1]; exact getD_lt hK.ult _
      have hy0M : y0 < M := by rw [← hy0]; exact getD_lt HIN.out.vlt _
      have hguess := Pl.digit_guess (b := M) (k := kk) (lo := (us'.drop j).take kk) (vlo := vs.take kk) (a0 := a0) (a1 := a1) (a2 := x) (y0 := y0) (y1 := y1) (by rw [List.length_take, hlen, HLU.out]; omega) (by rw [List.length_take, HV.out]; omega)
        (fun d hd => hK.ult d (List.mem_of_mem_drop (List.mem_of_mem_take hd))) (fun d hd => HIN.out.vlt d (List.mem_of_mem_take hd)) ha0M ha1M hy0M M_two hnorm (by rw [← hseg, ← hvv]; exact hltN)
      rw [← hseg, ← hvv] at hguess
      obtain ⟨Q, hQ⟩ : ∃ Q, Pl.val M (us'.drop j) / Pl.val M vs = Q := ⟨_, rfl⟩
      rw [hQ] at hguess
      obtain ⟨G1, G2, G3⟩ := hguess
      have cy0 := hav.getD (i := n - 2) (by rw [HV.out]; omega)
      rw [show n - 2 = kk from by omega, hy0] at cy0
      have ca1 := hau.getD (i := j + (kk + 1)) (by rw [hK.lu, HU.out, HLU.out]; omega)
      rw [ha1] at ca1
      have ca0 := hau.getD (i := j + kk) (by rw [hK.lu, HU.out, HLU.out]; omega)
      rw [ha0] at ca0
      have hx00 : m ≤ j → x = 0 := fun h => by rw [hxx, List.getD_eq_getElem?_getD, List.getElem?_eq_none (by rw [hK.lu, HU.out, HLU.out]; omega)]; rfl
      have HX0 := Lib.hid hx00
      clear hx00
      have HK := Lib.hid hK
      have HQ := Lib.hid hQ
      have HKK := Lib.hid hkk
      have HZER := Lib.hid hzer
      have HA := Lib.hid (And.intro hau (And.intro haq (And.intro hav (And.intro hru (And.intro hrq (And.intro hrg hcg))))))
      have HG2 := Lib.hid G2
      have HG3 := Lib.hid G3
      have HQL := Lib.hid hql
      have i4 : IntKind.i64.wrap ((j : Int) + (n : Int) - 1) = ((j + (kk + 1) : Nat) : Int) := by rw [IntWalk.i64_in _ (by omega)]; omega
      have i5 : IntKind.i64.wrap ((j : Int) + (n : Int) - 2) = ((j + kk : Nat) : Int) := by rw [IntWalk.i64_in _ (by omega)]; omega
      have i6 : IntKind.i64.wrap ((n : Int) - 2) = (kk : Int) := by rw [IntWalk.i64_in _ (by omega)]; omega
      have b1 : j + (kk + 1) < lu := by have := HLU.out; omega
      have b2 : j + kk < lu := by omega
      have b3 : kk < n := by omega
      clear hK hx hxx hau haq hav hru hrq hrg hcg hlen hzer hseg hgd ha0 ha1 hyy hy0 hvs hvv hltN hQ hkk G2 G3 hql hji i3
      obtain ⟨w4, hw4⟩ : ∃ w4, w4 = wr := ⟨_, rfl⟩
      subst hw4
      go_upto_if 51 with fail
      go_cut [15] from 45 to 200 (fun qv wx => ∃ qh : Nat, qv = .int .u64 (qh : Int) ∧ qh < M ∧ Q ≤ qh ∧ qh ≤ Q + 1 ∧ (x = 0 → qh ≤ 1) ∧ w4 = wx)
      case first =>
        refine wp_code (c' := (Tryz.f239.body.bind (condOf 51)).getD .skip) (by kernel_rfl) ?_
        refine divGuess bu ou lu cu bv ov n cv j kk x y1 y0 a1 a0 rc Q w4 _ hnorm hyM ha0M ha1M hy0M HDW G1 HG2 HG3 cy0 ca1 ca0 i4 i5 i6 b1 b3 (by omega) (by omega) ?_
        intros
        rename_i h1 h2 h3 h4
        have HH := Lib.hid (And.intro h1 (And.intro h2 (And.intro h3 h4)))
        clear h1 h2 h3 h4
        go_wp2
        go_meet
        case rel => exact ⟨_, rfl, HH.out.1, HH.out.2.1, HH.out.2.2.1, HH.out.2.2.2, rfl⟩
      case rest =>
        obtain ⟨qh, rfl, hqhM, hqh1, hqh2, hqh0, rfl⟩ := hcut
        obtain ⟨k1, k2, k3, k4, k5, k6, k7⟩ := HA.out
        obtain ⟨d1, d2, d3⟩ := HD.out
        have hMV := mulVW_at g ns (n + 1) bv ov cv c' vs qh 0 w4 (by rw [HV.out]; omega) k6 (by rw [HV.out]; omega) hqhM M_pos HIN.out.vlt k3 (by rw [HV.out] at d3 ⊢; omega)
        rw [HV.out] at hMV
        have hWl := Pl.mulV_len M vs qh 0
        rw [HV.out] at hWl
        have hWlt := Pl.mulV_lt M M_pos vs qh 0
        have hWc := Pl.mulV_carry M vs qh 0 HIN.out.vlt hqhM M_pos
        have hqn0 : x = 0 → (Pl.mulV M vs qh 0).2 = 0 := fun h => Pl.mulV_small M_pos HIN.out.vlt (hqh0 h)
        have hRow := fun (L : Nat) (hL : L = n + 1 ∨ (L = n ∧ qh ≤ 1)) (ss : List Nat) hs hsl (e : Pl.val M ss / Pl.val M vs = Q) => Pl.digit_row (b := M) (n := n) (L := L) (qh := qh) (ss := ss) (vs := vs) hL hs HV.out hsl HIN.out.vlt M_two hqhM (by rw [e]; exact hqh1) (by rw [e]; exact hqh2) HVP.out
        obtain ⟨ms, hms⟩ : ∃ ms, (Pl.mulV M vs qh 0).1 = ms := ⟨_, rfl⟩
        obtain ⟨mc, hmc⟩ : ∃ mc, (Pl.mulV M vs qh 0).2 = mc := ⟨_, rfl⟩
        rw [hms, hmc] at hMV hRow
        rw [hms] at hWl hWlt
        rw [hmc] at hWc hqn0
        have HMV := Lib.hid hMV
        have HROW := Lib.hid hRow
        have HQ0 := Lib.hid hqh0
        have HQM := Lib.hid (Nat.lt_of_le_of_lt hqh1 hqhM)
        have HWL := Lib.hid (And.intro hWl (And.intro hWlt hqn0))
        have hns1 : n ≤ n + 1 := by omega
        clear hMV hRow hWl hWlt hqn0 hms hmc hqh1 hqh2 hqh0 k1 k2 k3 k4 k5 k6 k7 d1 d2 d3 cy0 ca1 ca0
        go_wp2_with fail
        refine HMV.out.mono ?_; rintro e w5 ⟨rfl, hm5, hwr5⟩
        have har5 := hwr5.arr' HA.out.2.2.2.2.2.1
        obtain ⟨⟨u5, hu5⟩, hf5⟩ := har5.has (i := ns + n) (by omega)
        have HM5 := Lib.hid (And.intro hm5 (And.intro hwr5 har5))
        clear hm5 hwr5 har5
        have c6 := HM5.out.2.2.put (i := ns + n) (by omega) (.int .u64 (mc : Int))
        have hc6 : Chg w4 (w5.setCell ⟨g, ns + n, none⟩ (.int .u64 (mc : Int))) (fun b off => b = g ∧ ns ≤ off ∧ off < ns + (n + 1)) :=
          (Chg.of_wr HM5.out.2.1 (by omega)).trans (chg_set w5 g (ns + n) _) (fun b off h => ⟨h.1, h.2.1, by omega⟩) (fun b off _ h => ⟨h.1, by omega, by omega⟩)
        have hm6 : WAt (w5.setCell ⟨g, ns + n, none⟩ (.int .u64 (mc : Int))) g ns (ms ++ [mc]) := by
          refine WAt.app ((chg_set w5 g (ns + n) _).at HM5.out.1 (fun j hj h => ?_)) (WAt.one ?_)
          · have := h.2; rw [HWL.out.1] at hj; omega
          · rw [HWL.out.1]; exact c6
        have HC6 := Lib.hid (And.intro hm6 hc6)
        clear hc6 hm6
        go_upto_region 26 with fail
        go_cut [128] from 45 to 200 (fun tv wx => tv = .bool (decide (j = m)) ∧ WAt wx g ns (ms ++ [mc]) ∧ Chg w4 wx (fun b off => b = g ∧ ns ≤ off ∧ off < ns + (n + 1)))
        case first =>
          rcases Nat.lt_or_ge j m with hlt | hge
          · have h1 : ¬ (lu : Int) < (j : Int) + ((n : Int) + 1) := by have := HLU.out; omega
            have h2 : decide (j = m) = false := by rw [decide_eq_false_iff_not]; omega
            go_wp2
            go_meet
            case rel => exact ⟨by rw [h2], HC6.out⟩
          · have h1 : (lu : Int) < (j : Int) + ((n : Int) + 1) := by have := HLU.out; omega
            have hj : j = m := by omega
            have h2 : decide (j = m) = true := by rw [decide_eq_true_eq]; exact hj
            have hx0 : x = 0 := HX0.out (by omega)
            have hmc : mc = 0 := HWL.out.2.2 hx0
            have hE : ((mc : Int) == 0) = true := by rw [hmc]; rfl
            clear hj hx0 hmc
            go_wp2
            go_meet
            case rel => exact ⟨by rw [h2], HC6.out⟩
        case rest =>
          obtain ⟨rfl, hm7, hc7⟩ := hcut
          obtain ⟨w7, hw7⟩ : ∃ w7, w7 = wc := ⟨_, rfl⟩
          subst hw7
          have HC7 := Lib.hid (And.intro hm7 hc7)
          obtain ⟨L, hL1, hL2⟩ : ∃ L : Nat, (j < m → L = n + 1) ∧ (j = m → L = n) := by
            rcases Nat.lt_or_ge j m with h | h
            · exact ⟨n + 1, fun _ => rfl, fun h2 => by omega⟩
            · exact ⟨n, fun h2 => by omega, fun _ => rfl⟩
          have HL := Lib.hid (And.intro hL1 hL2)
          have hL3 : n ≤ L ∧ L ≤ n + 1 := by
            rcases Nat.lt_or_ge j m with h | h
            · have := hL1 h; omega
            · have := hL2 (by omega); omega
          have hL4 : j + L ≤ lu := by
            have := HLU.out
            rcases Nat.lt_or_ge j m with h | h
            · have := hL1 h; omega
            · have := hL2 (by omega); omega
          obtain ⟨hL5, hL6⟩ := hL3
          clear hm7 hc7 hL1 hL2 c6 hu5 hf5
          go_upto_if 128 with fail
          go_cut [21] from 45 to 200 (fun lv wx => lv = .int .i64 (L : Int) ∧ w7 = wx)
          case first =>
            rcases Nat.lt_or_ge j m with hlt | hge
            · have h2 : decide (j = m) = false := by rw [decide_eq_false_iff_not]; omega
              rw [h2]
              have h3 : L = n + 1 := HL.out.1 hlt
              have H3 := Lib.hid h3
              clear h3
              go_wp2
              go_meet
              case rel => exact ⟨by rw [H3.out]; rfl, rfl⟩
            · have h2 : decide (j = m) = true := by rw [decide_eq_true_eq]; omega
              rw [h2]
              have h3 : L = n := HL.out.2 (by omega)
              have H3 := Lib.hid h3
              have i7 : IntKind.i64.wrap ((n : Int) + 1 - 1) = (n : Int) := by rw [IntWalk.i64_in _ (by omega)]; omega
              clear h3
              go_wp2
              go_meet
              case rel => exact ⟨by rw [H3.out], rfl⟩
          case rest =>
            obtain ⟨rfl, rfl⟩ := hcut
            obtain ⟨k1, k2, k3, k4, k5, k6, k7⟩ := HA.out
            obtain ⟨d1, d2, d3⟩ := HD.out
            have hSSl : ((us'.drop j).take L).length = L := by rw [List.length_take, List.length_drop, HK.out.lu, HU.out]; omega
            have hWWl : ((ms ++ [mc]).take L).length = L := by rw [List.length_take, List.length_append, HWL.out.1, List.length_singleton]; omega
            have hSSlt : ∀ d ∈ (us'.drop j).take L, d < M := fun d hd => HK.out.ult d (List.mem_of_mem_drop (List.mem_of_mem_take hd))
            have hu7 : WAt w7 bu (ou + j) ((us'.drop j).take L) := by
              refine WAt.take (WAt.drop (HC7.out.2.at k1 (fun t ht h => ?_)) j (by rw [HK.out.lu, HU.out]; omega)) L
              rcases d1 with d1 | d1
              · exact d1 h.1
              · have := h.2.1; rw [HK.out.lu] at ht; omega
            have hv7 : WAt w7 bv ov vs := by
              refine HC7.out.2.at k3 (fun t ht h => ?_)
              rcases d3 with d3 | d3
              · exact d3 h.1
              · have := h.2.1; omega
            have hq7 : WAt w7 bq oq qs' := by
              refine HC7.out.2.at k2 (fun t ht h => ?_)
              rcases d2 with d2 | d2
              · exact d2 h.1
              · have := h.2.1; have := HQL.out; omega
            have hr7 : Arr w7 bu Nu := HC7.out.2.arr _ _ k4
            have hSUB : ∀ W, Below w7.heap.size w7 W → _ := fun W hb => subVV_at bu (ou + j) (cu - j) bu (ou + j) (cu - j) g ns (n + 1) Nu ((us'.drop j).take L) ((ms ++ [mc]).take L) W (by rw [hSSl]; omega) (by rw [hSSl, hWWl]) (hr7.below hb) (by have := HIN.out.fitu; rw [hSSl]; rw [HU.out] at this; omega)
              (hu7.below hb) (Or.inr (Or.inl (Nat.le_refl _))) ((HC7.out.1.take L).below hb) (by rw [HU.out] at d1; omega)
            rw [hSSl] at hSUB
            have hrest : ∀ d ∈ us'.drop (j + L), d = 0 := by
              intro d hd
              rcases Nat.lt_or_ge j m with h | h
              · rw [HL.out.1 h, show j + (n + 1) = j + 1 + vs.length from by rw [HV.out]; omega] at hd
                exact HK.out.zer d hd
              · rw [HL.out.2 (by omega), List.drop_of_length_le (by rw [HK.out.lu, HU.out, HLU.out]; omega)] at hd
                cases hd
            have HREST := Lib.hid hrest
            have hrow := HROW.out L (by
              rcases Nat.lt_or_ge j m with h | h
              · exact Or.inl (HL.out.1 h)
              · exact Or.inr ⟨HL.out.2 (by omega), HQ0.out (HX0.out h)⟩) _ hSSl hSSlt (by
              rw [HK.out.seg (by
                intro d hd
                rcases Nat.lt_or_ge j m with h | h
                · rw [HL.out.1 h, show j + (n + 1) = j + 1 + vs.length from by rw [HV.out]; omega] at hd
                  exact HK.out.zer d hd
                · rw [HL.out.2 (by omega), List.drop_of_length_le (by rw [HK.out.lu, HU.out, HLU.out]; omega)] at hd
                  cases hd)]
              exact HQ.out)
            obtain ⟨SS, hSS⟩ : ∃ l, (us'.drop j).take L = l := ⟨_, rfl⟩
            obtain ⟨WW, hWW⟩ : ∃ l, (ms ++ [mc]).take L = l := ⟨_, rfl⟩
            rw [hSS, hWW] at hSUB hrow
            rw [hSS] at hSSl hSSlt
            rw [hWW] at hWWl
            have hs2 := Pl.subV_c M SS WW 0 (by omega)
            have hs1 := Pl.subV_len M SS WW 0 (by rw [hSSl, hWWl])
            have hs3 := Pl.subV_lt M M_pos SS WW 0
            obtain ⟨S1, hS1⟩ : ∃ l, (Pl.subV M SS WW 0).1 = l := ⟨_, rfl⟩
            obtain ⟨sc, hsc⟩ : ∃ l, (Pl.subV M SS WW 0).2 = l := ⟨_, rfl⟩
            rw [hS1, hsc] at hSUB hrow
            rw [hsc] at hs2
            rw [hS1, hSSl] at hs1
            rw [hS1] at hs3
            have HSUB := Lib.hid hSUB
            have HROW2 := Lib.hid hrow
            have H7 := Lib.hid (And.intro hv7 (And.intro hq7 hr7))
            have HSL := Lib.hid (And.intro hSS (And.intro hs1 hs3))
            obtain ⟨e9, he9⟩ : ∃ e, j + L = e := ⟨_, rfl⟩
            have i8 : IntKind.i64.wrap ((j : Int) + (L : Int)) = (e9 : Int) := by rw [IntWalk.i64_in _ (by omega)]; omega
            have l8 : e9 - j = L := by omega
            have b8 : j ≤ e9 := by omega
            have b9 : e9 ≤ cu := by omega
            have b10 : L ≤ n + 1 := hL6
            have b11 : (j : Int) ≤ (e9 : Int) := by omega
            have b12 : (e9 : Int) ≤ (cu : Int) := by omega
            have b13 : (0 : Int) ≤ (j : Int) := by omega
            have b14 : (0 : Int) ≤ (e9 : Int) := by omega
            have b15 : (0 : Int) ≤ (L : Int) := by omega
            have b16 : (L : Int) ≤ ((n + 1 : Nat) : Int) := by omega
            have b17 : (L : Int) ≤ (n : Int) + 1 := by omega
            have b18 : ¬ cu = j := by omega
            have HE9 := Lib.hid he9
            clear he9
            clear hrest k1 k2 k3 k4 k5 k6 k7 d1 d2 d3 hSUB hrow hv7 hq7 hr7 hu7 hSS hWW hSSl hWWl hSSlt hs1 hs3 hS1 hsc
            go_upto_region 28 with fail
            go_cut [22] from 45 to 200 (fun cv wx => cv = .int .u64 (sc : Int) ∧ WAt wx bu (ou + j) S1 ∧ Chg w7 wx (fun b off => b = bu ∧ ou + j ≤ off ∧ off < ou + j + L))
            case first =>
              refine no_panic ?_
              go_region_with (first
                | (go_at_call 274; refine (HSUB.out _ (by first | exact Below.refl _ _ | exact (Below.refl _ _).drew | exact below_drewN (Below.refl _ _) _)).mono ?_; rintro e w8 ⟨rfl, hr8, hw8⟩))
              all_goals
                have hrel : WAt w8 bu (ou + j) S1 ∧ Chg w7 w8 (fun b off => b = bu ∧ ou + j ≤ off ∧ off < ou + j + L) :=
                  ⟨hr8, (Chg.of_below (Below.refl _ _).drew (fun _ _ => False)).trans (Chg.of_wr hw8 (by omega)) (fun _ _ h => h.elim) (fun _ _ _ h => h)⟩
                have HREL := Lib.hid hrel
                clear hr8 hw8 hrel
                go_wp2_with fail
                go_meet
                case rel => exact ⟨rfl, HREL.out⟩
            case rest =>
              obtain ⟨rfl, hr8, hc8⟩ := hcut
              obtain ⟨w8, hw8⟩ : ∃ w8, w8 = wc := ⟨_, rfl⟩
              subst hw8
              have hv8 : WAt w8 bv ov vs := by
                refine hc8.at H7.out.1 (fun t ht h => ?_)
                have huv := HIN.out.uv
                rw [HU.out] at huv
                rcases huv with e | e
                · exact e h.1.symm
                · have := h.2; omega
              have hq8 : WAt w8 bq oq qs' := by
                refine hc8.at H7.out.2.1 (fun t ht h => ?_)
                have hqu := HIN.out.qu
                rw [HU.out] at hqu
                have := HQL.out
                rcases hqu with e | e
                · exact e h.1
                · have := h.2; omega
              have H8 := Lib.hid (And.intro hr8 (And.intro hc8 (And.intro hv8 (And.intro hq8 (hc8.arr _ _ H7.out.2.2)))))
              clear hr8 hc8 hv8 hq8
              clear i8 l8 b8 b9 b11 b12 b14 b16 b17 b18
              go_upto_if 148 with fail
              go_cut [15, 23] from 45 to 200 (fun qv _ wx => qv = .int .u64 (Q : Int) ∧ ∃ rs : List Nat, rs.length = L ∧ (∀ d ∈ rs, d < M) ∧ (∀ d ∈ rs.drop n, d = 0) ∧ Pl.val M rs = Pl.val M SS % Pl.val M vs ∧ WAt wx bu (ou + j) rs ∧ Chg w8 wx (fun b off => b = bu ∧ ou + j ≤ off ∧ off < ou + j + L))
              case first =>
                have hR0 : (sc = 0 → qh = Q ∧ Pl.val M S1 = Pl.val M SS % Pl.val M vs ∧ ∀ d ∈ S1.drop n, d = 0) ∧ (sc ≠ 0 → qh = Q + 1 ∧ Pl.val M (Pl.addV M (S1.take n) vs 0).1 = Pl.val M SS % Pl.val M vs ∧ (L = n + 1 → (S1.getD n 0 + (Pl.addV M (S1.take n) vs 0).2) % M = 0)) := by
                  refine ⟨fun h => ?_, fun h => ?_⟩
                  · obtain ⟨e1, e2, e3⟩ := HROW2.out.1 h
                    exact ⟨by rw [← e1, ← HSL.out.1, HK.out.seg (HREST.out)]; exact HQ.out, e2, e3⟩
                  · obtain ⟨e1, e2, e3⟩ := HROW2.out.2 h
                    exact ⟨by rw [← e1, ← HSL.out.1, HK.out.seg (HREST.out)]; rw [HQ.out], e2, e3⟩
                have HR0 := Lib.hid hR0
                clear hR0
                refine wp_code (c' := (Tryz.f239.body.bind (condOf 148)).getD .skip) (by kernel_rfl) ?_
                refine divBack bu ou lu cu Nu bv ov n cv j qh L sc Q S1 vs SS w8 _ hqhM hs2 HV.out HIN.out.vlt HSL.out.2.1 HSL.out.2.2 ⟨hL5, hL6⟩ hL4 (by omega) hcu (by omega) (by have := HIN.out.fitu; rw [HU.out] at this; exact this) H8.out.1 H8.out.2.2.1 H8.out.2.2.2.2 (by have := HIN.out.uv; rw [HU.out, HV.out] at this; exact this) HR0 ?_
                intro rs wx
                intros
                rename_i h1 h2 h3 h4 h5 h6
                have HH := Lib.hid (And.intro h1 (And.intro h2 (And.intro h3 (And.intro h4 (And.intro h5 h6)))))
                clear h1 h2 h3 h4 h5 h6
                go_wp2
                go_meet
                case rel => exact ⟨rfl, rs, HH.out.1, HH.out.2.1, HH.out.2.2.1, HH.out.2.2.2.1, HH.out.2.2.2.2.1, HH.out.2.2.2.2.2⟩
              case rest =>
                obtain ⟨rfl, rs, g1, g2, g3, g4, hr9, hc9⟩ := hcut
                obtain ⟨w9, hw9⟩ : ∃ w9, w9 = wc := ⟨_, rfl⟩
                subst hw9
                obtain ⟨k1, k2, k3, k4, k5, k6, k7⟩ := HA.out
                obtain ⟨d1, d2, d3⟩ := HD.out
                have hHIN := HIN.out
                have hlu' : us'.length = lu := by rw [HK.out.lu, HU.out]
                have hcA : Chg w4 w9 (fun b off => (b = g ∧ ns ≤ off ∧ off < ns + (n + 1)) ∨ (b = bu ∧ ou + j ≤ off ∧ off < ou + j + L)) :=
                  (HC7.out.2.trans H8.out.2.1 (fun _ _ h => Or.inl h) (fun _ _ _ h => Or.inr h)).trans hc9 (fun _ _ h => h) (fun _ _ _ h => Or.inr h)
                have hu9 : WAt w9 bu ou (us'.take j ++ rs ++ us'.drop (j + L)) := by
                  have htl : (us'.take j).length = j := by rw [List.length_take, hlu']; omega
                  refine WAt.app (WAt.app (hcA.at (k1.take j) (fun t ht h => ?_)) (by rw [htl]; exact hr9)) ?_
                  · rw [htl] at ht
                    rcases h with h | h
                    · rw [HU.out] at d1
                      rcases d1 with e | e
                      · exact e h.1
                      · have := h.2.1; omega
                    · have := h.2.1; omega
                  · rw [List.length_append, htl, g1]
                    refine hcA.at (k1.drop (j + L) (by rw [hlu']; omega)) (fun t ht h => ?_)
                    rw [List.length_drop, hlu'] at ht
                    rcases h with h | h
                    · rw [HU.out] at d1
                      rcases d1 with e | e
                      · exact e h.1
                      · have := h.2.1; omega
                    · have := h.2.2; omega
                have hq9 : WAt w9 bq oq qs' := by
                  refine hcA.at k2 (fun t ht h => ?_)
                  rw [HQL.out] at ht
                  rcases h with h | h
                  · rcases d2 with e | e
                    · exact e h.1
                    · have := h.2.1; omega
                  · have hqu := hHIN.qu
                    rw [HU.out] at hqu
                    rcases hqu with e | e
                    · exact e h.1
                    · have := h.2; omega
                have hv9 : WAt w9 bv ov vs := by
                  refine hcA.at k3 (fun t ht h => ?_)
                  rcases h with h | h
                  · rcases d3 with e | e
                    · exact e h.1
                    · have := h.2.1; omega
                  · have huv := hHIN.uv
                    rw [HU.out] at huv
                    rcases huv with e | e
                    · exact e h.1.symm
                    · have := h.2; omega
                have hcW : Chg w3 w9 (DivS bq oq qs.length bu ou lu g ns (n + 1)) := by
                  refine k7.trans hcA (fun _ _ h => h) (fun b off _ h => ?_)
                  rcases h with h | h
                  · exact Or.inl h
                  · exact Or.inr (Or.inl ⟨h.1, by omega, by omega⟩)
                have hQd : Pl.val M SS / Pl.val M vs = Q := by rw [← HSL.out.1, HK.out.seg HREST.out]; exact HQ.out
                have hQM : Q < M := HQM.out
                have hstep : ∀ qs'' : List Nat, Pl.val M (qs''.drop j) = Q + M * Pl.val M (qs'.drop (j + 1)) → (∀ d ∈ qs'', d < M) → Pl.KInv M us vs j (us'.take j ++ rs ++ us'.drop (j + L)) qs'' := by
                  intro qs'' h1 h2
                  exact HK.out.step (by rw [HU.out]; omega) HVP.out g1 (by rw [HU.out]; exact hL4) HREST.out g2 (by rw [HV.out]; exact g3) (by rw [HV.out]; exact hL5) (by rw [HSL.out.1]; exact g4) (by rw [HSL.out.1, hQd]; exact h1) h2
                have hul : (us'.take j ++ rs ++ us'.drop (j + L)).length = lu := by
                  rw [List.length_append, List.length_append, List.length_take, List.length_drop, g1, hlu']; omega
                obtain ⟨us2, hus2⟩ : ∃ l, us'.take j ++ rs ++ us'.drop (j + L) = l := ⟨_, rfl⟩
                rw [hus2] at hu9 hstep hul
                have cx := hu9.getD (i := j + (kk + 1)) (by rw [hul]; omega)
                obtain ⟨x2, hx2⟩ : ∃ x, us2.getD (j + (kk + 1)) 0 = x := ⟨_, rfl⟩
                rw [hx2] at cx
                have i11 : IntKind.i64.wrap ((j : Int) - 1) = (j : Int) - 1 := IntWalk.i64_in _ (by omega)
                have HX2 := Lib.hid hx2
                have HQ1j : qs.length = m → j = m → Q = 0 := by
                  intro h1 h2
                  rcases HQ1.out with ⟨_, h3⟩ | h3
                  · obtain ⟨f1, f2⟩ := HK.out.head (by rw [HU.out]; omega)
                    have f3 := Nat.mul_le_mul_left M (Nat.mod_le (Pl.val M (us.drop (j + 1))) (Pl.val M vs))
                    rw [← HQ.out, f1]
                    rw [← h2, f2] at h3
                    exact Nat.div_eq_of_lt (by omega)
                  · omega
                have hmq : m ≤ qs.length := by
                  rcases HQ1.out with ⟨h3, _⟩ | h3 <;> omega
                have HW9 := Lib.hid (And.intro hu9 (And.intro hq9 (And.intro hv9 (And.intro hcW (And.intro hstep (And.intro (hcA.arr _ _ k4) (And.intro (hcA.arr _ _ k5) (hcA.arr _ _ k6))))))))
                have hql2 := HQL.out
                have HQL2 := Lib.hid hql2
                clear hu9 hq9 hv9 hcW hstep hus2 hx2 k1 k2 k3 k4 k5 k6 k7 d1 d2 d3 hHIN hcA hr9 hc9 hlu' hQd g1 g2 g3 g4 hql2
                rcases Nat.lt_or_ge j qs.length with hjq | hjq
                · have q1 := HW9.out.2.2.2.2.2.2.1.has (i := oq + j) (by have := HIN.out.fitq; omega)
                  obtain ⟨⟨u9, cq9⟩, fq9⟩ := q1
                  have hput := HW9.out.2.2.2.2.2.2.1.put (i := oq + j) (by have := HIN.out.fitq; omega) (.int .u64 (Q : Int))
                  have hfin : ∃ x : Nat, (0 < j → x2 = us2.getD (j - 1 + n) 0) ∧ (qs'.set j Q).length = qs.length ∧ Pl.KInv M us vs j us2 (qs'.set j Q) ∧ WAt (w9.setCell ⟨bq, oq + j, none⟩ (.int .u64 (Q : Int))) bu ou us2 ∧ WAt (w9.setCell ⟨bq, oq + j, none⟩ (.int .u64 (Q : Int))) bq oq (qs'.set j Q) ∧ WAt (w9.setCell ⟨bq, oq + j, none⟩ (.int .u64 (Q : Int))) bv ov vs ∧
                      Arr (w9.setCell ⟨bq, oq + j, none⟩ (.int .u64 (Q : Int))) bu Nu ∧ Arr (w9.setCell ⟨bq, oq + j, none⟩ (.int .u64 (Q : Int))) bq Nq ∧ Arr (w9.setCell ⟨bq, oq + j, none⟩ (.int .u64 (Q : Int))) g c' ∧ Chg w3 (w9.setCell ⟨bq, oq + j, none⟩ (.int .u64 (Q : Int))) (DivS bq oq qs.length bu ou lu g ns (n + 1)) := by
                    obtain ⟨m1, m2, m3, m4, m5, m6, m7, m8⟩ := HW9.out
                    have hch := chg_set w9 bq (oq + j) (.int .u64 (Q : Int))
                    refine ⟨0, fun h => by rw [← HX2.out]; congr 1; have := HKK.out; omega, by rw [List.length_set, HQL2.out], m5 _ ?_ ?_, ?_, ?_, ?_, hch.arr _ _ m6, hch.arr _ _ m7, hch.arr _ _ m8, ?_⟩
                    · rw [Pl.drop_set qs' j Q (by rw [HQL2.out]; exact hjq)]; rfl
                    · intro d hd
                      rcases List.mem_or_eq_of_mem_set hd with hd | hd
                      · exact HK.out.qlt d hd
                      · rw [hd]; exact hQM
                    · refine hch.at m1 (fun t ht h => ?_)
                      rw [hul] at ht
                      have hqu := HIN.out.qu
                      rw [HU.out] at hqu
                      rcases hqu with e | e
                      · exact e h.1.symm
                      · have := h.2; omega
                    · intro t ht
                      rw [List.length_set] at ht
                      by_cases e : j = t
                      · subst e
                        rw [List.getElem_set_self]
                        exact hput
                      · rw [List.getElem_set_ne e]
                        exact hch.cell _ _ _ (fun h => by have := h.2; omega) (m2 t ht)
                    · refine hch.at m3 (fun t ht h => ?_)
                      have hqv := HIN.out.qv
                      rcases hqv with e | e
                      · exact e h.1.symm
                      · have := h.2; omega
                    · exact m4.trans hch (fun _ _ h => h) (fun b off _ h => Or.inr (Or.inr ⟨h.1, by omega, by omega⟩))
                  have HFIN := Lib.hid hfin
                  clear hput hfin
                  rcases Nat.lt_or_ge j m with hlt | hge
                  · have t1 : ((j : Int) == (m : Int)) = false := by rw [beq_eq_false_iff_ne]; omega
                    go_wp2
                    go_roundw
                    case rel =>
                      obtain ⟨_, r1, r2, r3, r4, r5, r6, r7, r8, r9, r10⟩ := HFIN.out
                      exact ⟨j, x2, us2, _, by omega, rfl, rfl, r1, r2, r3, r4, r5, r6, r7, r8, r9, r10⟩
                    case measure => simp [intOf]
                  · have t1 : ((j : Int) == (m : Int)) = true := by rw [beq_iff_eq]; omega
                    have t2 : ((m : Int) == (qs.length : Int)) = false := by rw [beq_eq_false_iff_ne]; omega
                    go_wp2
                    go_roundw
                    case rel =>
                      obtain ⟨_, r1, r2, r3, r4, r5, r6, r7, r8, r9, r10⟩ := HFIN.out
                      exact ⟨j, x2, us2, _, by omega, rfl, rfl, r1, r2, r3, r4, r5, r6, r7, r8, r9, r10⟩
                    case measure => simp [intOf]
                · have t1 : ((j : Int) == (m : Int)) = true := by rw [beq_iff_eq]; omega
                  have t2 : ((m : Int) == (qs.length : Int)) = true := by rw [beq_iff_eq]; omega
                  have hQ0 : Q = 0 := HQ1j (by omega) (by omega)
                  have t3 : ((Q : Int) == 0) = true := by rw [hQ0]; rfl
                  have hfin : (0 < j → x2 = us2.getD (j - 1 + n) 0) ∧ Pl.KInv M us vs j us2 qs' := by
                    refine ⟨fun h => by rw [← HX2.out]; congr 1; have := HKK.out; omega, HW9.out.2.2.2.2.1 _ ?_ HK.out.qlt⟩
                    rw [List.drop_of_length_le (by rw [HQL2.out]; omega), List.drop_of_length_le (by rw [HQL2.out]; omega), hQ0]
                    simp [Pl.val]
                  have HFIN := Lib.hid hfin
                  clear hfin hQ0
                  go_wp2
                  go_roundw
                  case rel =>
                    obtain ⟨m1, m2, m3, m4, m5, m6, m7, m8⟩ := HW9.out
                    exact ⟨j, x2, us2, qs', by omega, rfl, rfl, HFIN.out.1, HQL2.out, HFIN.out.2, m1, m2, m3, m6, m7, m8, m4⟩
                  case measure => simp [intOf]
end Go.Proofs.YtgfkdjmoflbmdaaGreatDoor
