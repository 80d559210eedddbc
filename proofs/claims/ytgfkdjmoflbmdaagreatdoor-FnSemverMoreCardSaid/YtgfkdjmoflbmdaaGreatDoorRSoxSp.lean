/- Contract. -/
import Derived.Test.YtgfkdjmoflbmdaaGreatDoorRSmxSn
namespace Go.Proofs.YtgfkdjmoflbmdaaGreatDoor
open Go.RowKit
open Go.Proofs
theorem top_of_val {n K : Nat} {vs : List Nat} (hl : vs.length = n) (hn : 0 < n) (hlt : ∀ d ∈ vs, d < M) (h : K * M ^ (n - 1) ≤ Pl.val M vs) : K ≤ vs.getD (n - 1) 0 := by
  have h1 := Pl.val_take_drop M vs (n - 1) (by omega)
  have e : vs.drop (n - 1) = [vs.getD (n - 1) 0] := by
    rw [List.drop_eq_getElem_cons (by omega), List.drop_of_length_le (by omega)]
    simp [List.getD_eq_getElem?_getD, show n - 1 < vs.length from by omega]
  have h2 := Pl.val_lt M (vs.take (n - 1)) (fun d hd => hlt d (List.mem_of_mem_take hd))
  rw [List.length_take, Nat.min_eq_left (by omega)] at h2
  rw [e] at h1
  simp only [Pl.val, Nat.mul_zero, Nat.add_zero] at h1
  rcases Nat.lt_or_ge (vs.getD (n - 1) 0) K with hlt2 | hge
  · have h3 := Nat.mul_le_mul_left (M ^ (n - 1)) hlt2
    rw [Nat.mul_succ, Nat.mul_comm (M ^ (n - 1)) K] at h3
    omega
  · exact hge
theorem div_both (p : Nat) (ns' c1 q1 g1 gu cu bq cq m n s U V nsv : Nat) (us vs : List Nat) (w : World) (hS : StkAt w p (some q1) (some ⟨g1, 0, none⟩) ns' c1) (hV : BigVars w) (hH : StkHi p (some q1) (some ⟨g1, 0, none⟩)) (hbq : 16 < bq) (hbu : 16 < gu) (hqA : Arr w bq cq) (hqW : WAt w bq 0 (Pl.digs M U)) (hA1 : Arr w g1 c1) (hAu : Arr w gu cu)
    (n1 : gu ≠ g1) (n2 : bq ≠ g1) (n3 : bq ≠ gu) (hns1 : nsv + n ≤ ns') (hns : ns' ≤ 1000) (hfc : nsv + n ≤ c1) (hfu : m + n + 1 ≤ cu) (hfq : m + n ≤ cq) (hn4 : 4 ≤ n) (hlm : (Pl.digs M U).length = m + n) (hmn : m + n ≤ 79) (hVU : V ≤ U) (hV0 : M ^ (n - 1) ≤ V)
    (hul : us.length = m + 1 + n) (hvl : vs.length = n) (hu : ∀ d ∈ us, d < M) (hv : ∀ d ∈ vs, d < M) (huv : Pl.val M us = U * 2 ^ s) (hvv : Pl.val M vs = V * 2 ^ s) (hs : s < 64) (htop : M ≤ 2 * vs.getD (n - 1) 0) (hU : WAt w gu 0 us) (hVw : WAt w g1 nsv vs) :
    (n < 40 → Calls Tryz.prog 239 #[.slice (some ⟨bq, 0, none⟩) (m + 1) cq, .pointer (some ⟨p, 0, none⟩), .slice (some ⟨gu, 0, none⟩) (m + n + 1) cu, .slice (some ⟨g1, nsv, none⟩) n n] w (DivVal w p (some q1) (some ⟨g1, 0, none⟩) ns' bq 0 (m + 1) gu 0 (m + n + 1) (U * 2 ^ s) (V * 2 ^ s))) ∧
    (n = 64 → Calls Tryz.prog 240 #[.slice (some ⟨bq, 0, none⟩) (m + 1) cq, .pointer (some ⟨p, 0, none⟩), .slice (some ⟨gu, 0, none⟩) (m + n + 1) cu, .slice (some ⟨g1, nsv, none⟩) n n] w (DivVal w p (some q1) (some ⟨g1, 0, none⟩) ns' bq 0 (m + 1) gu 0 (m + n + 1) (U * 2 ^ s) (V * 2 ^ s))) := by
  have hql : ((Pl.digs M U).take (m + 1)).length = m + 1 := by rw [List.length_take]; omega
  have hUl : U < M ^ (m + n) := by
    have := Pl.val_lt M _ (Pl.digs_lt M U M_two)
    rwa [Pl.val_digs M _ M_two, hlm] at this
  have hIn : DivIn w (some ⟨g1, 0, none⟩) ns' bq 0 cq gu 0 cu g1 nsv ((Pl.digs M U).take (m + 1)) us vs := by
    refine ⟨hqA, by rw [hql]; omega, hqW.take _, hAu, by omega, hU, ⟨_, hA1⟩, hVw, Or.inl n3, Or.inl n2, Or.inl n1, fun e => ?_, fun e => ?_, fun _ => by omega, hu, fun d hd => Pl.digs_lt M U M_two d (List.mem_of_mem_take hd), hv⟩
    · injection e with e; injection e with e; exact absurd e.symm n2
    · injection e with e; injection e with e; exact absurd e.symm n1
  have hhalf := Pl.val_top_half hvl (by omega) htop
  have hs2 : 2 * 2 ^ s ≤ M := by
    have := Nat.pow_le_pow_right (show 0 < 2 by omega) (show s + 1 ≤ 64 by omega)
    rw [Nat.pow_succ] at this
    rw [M_eq]; omega
  have hs0 : 0 < 2 ^ s := Nat.pow_pos (by omega)
  have hfit := Pl.top_fit (by omega) hul hUl huv hs2 hs0 hhalf
  constructor
  · intro hn
    have hd := divBasic_any p (some q1) (some ⟨g1, 0, none⟩) ns' c1 bq 0 cq cq gu 0 cu cu g1 nsv n n (m + 1) (m + n + 1) ((Pl.digs M U).take (m + 1)) us vs w hS hIn hvl (by omega) (by omega) hfu (by omega) hn4 (by omega) (by omega) htop (Or.inl ⟨hql, hfit⟩) (by rw [List.drop_of_length_le (by omega)]; rfl)
    rw [hql] at hd
    refine hd.mono (fun e w' hB => ?_)
    have h := hB.val
    rw [huv, hvv, hul, show m + 1 + n = m + n + 1 from by omega] at h
    exact h
  · intro hn
    subst hn
    have hdv : Pl.val M us / Pl.val M vs < M ^ (m + 1) := by
      rw [huv, hvv, Nat.mul_div_mul_right _ _ hs0]
      exact Pl.quot_fit hUl hV0 (by omega) M_pos
    have hd := divRec_any p (some q1) (some ⟨g1, 0, none⟩) ns' c1 bq 0 cq cq gu 0 cu cu g1 nsv (m + 64 + 1) (m + 1) ((Pl.digs M U).take (m + 1)) us vs w hS hV hH hIn hbq hbu hvl (by omega) hql hfu (by omega) (by omega) (by omega) (by omega) hns htop (by rw [huv, hvv]; exact Nat.mul_le_mul_right _ hVU) hdv
    rw [huv, hvv] at hd
    exact hd
theorem dl_c06 {w w3 w6 : World} {p : Nat} {q : Option Nat} {A rA : Option Addr} {ns n g1 gu bq : Nat} (h1 : Chg w w3 (fun b off => b = p ∨ q = some b ∨ (A = some ⟨b, 0, none⟩ ∧ off = ns))) (h2 : Chg w3 w6 (fun b off => b = gu ∨ (b = g1 ∧ ns ≤ off ∧ off < ns + n))) (hgr : rA = some ⟨gu, 0, none⟩ ∨ w.heap.size ≤ gu) (hg1 : A = some ⟨g1, 0, none⟩ ∨ w.heap.size ≤ g1) :
    Chg w w6 (fun b off => b = bq ∨ rA = some ⟨b, 0, none⟩ ∨ StkCh p q A ns b off) := by
  refine h1.trans h2 (fun b off h => ?_) (fun b off hb h => ?_)
  · rcases h with h | h | h
    · exact Or.inr (Or.inr (Or.inl h))
    · exact Or.inr (Or.inr (Or.inr (Or.inl h)))
    · exact Or.inr (Or.inr (Or.inr (Or.inr ⟨h.1, Nat.le_of_eq h.2.symm⟩)))
  · rcases h with h | h
    · rcases hgr with e | e
      · exact Or.inr (Or.inl (by rw [h]; exact e))
      · rw [h] at hb; exact absurd hb (Nat.not_lt.2 e)
    · rcases hg1 with e | e
      · exact Or.inr (Or.inr (Or.inr (Or.inr ⟨by rw [h.1]; exact e, h.2.1⟩)))
      · rw [h.1] at hb; exact absurd hb (Nat.not_lt.2 e)
theorem dl_hi {w : World} {p q1 g1 : Nat} {q : Option Nat} {A : Option Addr} (h : StkHi p q A) (h16 : 16 < w.heap.size) (hg1 : A = some ⟨g1, 0, none⟩ ∨ w.heap.size ≤ g1) (hq1 : q = some q1 ∨ (q = none ∧ w.heap.size ≤ q1)) : StkHi p (some q1) (some ⟨g1, 0, none⟩) := by
  refine ⟨h.p, fun b e => ?_, fun b e => ?_⟩
  · rw [← Option.some.inj e]
    rcases hq1 with k | ⟨_, k⟩
    · exact h.q q1 k
    · exact Nat.lt_of_lt_of_le h16 k
  · injection e with e; injection e with e
    rw [← e]
    rcases hg1 with k | k
    · exact h.a g1 k
    · exact Nat.lt_of_lt_of_le h16 k
theorem dl_drew (w : World) (k : Nat) : Chg w (w.drewN k) (fun _ _ => False) := (Chg.refl w _).drewN k
theorem dl_dlc {w w6 : World} {p : Nat} {q : Option Nat} {A rA : Option Addr} {ns ns' c1 q1 g1 gu cu bq cq m lu : Nat} {ws : List Nat} (hc : Chg w w6 (fun b off => b = bq ∨ rA = some ⟨b, 0, none⟩ ∨ StkCh p q A ns b off)) (hS : StkAt w6 p (some q1) (some ⟨g1, 0, none⟩) ns' c1) (hg1 : A = some ⟨g1, 0, none⟩ ∨ w.heap.size ≤ g1) (hq1 : q = some q1 ∨ (q = none ∧ w.heap.size ≤ q1)) (hgr : rA = some ⟨gu, 0, none⟩ ∨ w.heap.size ≤ gu)
    (hq : NatW w6 bq cq ws) (hu : Arr w6 gu cu) (n1 : gu ≠ g1) (n2 : bq ≠ g1) (n3 : bq ≠ gu) (hns : ns ≤ ns') (hfu : lu + 1 ≤ cu) (hcm : cu ≤ maxLen) (hfq : m + 1 ≤ cq) (k : Nat) : DLC w (w6.drewN k) p q A rA ns ns' c1 q1 g1 gu cu bq cq m lu :=
  ⟨hc.drewN k, hS.chg (dl_drew w6 k) (fun _ _ h => h.elim), hg1, hq1, hgr, hq.arr.drewN k, hu.drewN k, n1, n2, n3, hns, hfu, hcm, hq.cap, hfq⟩
set_option maxRecDepth 100000 in
set_option maxHeartbeats 8000000 in
theorem divLarge_any (p : Nat) (q : Option Nat) (A rA : Option Addr) (ns c bq cq bv cv rn rc n m lu U V : Nat) (w : World) (hS : StkAt w p q A ns c) (hV : BigVars w) (hH : StkHi p q A) (hbq : 16 < bq) (hrA : ∀ b, rA = some ⟨b, 0, none⟩ → 16 < b)
    (hU : NatW w bq cq (Pl.digs M U)) (hVn : NatW w bv cv (Pl.digs M V)) (hO : Old w rA rc) (hrn : rn ≤ rc) (hln : (Pl.digs M V).length = n) (hlm : (Pl.digs M U).length = lu) (hlu : lu = m + n) (hn : (4 < n ∧ n < 40) ∨ n = 64) (hmn : lu ≤ 79) (hns : ns ≤ 500) (hVU : V ≤ U)
    (hAq : A ≠ some ⟨bq, 0, none⟩) (hAv : A ≠ some ⟨bv, 0, none⟩) (hAr : ∀ b, A = some ⟨b, 0, none⟩ → rA ≠ some ⟨b, 0, none⟩) (hrq : rA ≠ some ⟨bq, 0, none⟩) (hrv : rA ≠ some ⟨bv, 0, none⟩) :
    Calls Tryz.prog 215 #[.slice (some ⟨bq, 0, none⟩) lu cq, .pointer (some ⟨p, 0, none⟩), .slice rA rn rc, .slice (some ⟨bq, 0, none⟩) lu cq, .slice (some ⟨bv, 0, none⟩) n cv] w (DLBk w p q A rA ns bq cq U V) := by
  -- the divisor's top word
  have hvlt := Pl.digs_lt M V M_two
  have hvv := Pl.val_digs M V M_two
  obtain ⟨e1, he1⟩ : ∃ e1, n - 1 = e1 := ⟨_, rfl⟩
  obtain ⟨d, hd⟩ : ∃ d, (Pl.digs M V).getD (n - 1) 0 = d := ⟨_, rfl⟩
  have hdM : d < M := by rw [← hd]; exact getD_lt hvlt _
  have hdl : d * M ^ (n - 1) ≤ V := by
    have := val_ge_top M (Pl.digs M V) (n - 1) (by omega)
    rw [hvv, hd] at this
    exact this
  have hd0 : 0 < d := by
    rcases Nat.eq_zero_or_pos d with e | e
    · exfalso
      have hnm := Pl.digs_norm M V M_two
      apply hnm
      rw [List.getLast?_eq_getElem?, hln]
      rw [e, List.getD_eq_getElem?_getD, List.getElem?_eq_getElem (by omega)] at hd
      rw [List.getElem?_eq_getElem (by omega)]
      exact congrArg some hd
    · exact e
  obtain ⟨s, hs, hs1, hs2⟩ := top_shift hd0 hdM
  have hV0 : M ^ (n - 1) ≤ V := Nat.le_trans (Nat.le_mul_of_pos_left _ hd0) hdl
  have htop : ∀ vs : List Nat, vs.length = n → (∀ x ∈ vs, x < M) → Pl.val M vs = V * 2 ^ s → M ≤ 2 * vs.getD (n - 1) 0 := by
    intro vs h1 h2 h3
    have h4 : 2 ^ 63 ≤ vs.getD (n - 1) 0 := by
      refine top_of_val h1 (by omega) h2 ?_
      rw [h3]
      refine Nat.le_trans (Nat.mul_le_mul_right _ hs1) ?_
      have := Nat.mul_le_mul_right (2 ^ s) hdl
      rw [Nat.mul_assoc, Nat.mul_comm (2 ^ s), ← Nat.mul_assoc]
      exact this
    rw [M_eq]; omega
  have hcell := hVn.at_.getD (i := n - 1) (by omega)
  rw [hd, Nat.zero_add, he1] at hcell
  have HSV := Lib.hid (save_any p q A ns c w hS)
  have HNZ := Lib.hid (nlz_any d s w hs hs1 hs2)
  have HNT := Lib.hid (stkNat_any p q A ns c n w hS (by omega) (by omega) (by omega))
  have hq1 := hS.ne hU.arr
  have hv1 := hS.ne hVn.arr
  have hfU := hU.fit
  have hfV := hVn.fit
  rw [hlm] at hfU
  rw [hln] at hfV
  have h16 := hV.lt
  have HB := Lib.hid (And.intro hS (And.intro hV (And.intro hH (And.intro hU (And.intro hVn (And.intro hO (And.intro hdl (And.intro hV0 htop))))))))
  have HN := Lib.hid (And.intro hAq (And.intro hAv (And.intro hAr (And.intro hrq (And.intro hrv (And.intro hq1 (And.intro hv1 hrA)))))))
  have HL := Lib.hid (And.intro hln (And.intro hlm (And.intro hlu (And.intro hn (And.intro hns (And.intro hVU (And.intro hd hs2)))))))
  have HRN := Lib.hid hrn
  have i1 : IntKind.i64.wrap ((n : Int) - 1) = (e1 : Int) := by rw [IntWalk.i64_in _ (by omega)]; omega
  have i2 : IntKind.i64.wrap ((lu : Int) - (n : Int)) = (m : Int) := by rw [IntWalk.i64_in _ (by omega)]; omega
  have i3 : IntKind.i64.wrap ((lu : Int) + 1) = ((lu + 1 : Nat) : Int) := by rw [IntWalk.i64_in _ (by omega)]; omega
  have i4 : IntKind.i64.wrap ((m : Int) + 1) = ((m + 1 : Nat) : Int) := by rw [IntWalk.i64_in _ (by omega)]; omega
  have b1 : (e1 : Int) < (n : Int) := by omega
  have b2 : e1 < n := by omega
  have b3 : (0 : Int) ≤ (e1 : Int) := by omega
  have hn4 : 4 < n := by omega
  have hnlu : n ≤ lu := by omega
  clear hS hV hH hU hVn hO hdl hV0 htop hAq hAv hAr hrq hrv hq1 hv1 hrA hln hlm hlu hn hVU hd hd0 hdM hs1 hs2 he1 hvlt hvv hrn
  go_enter_defers Tryz.func215, Tryz.ntmps215
  go_wp2_with fail
  refine HSV.out.mono ?_; rintro e w1 ⟨rfl, rfl⟩
  go_wp2_with fail
  refine HNZ.out.mono ?_; rintro e w1 ⟨rfl, rfl⟩
  go_wp2_with fail
  refine HNT.out.mono ?_; rintro e w2 ⟨g1, c1, q1, rfl, hAg1, hgk1, hS2, hgA1, hqq1, hch1⟩
  have hsz2 := hch1.size
  have hO2 : Old w2 rA rc := HB.out.2.2.2.2.2.1.chg hch1
  have HMK := Lib.hid (makeW_any rA rn rc (lu + 1) w2 hO2 HRN.out (by omega) (by omega))
  have H2 := Lib.hid (And.intro hAg1 (And.intro hgk1 (And.intro hS2 (And.intro hgA1 (And.intro hqq1 hch1)))))
  clear hAg1 hgk1 hS2 hgA1 hqq1 hch1 hO2
  go_wp2_with fail
  refine HMK.out.mono ?_; rintro e w3 ⟨gu, cu, rfl, hm1, hm2, hAu, hb3, hor⟩
  have hgr : rA = some ⟨gu, 0, none⟩ ∨ w.heap.size ≤ gu := hor.imp (fun h => h.1) (fun h => by omega)
  have hgu1 : gu ≠ g1 := by
    rintro rfl
    have := H2.out.1.lt
    rcases hor with ⟨h, _⟩ | ⟨h, _⟩
    · rcases H2.out.2.2.2.1 with h2 | h2
      · exact HN.out.2.2.1 _ h2 h
      · rcases HB.out.2.2.2.2.2.1 with ⟨h3, _⟩ | ⟨b, h3, h4, _⟩
        · rw [h3] at h; cases h
        · rw [h3] at h; injection h with h; injection h with h
          have := h4.lt; omega
    · omega
  have hbl : bq < w.heap.size ∧ bv < w.heap.size := ⟨HB.out.2.2.2.1.arr.lt, HB.out.2.2.2.2.1.arr.lt⟩
  have hq1' : bq ≠ g1 := by
    rintro rfl
    rcases H2.out.2.2.2.1 with h2 | h2
    · exact HN.out.1 h2
    · omega
  have hv1' : bv ≠ g1 := by
    rintro rfl
    rcases H2.out.2.2.2.1 with h2 | h2
    · exact HN.out.2.1 h2
    · omega
  have hqu' : bq ≠ gu := by
    rintro rfl
    rcases hgr with h2 | h2
    · exact HN.out.2.2.2.1 h2
    · omega
  have hvu' : bv ≠ gu := by
    rintro rfl
    rcases hgr with h2 | h2
    · exact HN.out.2.2.2.2.1 h2
    · omega
  have hc03 : Chg w w3 (fun b off => b = p ∨ q = some b ∨ (A = some ⟨b, 0, none⟩ ∧ off = ns)) := H2.out.2.2.2.2.2.trans (Chg.of_below hb3 (fun _ _ => False)) (fun _ _ h => h) (fun _ _ _ h => h.elim)
  have hq3 : NatW w3 bq cq (Pl.digs M U) := HB.out.2.2.2.1.chg hc03 (fun off h => by
    rcases h with h | h | h
    · exact HN.out.2.2.2.2.2.1.1 h
    · exact HN.out.2.2.2.2.2.1.2 h
    · exact HN.out.1 h.1)
  have hv3 : NatW w3 bv cv (Pl.digs M V) := HB.out.2.2.2.2.1.chg hc03 (fun off h => by
    rcases h with h | h | h
    · exact HN.out.2.2.2.2.2.2.1.1 h
    · exact HN.out.2.2.2.2.2.2.1.2 h
    · exact HN.out.2.1 h.1)
  have hA13 : Arr w3 g1 c1 := H2.out.1.below hb3
  have H3 := Lib.hid (And.intro hAu (And.intro hb3 (And.intro hgr (And.intro hgu1 (And.intro hq1' (And.intro hv1' (And.intro hqu' (And.intro hvu' (And.intro hc03 (And.intro hq3 (And.intro hv3 (And.intro hA13 hbl))))))))))))
  have hcu1 : lu ≤ cu := by omega
  have hcu2 : lu < cu := by omega
  have hlt1 : lu < lu + 1 := by omega
  have hlt2 : (lu : Int) < ((lu + 1 : Nat) : Int) := by omega
  have hlt3 : (lu : Int) ≤ ((lu + 1 : Nat) : Int) := by omega
  have hcu3 : (lu : Int) ≤ (cu : Int) := by omega
  clear hAu hb3 hgr hgu1 hq1' hv1' hqu' hvu' hc03 hq3 hv3 hA13 hbl hor
  go_upto_if 40 with fail
  go_cut [40] from 41 to 68 (fun _ wx => LSt w3 g1 ns gu m n s U V wx)
  case first =>
    have hql := H3.out.2.2.2.2.2.2.2.2.2.1
    have hvl := H3.out.2.2.2.2.2.2.2.2.2.2.1
    have hA1 := H3.out.2.2.2.2.2.2.2.2.2.2.2.1
    have hAu := H3.out.1
    have e1l := HL.out.1
    have e2l := HL.out.2.1
    rcases Nat.eq_zero_or_pos s with h0 | h0
    · obtain ⟨w4, hr4, hz4, hw4⟩ := run_copyW g1 ns c1 n n bv 0 n cv (Pl.digs M V) 126 126 3 Tryz.underlying126 w3 hA1 hvl.at_ (by rw [e1l]; exact (Nat.min_self _).symm) (by rw [e1l]; have := H2.out.2.1; omega)
      have hq4 := hw4.at hql.at_ (Or.inl H3.out.2.2.2.2.1)
      have hAu4 := hw4.arr' hAu
      obtain ⟨w5, hr5, hz5, hw5⟩ := run_copyW gu 0 cu lu cu bq 0 lu cq (Pl.digs M U) 126 126 3 Tryz.underlying126 w4 hAu4 hq4 (by rw [e2l]; exact (Nat.min_self _).symm) (by rw [e2l]; omega)
      rw [e1l] at hr4 hw4
      rw [e2l] at hr5 hw5
      have hAu5 := hw5.arr' hAu4
      obtain ⟨⟨u5, hu5⟩, hf5⟩ := hAu5.has (i := lu) (by omega)
      have hs5 := chg_set w5 gu lu (.int .u64 0)
      have hfin : LSt w3 g1 ns gu m n s U V (w5.setCell ⟨gu, lu, none⟩ (.int .u64 0)) := by
        have hlu := HL.out.2.2.1
        have hz6 : WAt (w5.setCell ⟨gu, lu, none⟩ (.int .u64 0)) gu 0 (Pl.digs M U) := hs5.at hz5 (fun j hj h => by have := h.2; omega)
        have ho : WAt (w5.setCell ⟨gu, lu, none⟩ (.int .u64 0)) gu lu [0] := WAt.one (hAu5.put (by omega) _)
        have hv5 := hw5.at hz4 (Or.inl (Ne.symm H3.out.2.2.2.1))
        refine ⟨Pl.digs M U ++ [0], Pl.digs M V, by rw [List.length_append, e2l]; simp; omega, e1l, ?_, Pl.digs_lt M V M_two, ?_, ?_, ?_, hs5.at hv5 (fun j hj h => H3.out.2.2.2.1 h.1.symm), ?_⟩
        · intro x hx
          rcases List.mem_append.1 hx with hx | hx
          · exact Pl.digs_lt M U M_two x hx
          · rw [List.mem_singleton] at hx; rw [hx]; exact M_pos
        · rw [Pl.val_append, Pl.val_digs M _ M_two, h0]; simp [Pl.val]
        · rw [Pl.val_digs M _ M_two, h0]; simp
        · exact WAt.app hz6 (by rw [e2l, Nat.zero_add]; exact ho)
        · refine ((Chg.of_wr hw4 (by omega)).trans (Chg.of_wr hw5 (by omega)) (T := fun b off => b = gu ∨ (b = g1 ∧ ns ≤ off ∧ off < ns + n)) (fun b off h => Or.inr h) (fun b off _ h => Or.inl h.1)).trans hs5 (fun _ _ h => h) (fun b off _ h => Or.inl h.1)
      have HFIN := Lib.hid hfin
      subst h0
      clear hql hvl hA1 hAu hz4 hw4 hq4 hAu4 hz5 hw5 hAu5 hs5 hfin
      go_wp2_with fail
      go_meet
      case rel => exact HFIN.out
    · have hsz : ((s : Int) == 0) = false := by rw [beq_eq_false_iff_ne]; omega
      obtain ⟨v1, v2, v3, v4, v5⟩ := shl_words (V := V) h0 hs e1l (by omega)
      obtain ⟨x1, x2, x3, x4, _⟩ := shl_words (V := U) h0 hs e2l (by omega)
      have v6 := v5 _ HL.out.2.2.2.2.2.2.1 HL.out.2.2.2.2.2.2.2
      have hl1 := lsh_at g1 ns n bv 0 cv c1 s (Pl.digs M V) w3 (by omega) (by omega) h0 hs hA1 (by rw [e1l]; have := H2.out.2.1; omega) (Pl.digs_lt M V M_two) hvl.at_ (Or.inl H3.out.2.2.2.2.2.1)
      rw [e1l] at hl1
      have HL1 := Lib.hid hl1
      have HX := Lib.hid (And.intro v1 (And.intro v2 (And.intro v3 (And.intro v6 (And.intro x1 (And.intro x2 (And.intro x3 x4)))))))
      have HK := Lib.hid (And.intro hql (And.intro hAu (And.intro e1l e2l)))
      clear hql hvl hA1 hAu e1l e2l v1 v2 v3 v4 v5 v6 x1 x2 x3 x4 hl1
      go_wp2_with fail
      refine HL1.out.mono ?_; rintro e w4 ⟨rfl, hz4, hw4⟩
      have hq4 := hw4.at HK.out.1.at_ (Or.inl H3.out.2.2.2.2.1)
      have hAu4 := hw4.arr' HK.out.2.1
      have hl2 := lsh_at gu 0 cu bq 0 cq cu s (Pl.digs M U) w4 (by rw [HK.out.2.2.2]; omega) (by rw [HK.out.2.2.2]; omega) h0 hs hAu4 (by rw [HK.out.2.2.2]; omega) (Pl.digs_lt M U M_two) hq4 (Or.inl H3.out.2.2.2.2.2.2.1)
      rw [HK.out.2.2.2] at hl2
      obtain ⟨O, hO⟩ : ∃ O, Pl.shlO (2 ^ (64 - s)) (Pl.digs M U) 0 = O := ⟨_, rfl⟩
      rw [hO] at hl2
      have HL2 := Lib.hid hl2
      have HO := Lib.hid hO
      have H4 := Lib.hid (And.intro hz4 (And.intro hw4 hAu4))
      clear hq4 hAu4 hl2 hO hz4 hw4
      go_wp2_with fail
      refine HL2.out.mono ?_; rintro e w5 ⟨rfl, hz5, hw5⟩
      have hAu5 := hw5.arr' H4.out.2.2
      obtain ⟨⟨u5, hu5⟩, hf5⟩ := hAu5.has (i := lu) (by omega)
      have hs5 := chg_set w5 gu lu (.int .u64 (O : Int))
      have hfin : LSt w3 g1 ns gu m n s U V (w5.setCell ⟨gu, lu, none⟩ (.int .u64 (O : Int))) := by
        have hlu := HL.out.2.2.1
        obtain ⟨v1, v2, v3, v6, x1, x2, x3, x4⟩ := HX.out
        rw [HO.out] at x3 x4
        have hz6 : WAt (w5.setCell ⟨gu, lu, none⟩ (.int .u64 (O : Int))) gu 0 (Pl.shlV (2 ^ s) (2 ^ (64 - s)) (Pl.digs M U) 0) := hs5.at hz5 (fun j hj h => by have := h.2; omega)
        have ho : WAt (w5.setCell ⟨gu, lu, none⟩ (.int .u64 (O : Int))) gu lu [O] := WAt.one (hAu5.put (by omega) _)
        have hv5 := hw5.at H4.out.1 (Or.inl (Ne.symm H3.out.2.2.2.1))
        refine ⟨Pl.shlV (2 ^ s) (2 ^ (64 - s)) (Pl.digs M U) 0 ++ [O], Pl.shlV (2 ^ s) (2 ^ (64 - s)) (Pl.digs M V) 0, by rw [List.length_append, x1]; simp; omega, v1, ?_, v2, ?_, ?_, ?_, hs5.at hv5 (fun j hj h => H3.out.2.2.2.1 h.1.symm), ?_⟩
        · intro x hx
          rcases List.mem_append.1 hx with hx | hx
          · exact x2 x hx
          · rw [List.mem_singleton] at hx; rw [hx]; exact x4
        · rw [Pl.val_append, x1, ← x3]; simp [Pl.val]
        · rw [v6, Nat.mul_zero, Nat.add_zero] at v3; exact v3
        · exact WAt.app hz6 (by rw [x1, Nat.zero_add]; exact ho)
        · refine ((Chg.of_wr H4.out.2.1 (by omega)).trans (Chg.of_wr hw5 (by omega)) (T := fun b off => b = gu ∨ (b = g1 ∧ ns ≤ off ∧ off < ns + n)) (fun b off h => Or.inr h) (fun b off _ h => Or.inl h.1)).trans hs5 (fun _ _ h => h) (fun b off _ h => Or.inl h.1)
      have HFIN := Lib.hid hfin
      clear hz5 hw5 hAu5 hs5 hfin
      go_wp2_with fail
      go_meet
      case rel => exact HFIN.out
  case rest =>
    obtain ⟨w6, hw6⟩ : ∃ w6, w6 = wc := ⟨_, rfl⟩
    subst hw6
    obtain ⟨us, vs, z1, z2, z3, z4, z5, z6, z7, z8, z9⟩ := hcut
    obtain ⟨hAu, hb3, hgr, hgu1, hq1', hv1', hqu', hvu', hc03, hq3, hv3, hA13, hbl⟩ := H3.out
    obtain ⟨hAg1, hgk1, hS2, hgA1, hqq1, hch1⟩ := H2.out
    have hln := HL.out.1
    have hlm := HL.out.2.1
    have hlu := HL.out.2.2.1
    have hns := HL.out.2.2.2.2.1
    have hVU := HL.out.2.2.2.2.2.1
    have hq6 : NatW w6 bq cq (Pl.digs M U) := hq3.chg z9 (fun off h => by
      rcases h with h | h
      · exact hqu' h
      · exact hq1' h.1)
    have hA16 := z9.arr _ _ hA13
    have hAu6 := z9.arr _ _ hAu
    have hS6 : StkAt w6 p (some q1) (some ⟨g1, 0, none⟩) (ns + (n + 3) / 4 * 4) c1 := (hS2.below hb3).chg z9 (fun b off h => by
      rcases h with h | h
      · exact ⟨_, h ▸ hAu⟩
      · exact ⟨_, h.1 ▸ hA13⟩)
    obtain ⟨ns', hns'⟩ : ∃ ns', ns + (n + 3) / 4 * 4 = ns' := ⟨_, rfl⟩
    rw [hns'] at hS6
    have hc06 : Chg w w6 (fun b off => b = bq ∨ rA = some ⟨b, 0, none⟩ ∨ StkCh p q A ns b off) := dl_c06 hc03 z9 hgr hgA1
    have hgu16 : 16 < gu := by
      rcases hgr with e | e
      · exact HN.out.2.2.2.2.2.2.2 gu e
      · exact Nat.lt_of_lt_of_le h16 e
    have hbig6 : BigVars w6 := HB.out.2.1.chg hc06 (fun b off h => by
      rcases h with h | h | h
      · rw [h]; exact hbq
      · exact HN.out.2.2.2.2.2.2.2 b h
      · exact HB.out.2.2.1.ch h)
    have hhi6 : StkHi p (some q1) (some ⟨g1, 0, none⟩) := dl_hi HB.out.2.2.1 h16 hgA1 hqq1
    have HG := Lib.hid (And.intro hgr (And.intro hgA1 hqq1))
    clear hgr hgA1 hqq1
    have HAL := Lib.hid (alias_other bq 0 lu cq gu 0 (lu + 1) cu cq cu w6 hq6.arr hAu6 (by omega) (by omega) hq6.cap hm2 (Or.inl hqu'))
    have HMK2 := Lib.hid (fun W => make_fit ⟨bq, 0, none⟩ lu cq (m + 1) W (by omega))
    have HDB := Lib.hid (fun k => div_both p ns' c1 q1 g1 gu cu bq cq m n s U V ns us vs (w6.drewN k) (hS6.chg (dl_drew w6 k) (fun _ _ h => h.elim)) (hbig6.chg (dl_drew w6 k) (fun _ _ h => h.elim)) hhi6 hbq hgu16 (hq6.arr.drewN k) (hq6.at_.drewN k) (hA16.drewN k) (hAu6.drewN k) hgu1 hq1' hqu' (by omega) (by omega) hgk1 (by omega) (by omega) (by omega) (hlm.trans hlu) (by omega) hVU HB.out.2.2.2.2.2.2.2.1 z1 z2 z3 z4 z5 z6 hs (HB.out.2.2.2.2.2.2.2.2 vs z2 z4 z6) (z7.drewN k) (z8.drewN k))
    have HC := Lib.hid (fun k => dl_dlc hc06 hS6 HG.out.2.1 HG.out.2.2 HG.out.1 hq6 hAu6 hgu1 hq1' hqu' (show ns ≤ ns' by omega) hm1 hm2 (show m + 1 ≤ cq by omega) k)
    have hv15 : ∀ k, (w6.drewN k).cell? ⟨15, 0, none⟩ = some (.int .i64 40) := fun k => hbig6.v15
    have HNS := Lib.hid (show ns ≤ ns' by omega)
    have hm79 : m ≤ 79 := by omega
    have hnn : (n : Int) < 40 ∧ n < 40 ∨ ¬ (n : Int) < 40 ∧ n = 64 := by
      rcases HL.out.2.2.2.1 with h | h
      · left; omega
      · right; omega
    rw [show m + n + 1 = lu + 1 from by omega] at HDB
    have HNN := Lib.hid hnn
    clear hcu1 hcu3 hAu hb3 hgu1 hq1' hv1' hqu' hvu' hc03 hq3 hv3 hA13 hbl hAg1 hgk1 hS2 hch1 hln hlm hlu hns hVU hq6 hA16 hAu6 hS6 hns' hc06 hgu16 hbig6 hhi6 hnn z1 z2 z3 z4 z5 z6 z7 z8 z9
    go_wp2_with fail
    refine HAL.out.mono ?_; rintro e w7 ⟨rfl, k, rfl⟩
    go_wp2_with fail
    refine (HMK2.out _).mono ?_; rintro e w7 ⟨rfl, rfl⟩
    have hv15k := hv15 k
    have HDK := Lib.hid (HDB.out k)
    have HCK := Lib.hid (HC.out k)
    clear hv15
    obtain ⟨w7, hw7⟩ : ∃ w7, w7 = w6.drewN k := ⟨_, rfl⟩
    rw [← hw7] at hv15k HDK HCK ⊢
    clear hw7
    obtain ⟨PQ, hPQ⟩ : ∃ PQ : Ending → World → Prop, PQ = DivVal w7 p (some q1) (some ⟨g1, 0, none⟩) ns' bq 0 (m + 1) gu 0 (lu + 1) (U * 2 ^ s) (V * 2 ^ s) := ⟨_, rfl⟩
    rw [← hPQ] at HDK
    have HPQ := Lib.hid hPQ
    clear hPQ
    have hret : ∀ e wx, PQ e wx → e = .returned (.tuple #[]) := fun e wx h => by rw [HPQ.out] at h; exact h.1
    have HRET := Lib.hid hret
    clear hret
    go_upto_if 78 with fail
    go_cut [78] from 79 to 88 (fun _ wx => PQ (.returned (.tuple #[])) wx)
    case first =>
      rcases HNN.out with ⟨hn1, hn2⟩ | ⟨hn1, hn2⟩
      · have HD := Lib.hid (HDK.out.1 hn2)
        clear hn2
        go_wp2_with fail
        refine HD.out.mono ?_; rintro e w8 hB
        obtain rfl := HRET.out _ _ hB
        have HBB := Lib.hid hB
        clear hB
        go_wp2_with fail
        go_meet
        case rel => exact HBB.out
      · have HD := Lib.hid (HDK.out.2 hn2)
        clear hn2
        go_wp2_with fail
        refine HD.out.mono ?_; rintro e w8 hB
        obtain rfl := HRET.out _ _ hB
        have HBB := Lib.hid hB
        clear hB
        go_wp2_with fail
        go_meet
        case rel => exact HBB.out
    case rest =>
      obtain ⟨w8, hw8⟩ : ∃ w8, w8 = wc := ⟨_, rfl⟩
      subst hw8
      rw [HPQ.out] at hcut
      obtain ⟨_, us3, qs3, q3, g3, c3, u1, u2, u3, u4, u5, u6, u7, u8, u9, ua, ub, uc⟩ := hcut
      obtain ⟨dv1, dv2⟩ := Pl.div_shift U V (2 ^ s) (Nat.pow_pos (by omega))
      rw [dv2] at u5
      rw [dv1] at u6
      have hqn := normW_any bq 0 cq (m + 1) qs3 w8 u2 HCK.out.fitq (by omega) u8 u4
      rw [u6] at hqn
      have HQN := Lib.hid hqn
      have hAu8 := uc.arr _ _ HCK.out.arru
      have hAq8 := uc.arr _ _ HCK.out.arrq
      have HE := Lib.hid (And.intro u1 (And.intro u3 (And.intro u5 (And.intro u7 (And.intro u8 (And.intro u9 (And.intro ua (And.intro ub (And.intro uc hAu8)))))))))
      have hc3 : ns' ≤ c3 := by
        rcases u9.2.arr with ⟨h, _⟩ | ⟨_, _, _, h, _⟩
        · cases h
        · exact h
      clear u1 u2 u3 u4 u5 u6 u7 u8 u9 ua ub uc hqn dv1 dv2 hAu8 hAq8
      rcases Nat.eq_zero_or_pos s with h0 | h0
      · have hsz : ((s : Int) != 0) = false := by rw [h0]; rfl
        have hun := normW_any gu 0 cu (lu + 1) us3 w8 HE.out.1 hm1 (by omega) HE.out.2.2.2.1 HE.out.2.1
        rw [HE.out.2.2.1, h0, Nat.pow_zero, Nat.mul_one] at hun
        have HUN := Lib.hid hun
        clear hun h0
        go_wp2_with fail
        refine HQN.out.mono ?_; rintro e w9 ⟨rfl, k1, k2, rfl⟩
        have HQ2 := Lib.hid (And.intro k1 k2)
        clear k1 k2
        go_wp2_with fail
        refine HUN.out.mono ?_; rintro e w9 ⟨rfl, k1, k2, rfl⟩
        have HR9 := Lib.hid (And.intro HE.out.2.2.2.1 (And.intro k1 k2))
        have HS9 := Lib.hid HE.out.2.2.2.2.2.1
        have HC9 : Hid (Chg w8 w8 (fun b _ => b = gu)) := Lib.hid (Chg.refl _ _)
        clear k1 k2
        go_wp2
        refine leaves_cons (f := 231) (args := #[.pointer (some ⟨p, 0, none⟩), .int .i64 (ns : Int)]) (by simp) (by simp [go_sem]) ?_
        refine (restoreD_any p (some q3) (some ⟨g3, 0, none⟩) ns' c3 ns .returning _ HS9.out (Nat.le_trans HNS.out hc3)).mono ?_
        rintro e u' wz ⟨rfl, rfl, hSz, hcz⟩
        obtain ⟨u1, u3, u5, u7, u8, u9, ua, ub, uc, _⟩ := HE.out
        exact ⟨.tuple #[.slice (some ⟨bq, 0, none⟩) (Pl.digs M (U / V)).length cq, .slice (some ⟨gu, 0, none⟩) (Pl.digs M (U % V)).length cu], by simp [results, Tryz.results215, go_sem], dl_fin HCK.out uc u9 ua ub u8 HQ2.out.1 HQ2.out.2 HC9.out HR9.out.1 HR9.out.2.1 HR9.out.2.2 HS9.out hSz hcz⟩
      · have hsz : ((s : Int) != 0) = true := by rw [bne_iff_ne]; omega
        have hrs := rsh_at gu 0 cu gu 0 cu cu s us3 w8 (by rw [HE.out.1]; omega) (by rw [HE.out.1]; omega) h0 hs HE.out.2.2.2.2.2.2.2.2.2 (by rw [HE.out.1]; omega) HE.out.2.1 HE.out.2.2.2.1 (Or.inr (Or.inl (Nat.le_refl _)))
        rw [HE.out.1] at hrs
        have HRS := Lib.hid hrs
        have hsv : Pl.val M (Pl.shrV (2 ^ s) (2 ^ (64 - s)) us3) = U % V := by
          have e := two_st (s := s) (t := 64 - s) (by omega)
          have := Pl.shr_back (S := 2 ^ s) (T := 2 ^ (64 - s)) (R := U % V) (l := us3) (Nat.pow_pos (by omega)) (by rw [e]; exact HE.out.2.2.1)
          rw [e] at this
          exact this
        have hsl : ∀ d ∈ Pl.shrV (2 ^ s) (2 ^ (64 - s)) us3, d < M := by
          have e := two_st (s := s) (t := 64 - s) (by omega)
          have := Pl.shrV_lt (S := 2 ^ s) (T := 2 ^ (64 - s)) (Nat.pow_pos (by omega)) (Nat.pow_pos (by omega)) us3 (by rw [e]; exact HE.out.2.1)
          rw [e] at this
          exact this
        have hsn : (Pl.shrV (2 ^ s) (2 ^ (64 - s)) us3).length = lu + 1 := by rw [Pl.shrV_len, HE.out.1]
        have HSV2 := Lib.hid (And.intro hsv (And.intro hsl hsn))
        clear hrs hsv hsl hsn h0
        go_wp2_with fail
        refine HQN.out.mono ?_; rintro e w9 ⟨rfl, k1, k2, rfl⟩
        have HQ2 := Lib.hid (And.intro k1 k2)
        clear k1 k2
        go_wp2_with fail
        refine HRS.out.mono ?_; rintro e w9 ⟨⟨cc, rfl⟩, k1, k2⟩
        have hun := normW_any gu 0 cu (lu + 1) _ w9 HSV2.out.2.2 hm1 (by omega) k1 HSV2.out.2.1
        rw [HSV2.out.1] at hun
        have HUN := Lib.hid hun
        have HW9 := Lib.hid (And.intro k1 k2)
        clear hun k1 k2
        go_wp2_with fail
        refine HUN.out.mono ?_; rintro e w10 ⟨rfl, k1, k2, rfl⟩
        have HR9 := Lib.hid (And.intro HW9.out.1 (And.intro k1 k2))
        have HC9 : Hid (Chg w8 w9 (fun b _ => b = gu)) := Lib.hid ((Chg.of_wr HW9.out.2 (by omega)).mono (fun _ _ _ h => h.1))
        have HS9 : Hid (StkAt w9 p (some q3) (some ⟨g3, 0, none⟩) ns' c3) := Lib.hid (HE.out.2.2.2.2.2.1.chg HC9.out (fun b off h => ⟨_, h ▸ HE.out.2.2.2.2.2.2.2.2.2⟩))
        clear k1 k2
        go_wp2
        refine leaves_cons (f := 231) (args := #[.pointer (some ⟨p, 0, none⟩), .int .i64 (ns : Int)]) (by simp) (by simp [go_sem]) ?_
        refine (restoreD_any p (some q3) (some ⟨g3, 0, none⟩) ns' c3 ns .returning _ HS9.out (Nat.le_trans HNS.out hc3)).mono ?_
        rintro e u' wz ⟨rfl, rfl, hSz, hcz⟩
        obtain ⟨u1, u3, u5, u7, u8, u9, ua, ub, uc, _⟩ := HE.out
        exact ⟨.tuple #[.slice (some ⟨bq, 0, none⟩) (Pl.digs M (U / V)).length cq, .slice (some ⟨gu, 0, none⟩) (Pl.digs M (U % V)).length cu], by simp [results, Tryz.results215, go_sem], dl_fin HCK.out uc u9 ua ub u8 HQ2.out.1 HQ2.out.2 HC9.out HR9.out.1 HR9.out.2.1 HR9.out.2.2 HS9.out hSz hcz⟩
set_option maxRecDepth 100000 in
set_option maxHeartbeats 2000000 in
theorem div_any (p : Nat) (q : Option Nat) (A rA : Option Addr) (ns c bq cq bv cv rn rc n lu U V : Nat) (w : World) (hS : StkAt w p q A ns c) (hV : BigVars w) (hH : StkHi p q A) (hbq : 16 < bq) (hrA : ∀ b, rA = some ⟨b, 0, none⟩ → 16 < b)
    (hU : NatW w bq cq (Pl.digs M U)) (hVn : NatW w bv cv (Pl.digs M V)) (hO : Old w rA rc) (hrn : rn ≤ rc) (hln : (Pl.digs M V).length = n) (hlm : (Pl.digs M U).length = lu) (hn : (4 < n ∧ n < 40) ∨ n = 64) (hmn : lu ≤ 79) (hns : ns ≤ 500) (hVU : V ≤ U)
    (hAq : A ≠ some ⟨bq, 0, none⟩) (hAv : A ≠ some ⟨bv, 0, none⟩) (hAr : ∀ b, A = some ⟨b, 0, none⟩ → rA ≠ some ⟨b, 0, none⟩) (hrq : rA ≠ some ⟨bq, 0, none⟩) (hrv : rA ≠ some ⟨bv, 0, none⟩) :
    Calls Tryz.prog 202 #[.slice (some ⟨bq, 0, none⟩) lu cq, .pointer (some ⟨p, 0, none⟩), .slice rA rn rc, .slice (some ⟨bq, 0, none⟩) lu cq, .slice (some ⟨bv, 0, none⟩) n cv] w (DLBk w p q A rA ns bq cq U V) := by
  have hle : n ≤ lu := by
    rcases Nat.lt_or_ge lu n with h | h
    · have := Pl.len_lt M M_two (Pl.digs M U) (Pl.digs M V) (Pl.digs_lt M U M_two) (Pl.digs_norm M V M_two) (by omega)
      rw [Pl.val_digs M _ M_two, Pl.val_digs M _ M_two] at this
      omega
    · exact h
  obtain ⟨m, hm⟩ : ∃ m, lu = m + n := ⟨lu - n, by omega⟩
  have hc := natCmp_any (some ⟨bq, 0, none⟩) (some ⟨bv, 0, none⟩) cq cv U V w (rdW hU.at_ rfl) (rdW hVn.at_ rfl) (by omega) (by omega)
  obtain ⟨r, hr⟩ : ∃ r, Pl.cmpN U V = r := ⟨_, rfl⟩
  have hr0 : ¬ r < 0 := by rcases Pl.cmpN_cases U V with ⟨e, _⟩ | ⟨e, h⟩ | ⟨e, h⟩ <;> omega
  rw [hlm, hln, hr] at hc
  have HC := Lib.hid hc
  have HD := Lib.hid (fun k => divLarge_any p q A rA ns c bq cq bv cv rn rc n m lu U V (w.drewN k) (hS.chg ((Chg.refl w (fun _ _ => False)).drewN k) (fun _ _ h => h.elim)) (hV.chg ((Chg.refl w (fun _ _ => False)).drewN k) (fun _ _ h => h.elim)) hH hbq hrA (hU.drewN k) (hVn.drewN k) (hO.chg ((Chg.refl w (fun _ _ => False)).drewN k)) hrn hln hlm hm hn hmn hns hVU hAq hAv hAr hrq hrv)
  have n0 : ((n : Int) == 0) = false := by rw [beq_eq_false_iff_ne]; omega
  have n1 : ((n : Int) == 1) = false := by rw [beq_eq_false_iff_ne]; omega
  clear hS hV hH hU hVn hO hln hlm hn hm hc hr hVU hAq hAv hAr hrq hrv hrA hle
  go_enter_defers Tryz.func202, Tryz.ntmps202
  go_wp2_with fail
  refine HC.out.mono ?_; rintro e w1 ⟨rfl, k, rfl⟩
  go_wp2_with fail
  refine (HD.out k).mono ?_; rintro e w2 hB
  have hB2 : DLBk w p q A rA ns bq cq U V e w2 := by
    obtain ⟨br, cr, h1, h2, h3, h4, ⟨q', A', c', h5, h6, h7, h8⟩, h9⟩ := hB
    exact ⟨br, cr, h1, h2, h3, h4, ⟨q', A', c', h5, h6, h7, h8⟩, ((Chg.refl w (fun _ _ => False)).drewN k).trans h9 (fun _ _ h => h.elim) (fun _ _ _ h => h)⟩
  have HB := Lib.hid hB2
  obtain ⟨br, cr, rfl, _⟩ := hB
  clear hB2
  go_wp2
  exact ⟨.tuple #[.slice (some ⟨bq, 0, none⟩) (Pl.digs M (U / V)).length cq, .slice (some ⟨br, 0, none⟩) (Pl.digs M (U % V)).length cr], by simp [results, Tryz.results202, go_sem], HB.out⟩
def BArr (w : World) (b N : Nat) : Prop := ∃ cs : Array Value, Blk w b 5 cs ∧ cs.size = N
def BAt (w : World) (b o : Nat) (l : List Nat) : Prop := ∀ (j : Nat) (h : j < l.length), w.cell? ⟨b, o + j, none⟩ = some (.int .u8 ((l[j] : Nat) : Int))
section
variable {w w' : World} {b o N i : Nat} {l : List Nat} {S : Nat → Nat → Prop}
theorem BArr.lt (h : BArr w b N) : b < w.heap.size := by obtain ⟨cs, hB, _⟩ := h; exact hB.lt
theorem BArr.ne {b' N' : Nat} (h : BArr w b N) (h' : Arr w b' N') : b' ≠ b := by obtain ⟨cs, hB, _⟩ := h; exact hB.not_arr (by decide) h'
theorem BArr.chg (h : BArr w b N) (hc : Chg w w' S) (hs : ∀ off, ¬ S b off) : BArr w' b N := by
  obtain ⟨cs, hB, hl⟩ := h
  exact ⟨cs, (hc.blk b hs hB.lt).trans hB, hl⟩
theorem BArr.has (h : BArr w b N) (hi : i < N) : (∃ u, w.cell? ⟨b, i, none⟩ = some u) ∧ w.frozen? ⟨b, i, none⟩ = false := by
  obtain ⟨cs, hB, hl⟩ := h
  exact ⟨⟨_, by rw [hB.cell i]; exact Array.getElem?_eq_getElem (h := by omega)⟩, hB.frozen i⟩
theorem BArr.set (h : BArr w b N) (i : Nat) (u : Value) : BArr (w.setCell ⟨b, i, none⟩ u) b N := by
  obtain ⟨cs, hB, hl⟩ := h
  exact ⟨_, hB.set_ i u, by simpa using hl⟩
theorem BArr.put (h : BArr w b N) (hi : i < N) (u : Value) : (w.setCell ⟨b, i, none⟩ u).cell? ⟨b, i, none⟩ = some u := by
  obtain ⟨cs, hB, hl⟩ := h
  rw [(hB.set_ i u).cell i]
  simp [hl, hi]
theorem BAt.chg (h : BAt w b o l) (hc : Chg w w' S) (hs : ∀ j, j < l.length → ¬ S b (o + j)) : BAt w' b o l := fun j hj => hc.cell _ _ _ (hs j hj) (h j hj)
theorem BAt.nil (w : World) (b o : Nat) : BAt w b o [] := fun j hj => by simp at hj
theorem BAt.cons {x : Nat} (h0 : w.cell? ⟨b, o, none⟩ = some (.int .u8 ((x : Nat) : Int))) (h : BAt w b (o + 1) l) : BAt w b o (x :: l) := by
  intro j hj
  rcases j with _ | j
  · exact h0
  · have := h j (by simpa using hj)
    rw [show o + 1 + j = o + (j + 1) from by omega] at this
    exact this
theorem BAt.app {l2 : List Nat} (h1 : BAt w b o l) (h2 : BAt w b (o + l.length) l2) : BAt w b o (l ++ l2) := by
  intro j hj
  rcases Nat.lt_or_ge j l.length with h | h
  · rw [h1 j h, List.getElem_append_left h]
  · have := h2 (j - l.length) (by rw [List.length_append] at hj; omega)
    rw [show o + l.length + (j - l.length) = o + j from by omega] at this
    rw [this, List.getElem_append_right h]
theorem BAt.put {x : Nat} (h : BAt w b (o + 1) l) (hA : BArr w b N) (ho : o < N) : BAt (w.setCell ⟨b, o, none⟩ (.int .u8 ((x : Nat) : Int))) b o (x :: l) :=
  BAt.cons (hA.put ho _) (h.chg (chg_set w b o _) (fun j _ k => by have := k.2; omega))
end
def CwCh (p : Nat) (q : Option Nat) (A : Option Addr) (ns bq sb os ls : Nat) (b off : Nat) : Prop := b = bq ∨ (b = sb ∧ os ≤ off ∧ off < os + ls) ∨ StkCh p q A ns b off
structure CwC (w0 w : World) (p : Nat) (q : Option Nat) (A : Option Addr) (ns bq sb os ls Ns : Nat) (q' : Option Nat) (A' : Option Addr) (c' : Nat) : Prop where
  stk : StkAt w p q' A' ns c'
  ga : A' = A ∨ ∃ b, A' = some ⟨b, 0, none⟩ ∧ w0.heap.size ≤ b
  gq : q' = q ∨ ∃ b, q' = some b ∧ w0.heap.size ≤ b
  chg : Chg w0 w (CwCh p q A ns bq sb os ls)
  arr : BArr w sb Ns
def CwBk (w : World) (p : Nat) (q : Option Nat) (A : Option Addr) (ns bq sb os ls Ns V : Nat) (e : Ending) (w' : World) : Prop :=
  e = .returned (.tuple #[]) ∧ BAt w' sb os (Pl.dec ls V) ∧ ∃ q' A' c', CwC w w' p q A ns bq sb os ls Ns q' A' c'
section
variable {w0 w w' : World} {p : Nat} {q : Option Nat} {A : Option Addr} {ns bq sb os ls Ns : Nat} {q' : Option Nat} {A' : Option Addr} {c' : Nat}
theorem CwC.not (h : CwC w0 w p q A ns bq sb os ls Ns q' A' c') {b : Nat} (hb : b < w0.heap.size) (hA : A ≠ some ⟨b, 0, none⟩) : A' ≠ some ⟨b, 0, none⟩ := by
  intro e
  rcases h.ga with k | ⟨b', k, k2⟩
  · exact hA (k.symm.trans e)
  · rw [k] at e; injection e with e; injection e with e; omega
theorem CwC.step (h : CwC w0 w p q A ns bq sb os ls Ns q' A' c') {S : Nat → Nat → Prop} {q2 : Option Nat} {A2 : Option Addr} {c2 : Nat} (hc : Chg w w' S) (hS : ∀ b off, b < w0.heap.size → S b off → b = bq ∨ (b = sb ∧ os ≤ off ∧ off < os + ls) ∨ StkCh p q' A' ns b off) (hB : BArr w' sb Ns)
    (hst : StkAt w' p q2 A2 ns c2) (hA : A2 = A' ∨ ∃ b, A2 = some ⟨b, 0, none⟩ ∧ w.heap.size ≤ b) (hq : q2 = q' ∨ ∃ b, q2 = some b ∧ w.heap.size ≤ b) : CwC w0 w' p q A ns bq sb os ls Ns q2 A2 c2 := by
  have hs := h.chg.size
  refine ⟨hst, new_trans hs h.ga hA, new_trans hs h.gq hq, h.chg.trans hc (fun _ _ k => k) (fun b off hb k => ?_), hB⟩
  rcases hS b off hb k with k | k | k
  · exact Or.inl k
  · exact Or.inr (Or.inl k)
  · exact Or.inr (Or.inr (stkCh_to h.ga h.gq hb k))
theorem CwC.words (h : CwC w0 w p q A ns bq sb os ls Ns q' A' c') {N : Nat} (hc : Chg w w' (fun b _ => b = bq)) (hq : Arr w bq N) : CwC w0 w' p q A ns bq sb os ls Ns q' A' c' :=
  h.step hc (fun _b _off _ k => Or.inl k) (h.arr.chg hc (fun _off k => h.arr.ne hq k.symm)) (h.stk.chg hc (fun _b _off k => ⟨_, k ▸ hq⟩)) (Or.inl rfl) (Or.inl rfl)
theorem CwC.byte (h : CwC w0 w p q A ns bq sb os ls Ns q' A' c') {i : Nat} (h1 : os ≤ i) (h2 : i < os + ls) (u : Value) : CwC w0 (w.setCell ⟨sb, i, none⟩ u) p q A ns bq sb os ls Ns q' A' c' := by
  obtain ⟨cs, hB, hl⟩ := h.arr
  have hst : StkAt (w.setCell ⟨sb, i, none⟩ u) p q' A' ns c' := by
    have key := h.stk
    obtain ⟨v, hp⟩ := key.top
    cases q' with
    | none => exact ⟨key.1.far (p := ⟨sb, i, none⟩) (Blk.ne_ hp hB (by decide)) u, key.2⟩
    | some q' => exact ⟨key.1.far (p := ⟨sb, i, none⟩) (Blk.ne_ hp hB (by decide)) u, ⟨key.2.inner.far (p := ⟨sb, i, none⟩) (Blk.ne_ key.2.inner hB (by decide)) u, key.2.arr.set _ rfl _⟩⟩
  exact h.step (chg_set w sb i u) (fun b off _ k => Or.inr (Or.inl ⟨k.1, by have := k.2; omega, by have := k.2; omega⟩)) (h.arr.set i u) hst (Or.inl rfl) (Or.inl rfl)
theorem CwC.drewN (h : CwC w0 w p q A ns bq sb os ls Ns q' A' c') (k : Nat) : CwC w0 (w.drewN k) p q A ns bq sb os ls Ns q' A' c' :=
  h.step ((Chg.refl w (fun _ _ => False)).drewN k) (fun _ _ _ h => h.elim) (h.arr.chg ((Chg.refl w (fun _ _ => False)).drewN k) (fun _ h => h)) (h.stk.chg ((Chg.refl w (fun _ _ => False)).drewN k) (fun _ _ h => h.elim)) (Or.inl rfl) (Or.inl rfl)
end
end Go.Proofs.YtgfkdjmoflbmdaaGreatDoor
