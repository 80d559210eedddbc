/- Contract. -/
import Derived.Test.YtgfkdjmoflbmdaaGreatDoorRSmc
import Derived.Test.YtgfkdjmoflbmdaaGreatDoorRSh2
namespace Go.Proofs.YtgfkdjmoflbmdaaGreatDoor
open Go.RowKit
open Go.Proofs
set_option maxRecDepth 100000 in
set_option maxHeartbeats 16000000 in
theorem stepBig_any (p : Nat) (q : Option Nat) (A : Option Addr) (ns c bq oq Nq cq bu ou Nu cu bv ov lu lq : Nat) (qs us vs : List Nat) (w : World) (hS : StkAt w p q A ns c) (hV : BigVars w) (hH : StkHi p q A) (h : DivIn w A ns bq oq Nq bu ou Nu bv ov qs us vs)
    (hbq : 16 < bq) (hbu : 16 < bu) (hv : vs.length = 64) (hu : us.length = lu) (hq : qs.length = lq) (hcu : lu ≤ cu) (hcq : lq ≤ cq) (hk : lu ≤ 80) (hlq : lq ≤ 100) (hns : ns ≤ 1000) (hnorm : M ≤ 2 * vs.getD 63 0) (hVU : Pl.val M vs ≤ Pl.val M us) (hQ : Pl.val M us / Pl.val M vs < M ^ lq) (hqz : ∀ d ∈ qs, d = 0) :
    Calls Tryz.prog 275 #[.slice (some ⟨bq, oq, none⟩) lq cq, .pointer (some ⟨p, 0, none⟩), .slice (some ⟨bu, ou, none⟩) lu cu, .slice (some ⟨bv, ov, none⟩) 64 64, .int .i64 0] w (DivVal w p q A ns bq oq lq bu ou lu (Pl.val M us) (Pl.val M vs)) := by
  -- plain: lengths and parts
  have hNu := normW_any bu ou cu lu us w hu hcu (by omega) h.atu h.ult
  have hNv := normW_any bv ov 64 64 vs w hv (Nat.le_refl _) (by omega) h.atv h.vlt
  have hV1 : M ^ 63 ≤ Pl.val M vs := by
    have h1 := val_ge_top M vs 63 (by omega)
    have hy0 : 1 ≤ vs.getD 63 0 := by rw [M_eq] at hnorm; omega
    exact Nat.le_trans (Nat.le_mul_of_pos_left _ hy0) h1
  have hvl : (Pl.digs M (Pl.val M vs)).length = 64 := by
    have h1 := digs_ge hV1
    have h2 := Pl.digs_len_le M_two (Pl.val_lt M vs h.vlt)
    omega
  have hul : 64 ≤ (Pl.digs M (Pl.val M us)).length := digs_ge (Nat.le_trans hV1 hVU)
  rw [hvl] at hNv
  obtain ⟨U, hU⟩ : ∃ U, Pl.val M us = U := ⟨_, rfl⟩
  obtain ⟨V, hVe⟩ : ∃ V, Pl.val M vs = V := ⟨_, rfl⟩
  obtain ⟨ln, hln⟩ : ∃ ln, (Pl.digs M (Pl.val M us)).length = ln := ⟨_, rfl⟩
  have hlen := Pl.digs_len_le M_two (Pl.val_lt M us h.ult)
  rw [hu] at hlen
  rw [hln] at hNu hul hlen
  have hvp : 0 < V := by rw [← hVe]; exact Nat.lt_of_lt_of_le (Nat.pow_pos M_pos) hV1
  have HSV := Lib.hid (save_any p q A ns c w hS)
  have HNT := Lib.hid (stkNat_any p q A ns c 33 w hS (by omega) (by omega) (by omega))
  have HNU := Lib.hid hNu
  have HNV := Lib.hid hNv
  have HIN := Lib.hid h
  have HS := Lib.hid hS
  have HV := Lib.hid (And.intro hV hH)
  have HP := Lib.hid (And.intro hU (And.intro hVe (And.intro hln (And.intro hlen (And.intro hvp (And.intro hVU (And.intro hQ (And.intro hqz (And.intro hnorm (And.intro hu (And.intro hv hq)))))))))))
  have v15 := hV.v15
  have l1 : ((ln : Int) == 0) = false := by rw [beq_eq_false_iff_ne]; omega
  have l2 : ¬ (ln : Int) - 64 < 0 := by omega
  have l3 : IntKind.i64.wrap ((ln : Int) - 64) = (ln : Int) - 64 := IntWalk.i64_in _ (by omega)
  have l4 : ¬ (32 : Int) < (ln : Int) - 64 := by omega
  have l5 : (ln : Int) - 64 ≤ 32 := by omega
  clear hNu hNv h hS hV hH hV1 hvl hU hVe hln hvp hVU hQ hqz hnorm hu hv hq
  go_enter_defers Tryz.func275, Tryz.ntmps275
  go_wp2_with fail
  refine HNU.out.mono ?_; rintro e w1 ⟨rfl, _, htd, rfl⟩
  have HTD := Lib.hid htd
  clear htd
  go_wp2_with fail
  refine HNV.out.mono ?_; rintro e w1 ⟨rfl, _, _, rfl⟩
  go_wp2_with fail
  refine HSV.out.mono ?_; rintro e w1 ⟨rfl, rfl⟩
  go_wp2_with fail
  refine HNT.out.mono ?_; rintro e w2 ⟨g1, c1, q1, rfl, hAg1, hgk1, hS2, hgA1, hqq1, hch1⟩
  have H2 := Lib.hid (And.intro hAg1 (And.intro hgk1 (And.intro hS2 (And.intro hgA1 (And.intro hqq1 hch1)))))
  clear hAg1 hgk1 hS2 hgA1 hqq1 hch1
  go_wp2_with fail
  go_loopw [14] (fun jv wx => jv = .int .i64 ((ln : Int) - 64) ∧ w2 = wx) (fun _ _ => 0)
  case atStart => exact ⟨rfl, rfl⟩
  case round =>
    obtain ⟨rfl, rfl⟩ := hrel
    rename_i KK hKK
    have HKK := Lib.hid hKK
    clear hKK
    go_wp2
    refine HKK.out _ _ ?_
    refine wp_code (c' := (Tryz.f275.body.bind (tailOf 42)).getD .skip) (by kernel_rfl) ?_
    obtain ⟨QQ, hQQ⟩ : ∃ QQ, bodyPostD Tryz.prog Tryz.f275 (DivVal w p q A ns bq oq lq bu ou lu (Pl.val M us) (Pl.val M vs)) = QQ := ⟨_, rfl⟩
    rw [hQQ]
    have HQQ := Lib.hid hQQ
    clear hQQ
    refine stepMid (Q := QQ) p q A ns c bq oq Nq cq bu ou Nu cu bv ov lu lq ln U V qs us vs w w2 g1 c1 q1 _ HS HV HIN hbq hbu HP HTD hcu hcq hk hlq hns hul hlen v15 l3 H2 ?_
    intro wx
    intros
    rename_i hM
    rw [← HQQ.out]
    show Leaves Tryz.prog Tryz.f275 _ _ _ .returning wx
    obtain ⟨us', qs', q', g, c', n', m1, m2, m3, m4, m5, m6, m7, m8, m9, m10, m11, m12, m13, m14⟩ := hM
    refine leaves_cons (f := 231) (args := #[.pointer (some ⟨p, 0, none⟩), .int .i64 (ns : Int)]) (by simp) (by simp [go_sem]) ?_
    refine (restoreD_any p (some q') (some ⟨g, 0, none⟩) n' c' ns .returning wx m9 (by omega)).mono ?_
    rintro e u' w' ⟨rfl, rfl, hS4, hch4⟩
    have nu := (m9.ne (m14.arr _ _ HIN.out.arru)).2
    have nq := (m9.ne (m14.arr _ _ HIN.out.arrq)).2
    rw [← HP.out.1, ← HP.out.2.1] at m5 m6
    refine ⟨_, results_none rfl _ _ _, rfl, us', qs', q', g, c', m1, m2, m3, m4, m5, m6, hch4.at m7 (fun _ _ h => nu h.1), hch4.at m8 (fun _ _ h => nq h.1), hS4, m12, m13, ?_⟩
    refine m14.trans hch4 (fun _ _ h => h) (fun b off hl h => ?_)
    rcases m13 with h2 | ⟨_, h2⟩
    · exact Or.inr (Or.inl (h2.trans h.1))
    · have := Option.some.inj h.1; omega
set_option maxRecDepth 100000 in
theorem divRec_any (p : Nat) (q : Option Nat) (A : Option Addr) (ns c bq oq Nq cq bu ou Nu cu bv ov lu lq : Nat) (qs us vs : List Nat) (w : World) (hS : StkAt w p q A ns c) (hV : BigVars w) (hH : StkHi p q A) (h : DivIn w A ns bq oq Nq bu ou Nu bv ov qs us vs)
    (hbq : 16 < bq) (hbu : 16 < bu) (hv : vs.length = 64) (hu : us.length = lu) (hq : qs.length = lq) (hcu : lu ≤ cu) (hcq : lq ≤ cq) (hk : lu ≤ 80) (hlq : lq ≤ 100) (hq0 : 0 < lq) (hns : ns ≤ 1000) (hnorm : M ≤ 2 * vs.getD 63 0) (hVU : Pl.val M vs ≤ Pl.val M us) (hQ : Pl.val M us / Pl.val M vs < M ^ lq) :
    Calls Tryz.prog 240 #[.slice (some ⟨bq, oq, none⟩) lq cq, .pointer (some ⟨p, 0, none⟩), .slice (some ⟨bu, ou, none⟩) lu cu, .slice (some ⟨bv, ov, none⟩) 64 64] w (DivVal w p q A ns bq oq lq bu ou lu (Pl.val M us) (Pl.val M vs)) := by
  have hfq := h.fitq
  rw [hq] at hfq
  obtain ⟨w1, hrun, hz, hw1⟩ := run_clearW bq oq Nq lq cq 126 0 Tryz.underlying126 w h.arrq hfq
  have hch := Chg.of_wr hw1 hq0
  have hS1 := hS.chg hch (fun b off k => ⟨_, k.1 ▸ h.arrq⟩)
  have hV1 := hV.chg hch (fun b off k => by rw [k.1]; exact hbq)
  have hIn : DivIn w1 A ns bq oq Nq bu ou Nu bv ov (List.replicate lq 0) us vs := by
    have hqu := h.qu
    have hqv := h.qv
    have hsq := h.sq
    rw [hq] at hqu hqv hsq
    obtain ⟨Nv, hNv⟩ := h.arrv
    refine ⟨hw1.arr' h.arrq, by rw [List.length_replicate]; exact hfq, hz, hw1.arr' h.arru, h.fitu, hw1.at h.atu (by omega), ⟨Nv, hw1.arr' hNv⟩, hw1.at h.atv (by omega), by rw [List.length_replicate]; exact hqu, by rw [List.length_replicate]; exact hqv, h.uv, by rw [List.length_replicate]; exact hsq, h.su, h.sv, h.ult, fun d hd => by rw [(List.mem_replicate.1 hd).2]; exact M_pos, h.vlt⟩
  have hst := stepBig_any p q A ns c bq oq Nq cq bu ou Nu cu bv ov lu lq (List.replicate lq 0) us vs w1 hS1 hV1 hH hIn hbq hbu hv hu List.length_replicate hcu hcq hk hlq hns hnorm hVU hQ (fun d hd => (List.mem_replicate.1 hd).2)
  have hfin : ∀ e w2, DivVal w1 p q A ns bq oq lq bu ou lu (Pl.val M us) (Pl.val M vs) e w2 → e = .returned (.tuple #[]) ∧ DivVal w p q A ns bq oq lq bu ou lu (Pl.val M us) (Pl.val M vs) (.returned (.tuple #[])) w2 := by
    rintro e w2 ⟨rfl, us', qs', q', g, c', m1, m2, m3, m4, m5, m6, m7, m8, m9, m10, m11, m12⟩
    have hsz := hch.size
    refine ⟨rfl, rfl, us', qs', q', g, c', m1, m2, m3, m4, m5, m6, m7, m8, m9, m10.imp id (fun h => by omega), m11.imp id (fun h => ⟨h.1, by omega⟩), ?_⟩
    exact hch.trans m12 (fun b off k => Or.inr (Or.inr (Or.inr (Or.inr ⟨k.1, k.2.1, k.2.2⟩)))) (fun b off _ k => k)
  have HST := Lib.hid hst
  have HF := Lib.hid hfin
  clear hS hV hH h hv hu hq hnorm hVU hQ hz hw1 hch hS1 hV1 hIn hst hfin
  go_enter Tryz.func240, Tryz.ntmps240
  go_wp2_with fail
  refine HST.out.mono ?_; rintro e w2 hB
  obtain ⟨he, hB2⟩ := HF.out e w2 hB
  subst he
  have HB := Lib.hid hB2
  clear hB hB2
  go_wp2
  go_end0
  exact HB.out
def DLBk (w : World) (p : Nat) (q : Option Nat) (A rA : Option Addr) (ns bq cq U V : Nat) (e : Ending) (w' : World) : Prop :=
  ∃ br cr, e = .returned (.tuple #[.slice (some ⟨bq, 0, none⟩) (Pl.digs M (U / V)).length cq, .slice (some ⟨br, 0, none⟩) (Pl.digs M (U % V)).length cr]) ∧ NatW w' bq cq (Pl.digs M (U / V)) ∧ NatW w' br cr (Pl.digs M (U % V)) ∧ (rA = some ⟨br, 0, none⟩ ∨ w.heap.size ≤ br) ∧ StkTo w p q A ns br w' ∧ Chg w w' (fun b off => b = bq ∨ rA = some ⟨b, 0, none⟩ ∨ StkCh p q A ns b off)
theorem top_shift {d : Nat} (h0 : 0 < d) (h : d < M) : ∃ s, s < 64 ∧ 2 ^ 63 ≤ d * 2 ^ s ∧ d * 2 ^ s < M := by
  obtain ⟨k, hk0, hk64, hb⟩ := bits_ex d h0 h
  refine ⟨64 - k, by omega, ?_, ?_⟩
  · have h1 := Nat.mul_le_mul_right (2 ^ (64 - k)) hb.lo
    rw [← Nat.pow_add, show k - 1 + (64 - k) = 63 from by omega] at h1
    exact h1
  · have h1 := Nat.mul_lt_mul_of_pos_right hb.hi (Nat.pow_pos (n := 64 - k) (show 0 < 2 by omega))
    rw [← Nat.pow_add, show k + (64 - k) = 64 from by omega] at h1
    exact h1
theorem shl_words {V s n : Nat} (hs0 : 0 < s) (hs : s < 64) (hn : (Pl.digs M V).length = n) (h0 : 0 < n) : (Pl.shlV (2 ^ s) (2 ^ (64 - s)) (Pl.digs M V) 0).length = n ∧ (∀ d ∈ Pl.shlV (2 ^ s) (2 ^ (64 - s)) (Pl.digs M V) 0, d < M) ∧
    Pl.val M (Pl.shlV (2 ^ s) (2 ^ (64 - s)) (Pl.digs M V) 0) + M ^ n * Pl.shlO (2 ^ (64 - s)) (Pl.digs M V) 0 = V * 2 ^ s ∧ Pl.shlO (2 ^ (64 - s)) (Pl.digs M V) 0 < M ∧ (∀ d, (Pl.digs M V).getD (n - 1) 0 = d → d * 2 ^ s < M → Pl.shlO (2 ^ (64 - s)) (Pl.digs M V) 0 = 0) := by
  have hST : 2 ^ s * 2 ^ (64 - s) = M := two_st (by omega)
  have h1 := Pl.shlV_val (2 ^ s) (2 ^ (64 - s)) (Pl.digs M V) 0
  have h2 := Pl.shlV_lt (S := 2 ^ s) (T := 2 ^ (64 - s)) (Pl.digs M V) 0 (Nat.pow_pos (by omega)) (Nat.pow_pos (by omega)) (by rw [hST]; exact Pl.digs_lt M V M_two)
  rw [hST, Pl.val_digs M _ M_two, hn, Nat.add_zero] at h1
  rw [hST] at h2
  have hO := Pl.shlO_last (2 ^ (64 - s)) (Pl.digs M V) 0 (by omega)
  refine ⟨by rw [Pl.shlV_len, hn], h2, h1, ?_, ?_⟩
  · rw [hO]
    exact Nat.lt_of_le_of_lt (Nat.div_le_self _ _) (Pl.digs_lt M V M_two _ (List.getElem_mem _))
  · intro d hd hlt
    rw [hO]
    have e : (Pl.digs M V)[(Pl.digs M V).length - 1]'(by omega) = d := by
      subst hn
      rw [← hd]
      simp [List.getD_eq_getElem?_getD, show (Pl.digs M V).length - 1 < (Pl.digs M V).length from by omega]
    rw [e]
    refine Nat.div_eq_of_lt ?_
    rw [← hST, Nat.mul_comm] at hlt
    exact Nat.lt_of_mul_lt_mul_left hlt
def LSt (w3 : World) (g1 ns gu m n s U V : Nat) (wx : World) : Prop :=
  ∃ us vs : List Nat, us.length = m + 1 + n ∧ vs.length = n ∧ (∀ d ∈ us, d < M) ∧ (∀ d ∈ vs, d < M) ∧ Pl.val M us = U * 2 ^ s ∧ Pl.val M vs = V * 2 ^ s ∧ WAt wx gu 0 us ∧ WAt wx g1 ns vs ∧ Chg w3 wx (fun b off => b = gu ∨ (b = g1 ∧ ns ≤ off ∧ off < ns + n))
structure DLC (w w7 : World) (p : Nat) (q : Option Nat) (A rA : Option Addr) (ns ns' c1 q1 g1 gu cu bq cq m lu : Nat) : Prop where
  chg : Chg w w7 (fun b off => b = bq ∨ rA = some ⟨b, 0, none⟩ ∨ StkCh p q A ns b off)
  stk : StkAt w7 p (some q1) (some ⟨g1, 0, none⟩) ns' c1
  ga : A = some ⟨g1, 0, none⟩ ∨ w.heap.size ≤ g1
  gq : q = some q1 ∨ (q = none ∧ w.heap.size ≤ q1)
  gr : rA = some ⟨gu, 0, none⟩ ∨ w.heap.size ≤ gu
  arrq : Arr w7 bq cq
  arru : Arr w7 gu cu
  n1 : gu ≠ g1
  n2 : bq ≠ g1
  n3 : bq ≠ gu
  le : ns ≤ ns'
  fitu : lu + 1 ≤ cu
  cum : cu ≤ maxLen
  cqm : cq ≤ maxLen
  fitq : m + 1 ≤ cq
theorem dl_chg {w w7 w8 : World} {p : Nat} {q : Option Nat} {A rA : Option Addr} {ns ns' c1 q1 g1 gu cu bq cq m lu : Nat} (h : DLC w w7 p q A rA ns ns' c1 q1 g1 gu cu bq cq m lu) (hc : Chg w7 w8 (DivCh p (some q1) (some ⟨g1, 0, none⟩) ns' bq 0 (m + 1) gu 0 (lu + 1))) :
    Chg w w8 (fun b off => b = bq ∨ rA = some ⟨b, 0, none⟩ ∨ StkCh p q A ns b off) := by
  refine h.chg.trans hc (fun _ _ h => h) (fun b off hb k => ?_)
  rcases k with k | k | k | k | k
  · exact Or.inr (Or.inr (Or.inl k))
  · rcases h.gq with e | ⟨_, e⟩
    · exact Or.inr (Or.inr (Or.inr (Or.inl (e.trans k))))
    · have := Option.some.inj k; omega
  · rcases h.ga with e | e
    · exact Or.inr (Or.inr (Or.inr (Or.inr ⟨e.trans k.1, Nat.le_trans h.le k.2⟩)))
    · have k1 := k.1
      injection k1 with k1; injection k1 with k1; omega
  · rcases h.gr with e | e
    · exact Or.inr (Or.inl (by rw [k.1]; exact e))
    · have := k.1; omega
  · exact Or.inl k.1
theorem dl_fin {w w7 w8 w9 wz : World} {p : Nat} {q : Option Nat} {A rA : Option Addr} {ns ns' c1 q1 g1 gu cu bq cq m lu U V : Nat} {qs3 rs : List Nat} {q3 g3 c3 : Nat} (h : DLC w w7 p q A rA ns ns' c1 q1 g1 gu cu bq cq m lu)
    (h8 : Chg w7 w8 (DivCh p (some q1) (some ⟨g1, 0, none⟩) ns' bq 0 (m + 1) gu 0 (lu + 1))) (_hS8 : StkAt w8 p (some q3) (some ⟨g3, 0, none⟩) ns' c3) (hg3 : some (⟨g1, 0, none⟩ : Addr) = some ⟨g3, 0, none⟩ ∨ w7.heap.size ≤ g3) (hq3 : some q1 = some q3 ∨ (some q1 = none ∧ w7.heap.size ≤ q3))
    (hq : WAt w8 bq 0 qs3) (hql : (Pl.digs M (U / V)).length ≤ m + 1) (hqt : qs3.take (Pl.digs M (U / V)).length = Pl.digs M (U / V))
    (h9 : Chg w8 w9 (fun b _ => b = gu)) (hr : WAt w9 gu 0 rs) (hrl : (Pl.digs M (U % V)).length ≤ lu + 1) (hrt : rs.take (Pl.digs M (U % V)).length = Pl.digs M (U % V))
    (hS9 : StkAt w9 p (some q3) (some ⟨g3, 0, none⟩) ns' c3) (hSz : StkAt wz p (some q3) (some ⟨g3, 0, none⟩) ns c3) (hz : Chg w9 wz (fun b off => some q3 = some b ∧ off = 0)) :
    DLBk w p q A rA ns bq cq U V (.returned (.tuple #[.slice (some ⟨bq, 0, none⟩) (Pl.digs M (U / V)).length cq, .slice (some ⟨gu, 0, none⟩) (Pl.digs M (U % V)).length cu])) wz := by
  have a8q := h8.arr _ _ h.arrq
  have a8u := h8.arr _ _ h.arru
  have a9q := h9.arr _ _ a8q
  have a9u := h9.arr _ _ a8u
  have nq := (hS9.ne a9q).2
  have nu := (hS9.ne a9u).2
  have s7 := h.chg.size
  have hT8 := dl_chg h h8
  refine ⟨gu, cu, rfl, ⟨hz.arr _ _ a9q, hz.at (h9.at ?_ (fun _ _ k => h.n3 k)) (fun _ _ k => nq k.1), ?_, h.cqm⟩, ⟨hz.arr _ _ a9u, hz.at ?_ (fun _ _ k => nu k.1), ?_, h.cum⟩, h.gr, ⟨some q3, some ⟨g3, 0, none⟩, c3, hSz, ?_, ?_, ?_⟩, ?_⟩
  · rw [← hqt]; exact hq.take _
  · have := h.fitq; omega
  · rw [← hrt]; exact hr.take _
  · have := h.fitu; omega
  · rcases hg3 with e | e
    · rw [← e]
      rcases h.ga with k | k
      · exact Or.inl k.symm
      · exact Or.inr ⟨g1, rfl, k⟩
    · exact Or.inr ⟨g3, rfl, by omega⟩
  · rcases hq3 with e | ⟨e, _⟩
    · rw [← e]
      rcases h.gq with k | ⟨_, k⟩
      · exact Or.inl k.symm
      · exact Or.inr ⟨q1, rfl, k⟩
    · cases e
  · intro e
    injection e with e; injection e with e
    rcases hg3 with k | k
    · injection k with k; injection k with k
      exact h.n1 (by rw [k, e])
    · have := h.arru.lt; omega
  · refine (hT8.trans h9 (fun _ _ k => k) (fun b off hb k => ?_)).trans hz (fun _ _ k => k) (fun b off hb k => ?_)
    · rcases h.gr with e | e
      · exact Or.inr (Or.inl (by rw [k]; exact e))
      · omega
    · rcases hq3 with e | ⟨e, _⟩
      · rcases h.gq with k2 | ⟨_, k2⟩
        · exact Or.inr (Or.inr (Or.inr (Or.inl (k2.trans (e.trans k.1)))))
        · have := Option.some.inj (e.trans k.1); omega
      · cases e
end Go.Proofs.YtgfkdjmoflbmdaaGreatDoor
