/- Contract; Contract; Contracts. -/
import Derived.Test.YtgfkdjmoflbmdaaGreatDoorRWgxWc
import Derived.Test.YtgfkdjmoflbmdaaGreatDoorRWvxWz
import Derived.Laws.RangeString
namespace Go.Proofs.YtgfkdjmoflbmdaaGreatDoor
open Go.RowKit
open Go.Proofs
theorem idOne_nn {a b : Pl.Bytes} (ha : Pl.allDig a = true) (hb : Pl.allDig b = true) : Pl.idOne a b = Pl.cmpN (Pl.natOf a) (Pl.natOf b) := by
  rw [Pl.idOne, if_pos ha, if_pos hb, Pl.ordNum_nat]
  · rw [Pl.allDig, Bool.and_eq_true] at ha; exact ha.1
  · rw [Pl.allDig, Bool.and_eq_true] at hb; exact hb.1
theorem idOne_nt {a b : Pl.Bytes} (ha : Pl.allDig a = true) (hb : Pl.allDig b = false) : Pl.idOne a b = -1 := by rw [Pl.idOne, if_pos ha, if_neg (by rw [hb]; decide)]
theorem idOne_tn {a b : Pl.Bytes} (ha : Pl.allDig a = false) (hb : Pl.allDig b = true) : Pl.idOne a b = 1 := by rw [Pl.idOne, if_neg (by rw [ha]; decide), if_pos hb]
theorem idOne_tt {a b : Pl.Bytes} (ha : Pl.allDig a = false) (hb : Pl.allDig b = false) : Pl.idOne a b = Lib.compareBytes a b := by rw [Pl.idOne, if_neg (by rw [ha]; decide), if_neg (by rw [hb]; decide), Pl.ordB_compare]
theorem ordB_three (a b : Pl.Bytes) : Pl.ordB a b = -1 ∨ Pl.ordB a b = 0 ∨ Pl.ordB a b = 1 := by
  unfold Pl.ordB; split
  · exact Or.inl rfl
  · split
    · exact Or.inr (Or.inr rfl)
    · exact Or.inr (Or.inl rfl)
theorem cmpN_three (a b : Nat) : Pl.cmpN a b = -1 ∨ Pl.cmpN a b = 0 ∨ Pl.cmpN a b = 1 := by
  unfold Pl.cmpN; split
  · exact Or.inl rfl
  · split
    · exact Or.inr (Or.inr rfl)
    · exact Or.inr (Or.inl rfl)
theorem idOne_three (a b : Pl.Bytes) : Pl.idOne a b = -1 ∨ Pl.idOne a b = 0 ∨ Pl.idOne a b = 1 := by
  cases ha : Pl.allDig a with
  | true =>
    cases hb : Pl.allDig b with
    | true => rw [idOne_nn ha hb]; exact cmpN_three _ _
    | false => rw [idOne_nt ha hb]; exact Or.inl rfl
  | false =>
    cases hb : Pl.allDig b with
    | true => rw [idOne_tn ha hb]; exact Or.inr (Or.inr rfl)
    | false => rw [idOne_tt ha hb, Pl.ordB_compare]; exact ordB_three _ _
theorem IntAt.below {w w' : World} {Z B N : Nat} {ng : Bool} (h : IntAt w Z B ng N) (hb : Below w.heap.size w w') : IntAt w' Z B ng N := by
  obtain ⟨v, h1, h2⟩ := h
  exact ⟨v, h1.below hb h1.lt, own_below h2 hb⟩
theorem words_of {l : Pl.Bytes} (ha : Pl.allDig l = true) (hl : l.length ≤ 30000) : (Pl.digs M (Pl.natOf l)).length ≤ 900000 := by
  rw [Pl.allDig, Bool.and_eq_true] at ha
  exact Nat.le_trans (ten_words (Pl.natOf_lt l ha.1) hl) (by omega)
set_option maxRecDepth 100000 in
set_option maxHeartbeats 4000000 in
theorem implIdents_any (A B : Option Addr) (ca cb : Nat) (xs ys : List Pl.Bytes) (pe pn pi : Addr) (w : World) (hra : Rd w 1 A xs.length (xs.map S)) (hrb : Rd w 1 B ys.length (ys.map S)) (hV : PkgVars w pe pn pi)
    (hla : xs.length ≤ 40000) (_hlb : ys.length ≤ 40000) (hma : ∀ s ∈ xs, s.length ≤ 30000 ∧ Pl.idKnown1 s = true) (hmb : ∀ s ∈ ys, s.length ≤ 30000 ∧ Pl.idKnown1 s = true) :
    Calls Tryz.prog 124 #[.slice A xs.length ca, .slice B ys.length cb] w fun e w' => e = .returned (.int .i64 (Pl.identsCmp xs ys)) ∧ Below w.heap.size w w' := by
  have HMA := Lib.hid hma
  have HMB := Lib.hid hmb
  clear hma hmb
  go_enter Tryz.func124, Tryz.ntmps124
  go_upto_region 2 with (fail)
  obtain ⟨m, hm, hmx, hmy, hmo⟩ : ∃ m : Nat, min (xs.length : Int) (ys.length : Int) = (m : Int) ∧ m ≤ xs.length ∧ m ≤ ys.length ∧ (m = xs.length ∨ m = ys.length) := by
    rcases Nat.le_total xs.length ys.length with h | h
    · exact ⟨xs.length, by omega, Nat.le_refl _, h, Or.inl rfl⟩
    · exact ⟨ys.length, by omega, h, Nat.le_refl _, Or.inr rfl⟩
  rw [hm]
  clear hm
  go_wp2
  go_loopw [18] (fun iv wr => ∃ k : Nat, k ≤ m ∧ iv = .int .i64 (k : Int) ∧ Pl.identsCmp (xs.drop k) (ys.drop k) = Pl.identsCmp xs ys ∧ Below w.heap.size w wr) (fun iv _ => m - (intOf iv).toNat)
  case atStart => exact ⟨0, Nat.zero_le _, rfl, rfl, Below.refl _ _⟩
  case round =>
    obtain ⟨k, hk, rfl, hcmp, hbel⟩ := hrel
    have HC := Lib.hid hcmp
    clear hcmp
    by_cases hkm : k < m
    · have hkx : k < xs.length := by omega
      have hky : k < ys.length := by omega
      obtain ⟨b1, o1, rfl, hc⟩ := (hra.below hbel).str_at hkx
      obtain ⟨b2, o2, rfl, hd⟩ := (hrb.below hbel).str_at hky
      have hs1 := HMA.out xs[k] (List.getElem_mem hkx)
      have hs2 := HMB.out ys[k] (List.getElem_mem hky)
      have hstep := Pl.identsCmp_step xs ys k hkx hky
      obtain ⟨x, hx⟩ : ∃ x, xs[k] = x := ⟨_, rfl⟩
      obtain ⟨y, hy⟩ : ∃ y, ys[k] = y := ⟨_, rfl⟩
      rw [hx] at hc hs1 hstep
      rw [hy] at hd hs2 hstep
      have HS := Lib.hid hstep
      clear hstep hx hy
      obtain ⟨l1, l2, l3, l4⟩ := cell_lts hd
      have hVr := hV.below hbel
      have C1 := Lib.hid (convertToBigInt_any ⟨x.toArray⟩ pe pn pi wr hs1.1 hVr hs1.2)
      have C2 := Lib.hid (fun W (hb : Below wr.heap.size wr W) => convertToBigInt_any ⟨y.toArray⟩ pe pn pi W hs2.1 (hVr.below hb) hs2.2)
      have h3 := idOne_three x y
      have H3 := Lib.hid h3
      clear h3
      go_wp2_with fail
      refine C1.out.mono ?_; rintro e w1 ⟨hb1, ⟨ha, Z1, B1, hZ1, hZB1, rfl, hI1⟩ | ⟨ha, rfl⟩⟩
      · have hd1 := (hb1.cell (p := ⟨b2, o2 + k, none⟩) l1).trans hd
        go_wp2_with fail
        refine (C2.out w1 hb1).mono ?_; rintro e w2 ⟨hb2, ⟨hb, Z2, B2, hZ2, hZB2, rfl, hI2⟩ | ⟨hb, rfl⟩⟩
        · have hI1' : IntAt w2 Z1 B1 false (Pl.natOf x) := hI1.below hb2
          have hB2 : Below w.heap.size w w2 := hbel.trans ((hb1.mono hbel.size).trans (hb2.mono (Nat.le_trans hbel.size hb1.size)))
          have hz0 := idOne_nn ha hb
          have hCM := Cmp_any Z1 Z2 B1 B2 (Pl.natOf x) (Pl.natOf y) w2 hI1' hI2 (words_of ha hs1.1) (words_of hb hs2.1)
          obtain ⟨z, hzz⟩ : ∃ z, Pl.cmpN (Pl.natOf x) (Pl.natOf y) = z := ⟨_, rfl⟩
          rw [hzz] at hCM hz0
          have HCM := Lib.hid hCM
          clear hCM ha hb
          rcases H3.out with hz | hz | hz
          · have HZ := Lib.hid hz
            obtain rfl : z = -1 := hz0.symm.trans hz
            clear hz hz0 hzz
            go_wp2_with (go_at_call 122; refine HCM.out.mono ?_; rintro e w3 ⟨rfl, q, rfl⟩)
            go_ret
            exact ⟨ret_int (by rw [← HC.out, HS.out, if_pos (by rw [HZ.out]; decide), HZ.out]), below_drewN hB2 _⟩
          · have HZ := Lib.hid hz
            obtain rfl : z = 0 := hz0.symm.trans hz
            clear hz hz0 hzz
            go_wp2_with (go_at_call 122; refine HCM.out.mono ?_; rintro e w3 ⟨rfl, q, rfl⟩)
            go_roundw
            case rel => exact ⟨k + 1, by omega, by go_num, by rw [← HC.out, HS.out, if_neg (by rw [HZ.out]; simp)], below_drewN hB2 _⟩
            case measure => simp [intOf]; omega
          · have HZ := Lib.hid hz
            obtain rfl : z = 1 := hz0.symm.trans hz
            clear hz hz0 hzz
            go_wp2_with (go_at_call 122; refine HCM.out.mono ?_; rintro e w3 ⟨rfl, q, rfl⟩)
            go_ret
            exact ⟨ret_int (by rw [← HC.out, HS.out, if_pos (by rw [HZ.out]; decide), HZ.out]), below_drewN hB2 _⟩
        · have hB2 : Below w.heap.size w w2 := hbel.trans ((hb1.mono hbel.size).trans (hb2.mono (Nat.le_trans hbel.size hb1.size)))
          have HZ := Lib.hid (idOne_nt ha hb)
          clear ha hb
          go_wp2
          go_ret
          exact ⟨ret_int (by rw [← HC.out, HS.out, if_pos (by rw [HZ.out]; decide), HZ.out]), hB2⟩
      · have hd1 := (hb1.cell (p := ⟨b2, o2 + k, none⟩) l1).trans hd
        have hc1 := (hb1.cell (p := ⟨b1, o1 + k, none⟩) (cell_lts hc).1).trans hc
        go_wp2_with fail
        refine (C2.out w1 hb1).mono ?_; rintro e w2 ⟨hb2, ⟨hb, Z2, B2, hZ2, hZB2, rfl, hI2⟩ | ⟨hb, rfl⟩⟩
        · have hB2 : Below w.heap.size w w2 := hbel.trans ((hb1.mono hbel.size).trans (hb2.mono (Nat.le_trans hbel.size hb1.size)))
          have HZ := Lib.hid (idOne_tn ha hb)
          clear ha hb
          go_wp2
          go_ret
          exact ⟨ret_int (by rw [← HC.out, HS.out, if_pos (by rw [HZ.out]; decide), HZ.out]), hB2⟩
        · have hB2 : Below w.heap.size w w2 := hbel.trans ((hb1.mono hbel.size).trans (hb2.mono (Nat.le_trans hbel.size hb1.size)))
          have hd2 := (hb2.cell (p := ⟨b2, o2 + k, none⟩) (Nat.lt_of_lt_of_le l1 hb1.size)).trans hd1
          have hc2 := (hb2.cell (p := ⟨b1, o1 + k, none⟩) (Nat.lt_of_lt_of_le (cell_lts hc).1 hb1.size)).trans hc1
          have hz0 := idOne_tt ha hb
          have hCM := fun W => Tryz.strings_Compare ⟨x.toArray⟩ ⟨y.toArray⟩ W
          obtain ⟨z, hzz⟩ : ∃ z, Lib.compareBytes x y = z := ⟨_, rfl⟩
          have hCM2 : ∀ W, Calls Tryz.prog 116 #[S x, S y] W fun e w' => e = .returned (.int .i64 z) ∧ w' = W := fun W => by rw [← hzz]; exact hCM W
          rw [hzz] at hz0
          have HCM := Lib.hid hCM2
          clear hCM hCM2 ha hb
          rcases H3.out with hz | hz | hz
          · have HZ := Lib.hid hz
            obtain rfl : z = -1 := hz0.symm.trans hz
            clear hz hz0 hzz
            go_wp2_with fail
            go_quiet ((go_at_call 116; refine (HCM.out _).mono ?_; rintro e w' ⟨rfl, hw⟩; exact ⟨rfl, _, hw⟩))
            go_wp2
            go_ret
            exact ⟨ret_int (by rw [← HC.out, HS.out, if_pos (by rw [HZ.out]; decide), HZ.out]), below_drewN hB2 _⟩
          · have HZ := Lib.hid hz
            obtain rfl : z = 0 := hz0.symm.trans hz
            clear hz hz0 hzz
            go_wp2_with fail
            go_quiet ((go_at_call 116; refine (HCM.out _).mono ?_; rintro e w' ⟨rfl, hw⟩; exact ⟨rfl, _, hw⟩))
            go_wp2
            go_roundw
            case rel => exact ⟨k + 1, by omega, by go_num, by rw [← HC.out, HS.out, if_neg (by rw [HZ.out]; simp)], below_drewN hB2 _⟩
            case measure => simp [intOf]; omega
          · have HZ := Lib.hid hz
            obtain rfl : z = 1 := hz0.symm.trans hz
            clear hz hz0 hzz
            go_wp2_with fail
            go_quiet ((go_at_call 116; refine (HCM.out _).mono ?_; rintro e w' ⟨rfl, hw⟩; exact ⟨rfl, _, hw⟩))
            go_wp2
            go_ret
            exact ⟨ret_int (by rw [← HC.out, HS.out, if_pos (by rw [HZ.out]; decide), HZ.out]), below_drewN hB2 _⟩
    · obtain rfl : k = m := by omega
      have hend := Pl.identsCmp_end xs ys k (by omega) hmx hmy
      have HE := Lib.hid hend
      clear hend
      rcases Nat.lt_trichotomy xs.length ys.length with h | h | h
      · have t1 : ¬ (ys.length : Int) < (xs.length : Int) := by omega
        have t2 : (xs.length : Int) < (ys.length : Int) := by omega
        go_wp2
        go_ret
        exact ⟨ret_int (by rw [← HC.out, HE.out, Pl.ordI, if_pos (by omega)]), hbel⟩
      · have t1 : ¬ (ys.length : Int) < (xs.length : Int) := by omega
        have t2 : ¬ (xs.length : Int) < (ys.length : Int) := by omega
        go_wp2
        go_ret
        exact ⟨ret_int (by rw [← HC.out, HE.out, Pl.ordI, if_neg (by omega), if_neg (by omega)]), hbel⟩
      · have t1 : (ys.length : Int) < (xs.length : Int) := by omega
        have t2 : ¬ (xs.length : Int) < (ys.length : Int) := by omega
        go_wp2
        go_ret
        exact ⟨ret_int (by rw [← HC.out, HE.out, Pl.ordI, if_neg (by omega), if_pos (by omega)]), hbel⟩
def bare (l : Pl.Bytes) : Pl.Bytes := Pl.trimHy (Pl.beforePlus l)
theorem trimC_45 (l : Pl.Bytes) : trimC 45 l = Pl.trimHy l := by cases l <;> rfl
theorem trimC_118 (l : Pl.Bytes) : trimC 118 l = Pl.restV l := by cases l <;> rfl
theorem bare_len (l : Pl.Bytes) : (bare l).length ≤ l.length := Nat.le_trans (Pl.trimHy_len _) (Pl.beforePlus_len _)
theorem bare_known {l : Pl.Bytes} (h : Pl.buildKnown l = true) : ∀ p ∈ Pl.splitB 46 (bare l), p.length ≤ l.length ∧ Pl.idKnown1 p = true := by
  intro p hp
  refine ⟨Nat.le_trans (Pl.splitB_mem 46 _ p hp).1 (bare_len l), ?_⟩
  rw [Pl.buildKnown, Bool.and_eq_true] at h
  by_cases hb : bare l = []
  · rw [hb] at hp
    have : p = [] := by simpa [Pl.splitB] using hp
    rw [this]; rfl
  · have hi : Pl.idents l = Pl.splitB 46 (bare l) := by
      show (if bare l = [] then [] else Pl.splitB 46 (bare l)) = _
      rw [if_neg hb]
    rw [Pl.idsKnown, hi, List.all_eq_true] at h
    exact h.2 p hp
theorem idents_bare (l : Pl.Bytes) : Pl.idents l = if bare l = [] then [] else Pl.splitB 46 (bare l) := rfl
theorem split_pos (l : Pl.Bytes) : 0 < (Pl.splitB 46 l).length := by
  rcases Nat.eq_zero_or_pos (Pl.splitB 46 l).length with h | h
  · exact absurd (List.eq_nil_of_length_eq_zero h) (Pl.splitB_ne 46 l)
  · exact h
theorem builds_en {a b : Pl.Bytes} (ha : bare a = []) (hb : bare b ≠ []) : Pl.builds a b = 1 := by
  have h := split_pos (bare b)
  rw [Pl.builds, idents_bare a, idents_bare b, if_pos ha, if_neg hb, if_pos (by simp)]
  unfold Pl.ordI
  rw [if_neg (by simp only [List.length_nil]; omega), if_pos (by simp only [List.length_nil]; omega)]
theorem builds_ne {a b : Pl.Bytes} (ha : bare a ≠ []) (hb : bare b = []) : Pl.builds a b = -1 := by
  have h := split_pos (bare a)
  rw [Pl.builds, idents_bare a, idents_bare b, if_neg ha, if_pos hb, if_pos (by simp)]
  unfold Pl.ordI
  rw [if_pos (by simp only [List.length_nil]; omega)]
theorem builds_same {a b : Pl.Bytes} (h : bare a = [] ↔ bare b = []) : Pl.builds a b = Pl.identsCmp (Pl.splitB 46 (bare a)) (Pl.splitB 46 (bare b)) := by
  by_cases ha : bare a = []
  · have hb := h.1 ha
    rw [Pl.builds, idents_bare a, idents_bare b, if_pos ha, if_pos hb, if_pos (by simp), ha, hb]
    rfl
  · have hb : bare b ≠ [] := fun e => ha (h.2 e)
    have h1 := split_pos (bare a)
    have h2 := split_pos (bare b)
    rw [Pl.builds, idents_bare a, idents_bare b, if_neg ha, if_neg hb, if_neg (by omega)]
set_option maxRecDepth 100000 in
set_option maxHeartbeats 1000000 in
theorem implBuilds_any (a b : ByteArray) (pe pn pi : Addr) (w : World) (ha : a.size ≤ 30000) (hb : b.size ≤ 30000) (hV : PkgVars w pe pn pi) (hka : Pl.buildKnown a.data.toList = true) (hkb : Pl.buildKnown b.data.toList = true) :
    Calls Tryz.prog 108 #[.string a, .string b] w fun e w' => e = .returned (.int .i64 (Pl.builds a.data.toList b.data.toList)) ∧ Below w.heap.size w w' := by
  have hla := bare_len a.data.toList
  have hlb := bare_len b.data.toList
  have hma := bare_known hka
  have hmb := bare_known hkb
  have hpa := Pl.beforePlus_len a.data.toList
  have hpb := Pl.beforePlus_len b.data.toList
  rw [len_list] at hla hlb hma hmb hpa hpb
  have R1 := Lib.hid (fun W => removeBuild_any a W ha)
  have R2 := Lib.hid (fun W => removeBuild_any b W hb)
  have T1 := Lib.hid (fun W => TrimPrefix_any ⟨(Pl.beforePlus a.data.toList).toArray⟩ 45 W (by rw [S_size]; omega))
  have T2 := Lib.hid (fun W => TrimPrefix_any ⟨(Pl.beforePlus b.data.toList).toArray⟩ 45 W (by rw [S_size]; omega))
  simp only [trimC_45] at T1 T2
  obtain ⟨x, hx⟩ : ∃ x, bare a.data.toList = x := ⟨_, rfl⟩
  obtain ⟨y, hy⟩ : ∃ y, bare b.data.toList = y := ⟨_, rfl⟩
  have e1 := @builds_en a.data.toList b.data.toList
  have e2 := @builds_ne a.data.toList b.data.toList
  have e3 := @builds_same a.data.toList b.data.toList
  rw [hx, hy] at e1 e2 e3
  rw [hx] at hla hma
  rw [hy] at hlb hmb
  rw [show Pl.trimHy (Pl.beforePlus a.data.toList) = x from hx] at T1
  rw [show Pl.trimHy (Pl.beforePlus b.data.toList) = y from hy] at T2
  obtain ⟨R, hR⟩ : ∃ R, Pl.builds a.data.toList b.data.toList = R := ⟨_, rfl⟩
  rw [hR] at e1 e2 e3 ⊢
  obtain ⟨p, hp⟩ : ∃ p, Pl.beforePlus a.data.toList = p := ⟨_, rfl⟩
  obtain ⟨q, hq⟩ : ∃ q, Pl.beforePlus b.data.toList = q := ⟨_, rfl⟩
  rw [hp] at R1 T1
  rw [hq] at R2 T2
  have E1 := Lib.hid e1
  have E2 := Lib.hid e2
  have E3 := Lib.hid e3
  have HMA := Lib.hid hma
  have HMB := Lib.hid hmb
  clear e1 e2 e3 hma hmb hka hkb hx hy hR hp hq hpa hpb
  go_enter Tryz.func108, Tryz.ntmps108
  go_wp2_with fail
  refine (R1.out _).mono ?_; rintro e w1 ⟨rfl, hb1⟩
  go_wp2_with fail
  refine (R2.out _).mono ?_; rintro e w2 ⟨rfl, hb2⟩
  go_wp2_with fail
  refine (T1.out _).mono ?_; rintro e w3 ⟨rfl, rfl⟩
  go_wp2_with fail
  refine (T2.out _).mono ?_; rintro e w4 ⟨rfl, rfl⟩
  go_upto_region 5 with (fail)
  have hb2' := hb1.trans (hb2.mono hb1.size)
  have hV2 := hV.below hb2'
  have Z1 := Lib.hid (fun W => zzSplit_any ⟨x.toArray⟩ 46 W (by rw [S_size]; omega))
  have Z2 := Lib.hid (fun W => zzSplit_any ⟨y.toArray⟩ 46 W (by rw [S_size]; omega))
  simp only at Z1 Z2
  have hnx := Pl.splitB_length 46 x
  have hny := Pl.splitB_length 46 y
  have hkey : (x = [] ↔ y = []) → ∀ (A B : Option Addr) (ca cb : Nat) (w3 w4 : World), w3.ownsRow w2.heap.size 9 1 (.slice A (Pl.splitB 46 x).length ca) (Pl.splitB 46 x).length ((Pl.splitB 46 x).map S) → Below w2.heap.size w2 w3 →
      w4.ownsRow w3.heap.size 9 1 (.slice B (Pl.splitB 46 y).length cb) (Pl.splitB 46 y).length ((Pl.splitB 46 y).map S) → Below w3.heap.size w3 w4 →
      Calls Tryz.prog 124 #[.slice A (Pl.splitB 46 x).length ca, .slice B (Pl.splitB 46 y).length cb] w4 fun e w' => e = .returned (.int .i64 R) ∧ Below w.heap.size w w' := by
    intro h A B ca cb w3 w4 ho3 hb3 ho4 hb4
    rw [E3.out h]
    have hbb : Below w.heap.size w w4 := hb2'.trans ((hb3.mono hb2'.size).trans (hb4.mono (Nat.le_trans hb2'.size hb3.size)))
    refine (implIdents_any A B ca cb (Pl.splitB 46 x) (Pl.splitB 46 y) pe pn pi w4 ((Rd.of_own ho3).below hb4) (Rd.of_own ho4) (hV.below hbb) (by omega) (by omega) (fun p hp => ⟨Nat.le_trans (HMA.out p hp).1 ha, (HMA.out p hp).2⟩) (fun p hp => ⟨Nat.le_trans (HMB.out p hp).1 hb, (HMB.out p hp).2⟩)).mono ?_
    rintro e w' ⟨he, hw⟩
    exact ⟨he, hbb.trans (hw.mono hbb.size)⟩
  have HK := Lib.hid hkey
  clear hkey hnx hny
  by_cases hx0 : x = []
  · by_cases hy0 : y = []
    · have HK2 := Lib.hid (HK.out ⟨fun _ => hy0, fun _ => hx0⟩)
      subst hx0; subst hy0
      go_wp2_with fail
      refine (Z1.out _).mono ?_; rintro e w3 ⟨A, ca, rfl, ho3, hb3⟩
      go_wp2_with fail
      refine (Z2.out _).mono ?_; rintro e w4 ⟨B, cb, rfl, ho4, hb4⟩
      go_wp2_with fail
      refine (HK2.out A B ca cb w3 w4 ho3 hb3 ho4 hb4).mono ?_; rintro e w5 ⟨rfl, hb5⟩
      go_wp2
      go_ret
      exact ⟨rfl, hb5⟩
    · have hy1 : y.isEmpty = false := by simpa using hy0
      have HR := Lib.hid (E1.out hx0 hy0)
      subst hx0
      go_wp2
      go_ret
      exact ⟨ret_int HR.out.symm, hb2'⟩
  · have hx1 : x.isEmpty = false := by simpa using hx0
    by_cases hy0 : y = []
    · have HR := Lib.hid (E2.out hx0 hy0)
      subst hy0
      go_wp2
      go_ret
      exact ⟨ret_int HR.out.symm, hb2'⟩
    · have hy1 : y.isEmpty = false := by simpa using hy0
      have HK2 := Lib.hid (HK.out ⟨fun h => absurd h hx0, fun h => absurd h hy0⟩)
      go_wp2_with fail
      refine (Z1.out _).mono ?_; rintro e w3 ⟨A, ca, rfl, ho3, hb3⟩
      go_wp2_with fail
      refine (Z2.out _).mono ?_; rintro e w4 ⟨B, cb, rfl, ho4, hb4⟩
      go_wp2_with fail
      refine (HK2.out A B ca cb w3 w4 ho3 hb3 ho4 hb4).mono ?_; rintro e w5 ⟨rfl, hb5⟩
      go_wp2
      go_ret
      exact ⟨rfl, hb5⟩
def PtrV (Z : Nat) : Value := .pointer (some ⟨Z, 0, none⟩)
def Bigs (w : World) (A : Option Addr) (ns : List Nat) : Prop :=
  ∃ Zs : List Nat, Zs.length = ns.length ∧ Rd w 1 A ns.length (Zs.map PtrV) ∧ ∀ (k : Nat) (h : k < ns.length) (h' : k < Zs.length), ∃ B, IntAt w Zs[k] B false ns[k]
theorem Bigs.below {w w' : World} {A : Option Addr} {ns : List Nat} (h : Bigs w A ns) (hb : Below w.heap.size w w') : Bigs w' A ns := by
  obtain ⟨Zs, h1, h2, h3⟩ := h
  exact ⟨Zs, h1, h2.below hb, fun k h h' => by obtain ⟨B, hI⟩ := h3 k h h'; exact ⟨B, hI.below hb⟩⟩
theorem Bigs.at {w : World} {A : Option Addr} {ns : List Nat} (h : Bigs w A ns) {k : Nat} (hk : k < ns.length) : ∃ b o Z B, A = some ⟨b, o, none⟩ ∧ w.cell? ⟨b, o + k, none⟩ = some (.pointer (some ⟨Z, 0, none⟩)) ∧ IntAt w Z B false ns[k] := by
  obtain ⟨Zs, h1, h2, h3⟩ := h
  obtain ⟨b, o, hA, hc⟩ := h2.2 (by omega)
  obtain ⟨B, hI⟩ := h3 k hk (by omega)
  refine ⟨b, o, Zs[k]'(by omega), B, hA, ?_, hI⟩
  exact hc k _ (by simp [PtrV, h1, hk])
def PtrBack (w : World) (N : Nat) (e : Ending) (w' : World) : Prop := ∃ Z B, e = .returned (.pointer (some ⟨Z, 0, none⟩)) ∧ IntAt w' Z B false N ∧ Below w.heap.size w w'
theorem NewInt_any (w : World) : Calls Tryz.prog 142 #[.int .i64 0] w (PtrBack w 0) := by
  go_enter Tryz.func142, Tryz.ntmps142
  go_wp2
  go_ret
  refine ⟨w.heap.size, 0, rfl, ⟨.slice none 0 0, Blk.new _ _ _, ?_⟩, by go_grown⟩
  unfold NatAt
  rw [Pl.digs_zero]
  exact World.ownsRow_nil _ _ _ _
theorem Fetch_any (p i : Nat) (A : Option Addr) (c : Nat) (ns : List Nat) (k : Nat) (w : World) (hp : w.cell? ⟨p, i, none⟩ = some (.slice A ns.length c)) (hB : Bigs w A ns) (_hl : ns.length ≤ 100000) (_hk : k ≤ 100000) :
    Calls Tryz.prog 121 #[.pointer (some ⟨p, i, none⟩), .int .i64 k] w (PtrBack w (ns.getD k 0)) := by
  by_cases h : k < ns.length
  · obtain ⟨b, o, Z, B, rfl, hc, hI⟩ := hB.at h
    have hg : ns.getD k 0 = ns[k] := by simp [h]
    have HG := Lib.hid hg
    have HI := Lib.hid hI
    have t1 : ¬ (ns.length : Int) ≤ (k : Int) := by omega
    have t2 : (k : Int) < (ns.length : Int) := by omega
    clear hg hI hB
    go_enter Tryz.func121, Tryz.ntmps121
    go_wp2
    go_ret
    exact ⟨Z, B, rfl, by first | exact HI.out | (rw [HG.out]; exact HI.out), Below.refl _ _⟩
  · have hg : ns.getD k 0 = 0 := by simp [h]
    have HG := Lib.hid hg
    have t1 : (ns.length : Int) ≤ (k : Int) := by omega
    clear hg hB
    rw [HG.out]
    go_enter Tryz.func121, Tryz.ntmps121
    go_wp2_with fail
    refine (NewInt_any _).mono ?_; rintro e w1 ⟨Z, B, rfl, hI, hb⟩
    go_wp2
    go_ret
    exact ⟨Z, B, rfl, hI, hb⟩
theorem getD_words {ns : List Nat} (h : ∀ n ∈ ns, (Pl.digs M n).length ≤ 900000) (k : Nat) : (Pl.digs M (ns.getD k 0)).length ≤ 900000 := by
  by_cases hk : k < ns.length
  · have : ns.getD k 0 = ns[k] := by simp [hk]
    rw [this]; exact h _ (List.getElem_mem hk)
  · have : ns.getD k 0 = 0 := by simp [hk]
    rw [this, Pl.digs_zero]; simp
set_option maxRecDepth 100000 in
set_option maxHeartbeats 1000000 in
theorem compsCmp_any (p i : Nat) (A B : Option Addr) (ca cb : Nat) (ns ms : List Nat) (w : World) (hp : w.cell? ⟨p, i, none⟩ = some (.slice A ns.length ca)) (ha : Bigs w A ns) (hb : Bigs w B ms)
    (hla : ns.length ≤ 40000) (hlb : ms.length ≤ 40000) (hwa : ∀ n ∈ ns, (Pl.digs M n).length ≤ 900000) (hwb : ∀ n ∈ ms, (Pl.digs M n).length ≤ 900000) :
    Calls Tryz.prog 107 #[.pointer (some ⟨p, i, none⟩), .slice B ms.length cb] w fun e w' => e = .returned (.int .i64 (Pl.cmpNums ns ms)) ∧ Below w.heap.size w w' := by
  have hpl := World.block_lt_of_cell? w _ hp
  simp only at hpl
  have HWA := Lib.hid (getD_words hwa)
  have HWB := Lib.hid (getD_words hwb)
  clear hwa hwb
  go_enter Tryz.func107, Tryz.ntmps107
  go_wp2_with fail
  go_quiet (fail)
  obtain ⟨W, hW⟩ : ∃ W, (w.alloc (.cells #[.slice B ms.length cb] 54)).drewN nq = W := ⟨_, rfl⟩
  have hbW : Below w.heap.size w W := by rw [← hW]; exact below_drewN ((Below.refl _ _).alloc (Nat.le_refl _) _) _
  have hqW : W.cell? ⟨w.heap.size, 0, none⟩ = some (.slice B ms.length cb) := by
    rw [← hW]
    have h0 := (Blk.drewN (Blk.new w 54 #[.slice B ms.length cb]) nq).cell 0
    exact h0
  have hpW := (hbW.cell (p := ⟨p, i, none⟩) hpl).trans hp
  have haW := ha.below hbW
  have hbbW := hb.below hbW
  obtain ⟨m, hm, hm1, hm2, hm3⟩ : ∃ m : Nat, max (ns.length : Int) (ms.length : Int) = (m : Int) ∧ ns.length ≤ m ∧ ms.length ≤ m ∧ m ≤ 40000 := by
    rcases Nat.le_total ns.length ms.length with h | h
    · exact ⟨ms.length, by omega, h, Nat.le_refl _, hlb⟩
    · exact ⟨ns.length, by omega, Nat.le_refl _, h, hla⟩
  rw [hW, hm]
  have hq2 : w.heap.size < W.heap.size := World.block_lt_of_cell? W _ hqW
  clear hm hW ha hb hp
  go_wp2
  go_loopw [16] (fun iv wr => ∃ k : Nat, k ≤ m ∧ iv = .int .i64 (k : Int) ∧ Pl.cmpNums (ns.drop k) (ms.drop k) = Pl.cmpNums ns ms ∧ Below W.heap.size W wr) (fun iv _ => m - (intOf iv).toNat)
  case atStart => exact ⟨0, Nat.zero_le _, rfl, rfl, Below.refl _ _⟩
  case round =>
    obtain ⟨k, hk, rfl, hcmp, hbel⟩ := hrel
    have HC := Lib.hid hcmp
    clear hcmp
    by_cases hkm : k < m
    · have hp1 := (hbel.cell (p := ⟨p, i, none⟩) (Nat.lt_of_lt_of_le hpl hbW.size)).trans hpW
      have hstep : (k < ns.length ∨ k < ms.length) ∨ (ns.length ≤ k ∧ ms.length ≤ k) := by omega
      have F1 := Lib.hid (Fetch_any p i A ca ns k wr hp1 (haW.below hbel) (by omega) (by omega))
      have F2 := Lib.hid (fun W2 (h : Below W.heap.size W W2) => Fetch_any w.heap.size 0 B cb ms k W2 ((h.cell (p := ⟨w.heap.size, 0, none⟩) hq2).trans hqW) (hbbW.below h) (by omega) (by omega))
      have hwx := HWA.out k
      have hwy := HWB.out k
      obtain ⟨x, hx⟩ : ∃ x, ns.getD k 0 = x := ⟨_, rfl⟩
      obtain ⟨y, hy⟩ : ∃ y, ms.getD k 0 = y := ⟨_, rfl⟩
      rw [hx] at F1 hwx
      rw [hy] at F2 hwy
      have h3 := cmpN_three x y
      obtain ⟨z, hz⟩ : ∃ z, Pl.cmpN x y = z := ⟨_, rfl⟩
      have hres : (z = 0 → Pl.cmpNums (ns.drop (k + 1)) (ms.drop (k + 1)) = Pl.cmpNums ns ms) ∧ (z ≠ 0 → z = Pl.cmpNums ns ms) := by
        rcases hstep with h | ⟨h1, h2⟩
        · have hs := Pl.cmpNums_step ns ms k (by omega)
          rw [hx, hy, hz] at hs
          constructor
          · intro h0
            rw [← HC.out, hs, if_neg (by rw [h0]; simp)]
          · intro h0
            rw [← HC.out, hs, if_pos h0]
        · have hx0 : x = 0 := by rw [← hx, List.getD_eq_getElem?_getD, List.getElem?_eq_none h1]; rfl
          have hy0 : y = 0 := by rw [← hy, List.getD_eq_getElem?_getD, List.getElem?_eq_none h2]; rfl
          have hz0 : z = 0 := by rw [← hz, hx0, hy0]; rfl
          constructor
          · intro _
            rw [← HC.out, List.drop_of_length_le (by omega), List.drop_of_length_le (l := ms) (by omega), List.drop_of_length_le h1, List.drop_of_length_le h2]
          · intro h0; exact absurd hz0 h0
      have HRES := Lib.hid hres
      have HZ := Lib.hid hz
      clear hres hstep hx hy
      go_wp2_with fail
      refine F1.out.mono ?_; rintro e w1 ⟨Z1, B1, rfl, hI1, hb1⟩
      have hbl1 := hbel.trans (hb1.mono hbel.size)
      go_wp2_with fail
      refine (F2.out w1 hbl1).mono ?_; rintro e w2 ⟨Z2, B2, rfl, hI2, hb2⟩
      have hbl2 := hbl1.trans (hb2.mono hbl1.size)
      have hI1' := hI1.below hb2
      have HCM := Lib.hid (Cmp_any Z1 Z2 B1 B2 x y w2 hI1' hI2 hwx hwy)
      rw [HZ.out] at HCM
      by_cases hz0 : z = 0
      · have hz1 : (z != 0) = false := by simp [hz0]
        have HN := Lib.hid (HRES.out.1 hz0)
        clear hz hz0 h3
        go_wp2_with (go_at_call 122; refine HCM.out.mono ?_; rintro e w3 ⟨rfl, q, rfl⟩)
        go_roundw
        case rel => exact ⟨k + 1, by omega, by go_num, HN.out, below_drewN hbl2 _⟩
        case measure => simp [intOf]; omega
      · have hz1 : (z != 0) = true := by simpa using hz0
        have HN := Lib.hid (HRES.out.2 hz0)
        clear hz hz0 h3
        go_wp2_with (go_at_call 122; refine HCM.out.mono ?_; rintro e w3 ⟨rfl, q, rfl⟩)
        go_ret
        exact ⟨ret_int HN.out, hbW.trans ((below_drewN hbl2 _).mono hbW.size)⟩
    · obtain rfl : k = m := by omega
      have HE := Lib.hid (Pl.cmpNums_end ns ms k hm1 hm2)
      go_wp2
      go_ret
      exact ⟨ret_int (by rw [← HC.out, HE.out]), hbW.trans (hbel.mono hbW.size)⟩
def iterSet (w : World) (g : Nat) (t : ByteArray) (pos : Nat) : World := { w with heap := w.heap.setIfInBounds g (.stringIter t pos) }
def IterAt (w : World) (g : Nat) (t : ByteArray) (pos : Nat) : Prop := w.heap[g]? = some (.stringIter t pos)
theorem IterAt.lt {w : World} {g pos : Nat} {t : ByteArray} (h : IterAt w g t pos) : g < w.heap.size := by
  unfold IterAt at h
  exact (Array.getElem?_eq_some_iff.1 h).1
theorem IterAt.below {w w' : World} {B g pos : Nat} {t : ByteArray} (h : IterAt w g t pos) (hb : Below B w w') (hg : g < B) : IterAt w' g t pos := (hb.block g hg).trans h
theorem IterAt.grown {w w' : World} {g pos : Nat} {t : ByteArray} {row : Option Nat} (h : IterAt w g t pos) (hb : w.grownBy w' row) (hg : some g ≠ row) : IterAt w' g t pos := (hb.block g h.lt hg).trans h
theorem iterSet_at {w : World} {g pos pos' : Nat} {t : ByteArray} (h : IterAt w g t pos) : IterAt (iterSet w g t pos') g t pos' := by
  have := h.lt
  simp [IterAt, iterSet, this]
theorem iterSet_grown (w : World) (g : Nat) (t : ByteArray) (pos : Nat) : w.grownBy (iterSet w g t pos) (some g) :=
  ⟨rfl, rfl, rfl, by simp [iterSet], fun k _ hk => by
    have : g ≠ k := fun e => hk (by rw [e])
    simp [iterSet, this]⟩
theorem run_next_at {w : World} {g pos : Nat} {t : ByteArray} (hg : IterAt w g t pos) (ty : TypeId) (h : pos < t.size) (ha : (t[pos]'h).toNat < 128) :
    (Instr.next (.pointer (some ⟨g, 0, none⟩)) true ty).run Tryz.prog w = .ok (.tuple #[.bool true, .int .i64 pos, .int .i32 (t[pos]'h).toNat]) (iterSet w g t (pos + 1)) := by
  unfold IterAt at hg
  simp only [Instr.next, getObj, setObj, Sem.run_bind, Sem.run, hg, Result.andThen, h, if_true, decode_ascii t pos h ha]
  simp [goInt, iterSet]
theorem run_next_done {w : World} {g pos : Nat} {t : ByteArray} (hg : IterAt w g t pos) (ty : TypeId) (h : ¬ pos < t.size) :
    (Instr.next (.pointer (some ⟨g, 0, none⟩)) true ty).run Tryz.prog w = .ok (.tuple #[.bool false]) w := by
  unfold IterAt at hg
  simp [Instr.next, getObj, Sem.run, hg, h]
theorem isASCIIDigit_any (c : Nat) (hc : c < 128) (w : World) : Calls Tryz.prog 112 #[.int .i32 (c : Int)] w fun e w' => e = .returned (.bool (decide (48 ≤ c) && decide (c ≤ 57))) ∧ w = w' := by
  by_cases h1 : 48 ≤ c
  · have t1 : (48 : Int) ≤ (c : Int) := by omega
    by_cases h2 : c ≤ 57
    · have t2 : (c : Int) ≤ 57 := by omega
      go_enter Tryz.func112, Tryz.ntmps112
      go_wp2
      go_ret
      exact ⟨ret_bool (by simp [h1, h2]), rfl⟩
    · have t2 : ¬ (c : Int) ≤ 57 := by omega
      go_enter Tryz.func112, Tryz.ntmps112
      go_wp2
      go_ret
      exact ⟨ret_bool (by simp), rfl⟩
  · have t1 : ¬ (48 : Int) ≤ (c : Int) := by omega
    go_enter Tryz.func112, Tryz.ntmps112
    go_wp2
    go_ret
    exact ⟨ret_bool (by simp), rfl⟩
theorem encode_ascii (c : UInt8) (hc : c.toNat < 128) : Utf8.encode ((c.toNat : Nat) : Int) = ⟨#[c]⟩ := by
  have hv : Utf8.valid ((c.toNat : Nat) : Int) = true := by
    unfold Utf8.valid
    rw [Bool.or_eq_true, Bool.and_eq_true, decide_eq_true_eq, decide_eq_true_eq]
    exact Or.inl ⟨by omega, by omega⟩
  unfold Utf8.encode
  rw [if_pos hv]
  simp only [Int.toNat_natCast]
  rw [if_pos hc]
  simp
theorem conv_run (c : Int) (w : World) : (convert 21 9 (.int .i32 c)).run Tryz.prog w = .ok (.string (Utf8.encode c)) w := by kernel_rfl
theorem conv_ascii (c : UInt8) (hc : c.toNat < 128) (w : World) : (convert 21 9 (.int .i32 (c.toNat : Int))).run Tryz.prog w = .ok (S [c]) w := by
  rw [conv_run, encode_ascii c hc]
end Go.Proofs.YtgfkdjmoflbmdaaGreatDoor
