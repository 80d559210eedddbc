/- Contracts: numbered, chained. Walk: FnHackageOrder. -/
import Derived.Test.YtgfkdjmoflbmdaaGreatDoorMPl1xPl2
import Derived.Test.YtgfkdjmoflbmdaaGreatDoorMPlFxHf
import Derived.Test.YtgfkdjmoflbmdaaGreatDoorMHgxHh
namespace Go.Proofs.YtgfkdjmoflbmdaaGreatDoor
open Go.RowKit
open Go.Proofs

theorem isDig_iff (c : UInt8) : Pl.isDig c = true ↔ (48 : Int) ≤ (c.toNat : Int) ∧ (c.toNat : Int) ≤ 57 := by
  rw [Pl.isDig, Bool.and_eq_true, decide_eq_true_eq, decide_eq_true_eq]; omega
set_option maxRecDepth 100000 in
set_option maxHeartbeats 1000000 in
theorem numbered_any (s : ByteArray) (m : Nat) (w : World) (hs : s.size ≤ 30000) (_hm : m ≤ 1000) :
    Calls Tryz.prog 30 #[.string s, .int .i64 (m : Int)] w fun e w' => e = .returned (.bool (Pl.numberedB s.data.toList m)) ∧ w = w' := by
  obtain ⟨r, hr⟩ : ∃ r, Pl.numberedB s.data.toList m = r := ⟨_, rfl⟩
  rw [hr]
  have HR := Lib.hid hr
  clear hr
  go_enter Tryz.func30, Tryz.ntmps30
  go_wp2
  go_loop [5, 6, 7] (fun nv ov iv => ∃ (k n : Nat) (o : Bool), k ≤ s.size ∧ nv = .int .i64 (n : Int) ∧ ov = .bool o ∧ iv = .int .i64 (k : Int) ∧ Pl.numScan (s.data.toList.take k) 1 true = some (n, o)) (fun _ _ iv => s.size - (intOf iv).toNat)
  case atStart => exact ⟨0, 1, true, Nat.zero_le _, rfl, rfl, rfl, rfl⟩
  case round =>
    obtain ⟨k, n, o, hk, rfl, rfl, rfl, hscan⟩ := hrel
    have hn := Pl.numScan_n _ _ _ _ _ hscan
    have htl : (s.data.toList.take k).length ≤ k := List.length_take_le _ _
    have hn2 : n ≤ 30001 := by omega
    have HS := Lib.hid hscan
    clear hscan hn htl
    by_cases hlt : k < s.size
    · have hck := get_list s k hlt
      have hdi := isDig_iff s[k]
      have hstep := Pl.numScan_take HS.out hck
      have hbad := fun h1 h2 => Pl.numberedB_bad m HS.out hck h1 h2
      have h46 : ((s[k].toNat : Int) == 46) = true ↔ s[k] = 46 := by
        rw [beq_iff_eq, ← UInt8.toNat_inj, show (46 : UInt8).toNat = 46 from rfl]; omega
      obtain ⟨c, hc⟩ : ∃ c, s[k] = c := ⟨_, rfl⟩
      rw [hc] at hdi hstep hbad h46
      have HDI := Lib.hid hdi
      have HST := Lib.hid hstep
      have HBAD := Lib.hid hbad
      have H46 := Lib.hid h46
      have HC := Lib.hid hc
      have hc256 := UInt8.toNat_lt c
      obtain ⟨x, hx⟩ : ∃ x : Nat, c.toNat = x := ⟨_, rfl⟩
      have hsx : s[k].toNat = x := by rw [hc, hx]
      rw [hx] at hc256 HDI H46
      clear hck hdi hstep hbad h46 hc hx
      by_cases hd : (48 : Int) ≤ (x : Int) ∧ (x : Int) ≤ 57
      · obtain ⟨hd1, hd2⟩ := hd
        go_wp2
        go_round
        case rel => exact ⟨k + 1, n, false, by omega, rfl, rfl, by go_num, by rw [HST.out, if_pos (HDI.out.2 ⟨hd1, hd2⟩)]⟩
        case measure => simp [intOf]; omega
      · have hnd : Pl.isDig c = false := by
          cases e : Pl.isDig c with
          | false => rfl
          | true => exact absurd (HDI.out.1 e) hd
        have HND := Lib.hid hnd
        clear hnd
        cases h46 : ((x : Int) == 46) with
        | true =>
          have hx46 : (x : Int) = 46 := by simpa using h46
          have hc46 := H46.out.1 h46
          have HC46 := Lib.hid hc46
          clear hc46 hd
          have hx46n : x = 46 := by omega
          subst hx46n
          cases o with
          | false =>
            go_wp2
            go_round
            case rel => exact ⟨k + 1, n + 1, true, by omega, by go_num, rfl, by go_num, by rw [HST.out, if_neg (by rw [HND.out]; decide), if_pos ⟨HC46.out, rfl⟩]⟩
            case measure => simp [intOf]; omega
          | true =>
            go_wp2
            go_ret
            exact ⟨ret_bool (by rw [← HR.out, HBAD.out HND.out (fun h => by cases h.2)]), rfl⟩
        | false =>
          have hb := HBAD.out HND.out (fun h => by have := H46.out.2 h.1; rw [h46] at this; cases this)
          have HB := Lib.hid hb
          clear hb
          by_cases hd1 : (48 : Int) ≤ (x : Int)
          · have hd2 : ¬ (x : Int) ≤ 57 := fun h => hd ⟨hd1, h⟩
            clear hd
            go_wp2
            go_ret
            exact ⟨ret_bool (by rw [← HR.out, HB.out]), rfl⟩
          · clear hd
            go_wp2
            go_ret
            exact ⟨ret_bool (by rw [← HR.out, HB.out]), rfl⟩
    · obtain rfl : k = s.size := by omega
      have hend := Pl.numberedB_end m (by rw [len_list]; exact HS.out)
      have HE := Lib.hid hend
      clear hend
      by_cases hnm : (n : Int) ≤ (m : Int)
      · cases o with
        | false =>
          go_wp2
          go_ret
          exact ⟨ret_bool (by rw [← HR.out, HE.out]; simp; omega), rfl⟩
        | true =>
          go_wp2
          go_ret
          exact ⟨ret_bool (by rw [← HR.out, HE.out]; simp), rfl⟩
      · cases o with
        | false =>
          go_wp2
          go_ret
          exact ⟨ret_bool (by rw [← HR.out, HE.out]; simp; omega), rfl⟩
        | true =>
          go_wp2
          go_ret
          exact ⟨ret_bool (by rw [← HR.out, HE.out]; simp), rfl⟩
set_option maxRecDepth 100000 in
theorem chained_true (x y z : Int) (w : World) (hx : x = -1 ∨ x = 0 ∨ x = 1) (hy : y = -1 ∨ y = 0 ∨ y = 1) (hz : z = -1 ∨ z = 0 ∨ z = 1)
    (h : (x ≤ 0 → y ≤ 0 → z ≤ 0 ∧ (z = 0 ↔ x = 0 ∧ y = 0)) ∧ (0 ≤ x → 0 ≤ y → 0 ≤ z ∧ (z = 0 ↔ x = 0 ∧ y = 0))) :
    Calls Tryz.prog 38 #[.int .i64 x, .int .i64 y, .int .i64 z] w fun e w' => e = .returned (.bool true) ∧ w = w' := by
  obtain ⟨h1, h2⟩ := h
  rcases hx with rfl | rfl | rfl <;> rcases hy with rfl | rfl | rfl <;> rcases hz with rfl | rfl | rfl
  all_goals first
    | (exfalso; have a := h1 (by omega) (by omega); omega)
    | (exfalso; have a := h2 (by omega) (by omega); omega)
    | (clear h1 h2; go_enter Tryz.func38, Tryz.ntmps38; go_wp2; go_ret; exact ⟨rfl, rfl⟩)
end Go.Proofs.YtgfkdjmoflbmdaaGreatDoor

namespace Go.Proofs.YtgfkdjmoflbmdaaGreatDoor
open Go.RowKit
open Go.Proofs

theorem short4 (a b c d : Pl.Bytes) : Pl.shortB [a, b, c, d] = (decide (a.length ≤ 1500) && (decide (b.length ≤ 1500) && (decide (c.length ≤ 1500) && decide (d.length ≤ 1500)))) := by simp [Pl.shortB]
theorem numbered_alone {s : Pl.Bytes} {m : Nat} (h : Pl.numberedB s m = true) : Pl.numsOf s = Pl.numsIn (Pl.splitB 46 s) ∧ Pl.buildOf s = [] := by
  obtain ⟨h1, h2, _⟩ := Pl.numbered_parts (t := []) h (Or.inl rfl)
  rw [List.append_nil] at h1 h2
  exact ⟨h1, h2⟩
theorem hackText_num {a b : Pl.Bytes} {m n : Nat} (ha : Pl.numberedB a m = true) (hb : Pl.numberedB b n = true) : hackText a b = (Pl.hackOrd (Pl.numsOf a) (Pl.numsOf b), true) := hackText_yes (numbered_alone ha).2 (numbered_alone hb).2
theorem hackText_more {a d : Pl.Bytes} {m n : Nat} (ha : Pl.numberedB a m = true) (hd : Pl.numberedB d n = true) : hackText (a ++ 46 :: d) a = (1, true) := by
  obtain ⟨h1, h2, h3⟩ := Pl.numbered_join ha hd
  obtain ⟨k1, k2⟩ := numbered_alone ha
  rw [hackText_yes h2 k2, h1, k1, Pl.hack_more h3]
/-- a text, a point, a text -/
def joinD (a d : ByteArray) : ByteArray := a ++ ⟨#[46]⟩ ++ d
theorem joinD_data (a d : ByteArray) : (joinD a d).data.toList = a.data.toList ++ 46 :: d.data.toList := by simp [joinD]
theorem joinD_size (a d : ByteArray) : (joinD a d).size = a.size + 1 + d.size := by rw [← len_list, joinD_data, List.length_append, List.length_cons, len_list, len_list]; omega
set_option maxRecDepth 100000 in
set_option maxHeartbeats 4000000 in
theorem hackOrder_walk (a b c d : ByteArray) (pe pn pi : Addr) (w : World) (ha : a.size ≤ maxLen) (hb : b.size ≤ maxLen) (hc : c.size ≤ maxLen) (hd : d.size ≤ maxLen) (hV : PkgVars w pe pn pi) (hT : VTabs w) :
    Calls Tryz.prog 10 #[.string a, .string b, .string c, .string d] w fun e w' => e = .returned (.bool true) ∧ Below w.heap.size w w' := by
  unfold maxLen at ha hb hc hd
  rcases Nat.lt_or_ge 2147483647 a.size with h1 | h1
  · have h1z : (2147483647 : Int) < (a.size : Int) := by omega
    go_enter Tryz.func10, Tryz.ntmps10
    go_wp2
    go_ret
    exact ⟨rfl, Below.refl _ _⟩
  have h1z : ¬ (2147483647 : Int) < (a.size : Int) := by omega
  rcases Nat.lt_or_ge 2147483647 b.size with h2 | h2
  · have h2z : (2147483647 : Int) < (b.size : Int) := by omega
    go_enter Tryz.func10, Tryz.ntmps10
    go_wp2
    go_ret
    exact ⟨rfl, Below.refl _ _⟩
  have h2z : ¬ (2147483647 : Int) < (b.size : Int) := by omega
  rcases Nat.lt_or_ge 2147483647 c.size with h3 | h3
  · have h3z : (2147483647 : Int) < (c.size : Int) := by omega
    go_enter Tryz.func10, Tryz.ntmps10
    go_wp2
    go_ret
    exact ⟨rfl, Below.refl _ _⟩
  have h3z : ¬ (2147483647 : Int) < (c.size : Int) := by omega
  rcases Nat.lt_or_ge 2147483647 d.size with h4 | h4
  · have h4z : (2147483647 : Int) < (d.size : Int) := by omega
    go_enter Tryz.func10, Tryz.ntmps10
    go_wp2
    go_ret
    exact ⟨rfl, Below.refl _ _⟩
  have h4z : ¬ (2147483647 : Int) < (d.size : Int) := by omega
  obtain ⟨W, hW⟩ : ∃ W, w.alloc (.cells #[.string a, .string b, .string c, .string d] 9) = W := ⟨_, rfl⟩
  have hbW : Below w.heap.size w W := by rw [← hW]; exact (Below.refl _ _).alloc (Nat.le_refl _) _
  have hBS : Blk W w.heap.size 9 #[.string a, .string b, .string c, .string d] := by rw [← hW]; exact Blk.new _ _ _
  have HS := Lib.hid (short_any (some ⟨w.heap.size, 0, none⟩) 4 [a.data.toList, b.data.toList, c.data.toList, d.data.toList] W (Rd.of_blk hBS 1 4 rfl) (by simp) (by simp; unfold maxLen; omega))
  rw [short4, len_list, len_list, len_list, len_list] at HS
  have HW := Lib.hid hW
  clear hW
  rcases Classical.em (¬ (a.size ≤ 1500 ∧ b.size ≤ 1500 ∧ c.size ≤ 1500 ∧ d.size ≤ 1500)) with hall | hall
  · rw [show (decide (a.size ≤ 1500) && (decide (b.size ≤ 1500) && (decide (c.size ≤ 1500) && decide (d.size ≤ 1500)))) = false from by
      cases e : (decide (a.size ≤ 1500) && (decide (b.size ≤ 1500) && (decide (c.size ≤ 1500) && decide (d.size ≤ 1500)))) with
      | false => rfl
      | true => simp at e; exact absurd e hall] at HS
    go_enter Tryz.func10, Tryz.ntmps10
    go_wp2_with fail
    rw [HW.out]
    refine HS.out.mono ?_; rintro e w1 ⟨rfl, rfl⟩
    go_wp2
    go_ret
    exact ⟨rfl, hbW⟩
  obtain ⟨sa, sb, sc, sd⟩ := Classical.not_not.1 hall
  clear hall
  rw [show (decide (a.size ≤ 1500) && (decide (b.size ≤ 1500) && (decide (c.size ≤ 1500) && decide (d.size ≤ 1500)))) = true from by simp [sa, sb, sc, sd]] at HS
  have NA := Lib.hid (fun w => numbered_any a 40 w (by omega) (by omega))
  have NB := Lib.hid (fun w => numbered_any b 40 w (by omega) (by omega))
  have NC := Lib.hid (fun w => numbered_any c 40 w (by omega) (by omega))
  have ND := Lib.hid (fun w => numbered_any d 40 w (by omega) (by omega))
  obtain ⟨na, hna⟩ : ∃ x, Pl.numberedB a.data.toList 40 = x := ⟨_, rfl⟩
  obtain ⟨nb, hnb⟩ : ∃ x, Pl.numberedB b.data.toList 40 = x := ⟨_, rfl⟩
  obtain ⟨nc, hnc⟩ : ∃ x, Pl.numberedB c.data.toList 40 = x := ⟨_, rfl⟩
  obtain ⟨nd, hnd⟩ : ∃ x, Pl.numberedB d.data.toList 40 = x := ⟨_, rfl⟩
  rw [hna] at NA
  rw [hnb] at NB
  rw [hnc] at NC
  rw [hnd] at ND
  have HNA := Lib.hid hna
  have HNB := Lib.hid hnb
  have HNC := Lib.hid hnc
  have HND := Lib.hid hnd
  clear hna hnb hnc hnd
  have hTW := hT.below hbW
  have hjs := joinD_size a d
  have HJ1 := Lib.hid (show a ++ ⟨#[46]⟩ ++ d = joinD a d from rfl)
  go_enter Tryz.func10, Tryz.ntmps10
  go_wp2_with fail
  rw [HW.out]
  refine HS.out.mono ?_; rintro e w1 ⟨rfl, rfl⟩
  go_wp2_with fail
  refine (NA.out _).mono ?_; rintro e w1 ⟨rfl, rfl⟩
  cases na with
  | false => go_wp2; go_ret; exact ⟨rfl, hbW⟩
  | true =>
  go_wp2_with fail
  refine (NB.out _).mono ?_; rintro e w1 ⟨rfl, rfl⟩
  cases nb with
  | false => go_wp2; go_ret; exact ⟨rfl, hbW⟩
  | true =>
  go_wp2_with fail
  refine (NC.out _).mono ?_; rintro e w1 ⟨rfl, rfl⟩
  cases nc with
  | false => go_wp2; go_ret; exact ⟨rfl, hbW⟩
  | true =>
  go_wp2_with fail
  refine (ND.out _).mono ?_; rintro e w1 ⟨rfl, rfl⟩
  cases nd with
  | false => go_wp2; go_ret; exact ⟨rfl, hbW⟩
  | true =>
  go_wp2_with fail
  refine (HackageKnown_any a W (by omega) hTW).mono ?_; rintro e w2 ⟨⟨k1, rfl⟩, hb2⟩
  have hbb2 := hbW.trans (hb2.mono hbW.size)
  cases k1 with
  | false => go_wp2; go_ret; exact ⟨rfl, hbb2⟩
  | true =>
  go_wp2_with fail
  refine (HackageKnown_any b w2 (by omega) (hTW.below hb2)).mono ?_; rintro e w3 ⟨⟨k2, rfl⟩, hb3⟩
  have hbb3 := hbb2.trans (hb3.mono hbb2.size)
  cases k2 with
  | false => go_wp2; go_ret; exact ⟨rfl, hbb3⟩
  | true =>
  go_wp2_with fail
  refine (HackageKnown_any c w3 (by omega) (hT.below hbb3)).mono ?_; rintro e w4 ⟨⟨k3, rfl⟩, hb4⟩
  have hbb4 := hbb3.trans (hb4.mono hbb3.size)
  cases k3 with
  | false => go_wp2; go_ret; exact ⟨rfl, hbb4⟩
  | true =>
  go_wp2_with fail
  rw [HJ1.out]
  refine (HackageKnown_any (joinD a d) w4 (by omega) (hT.below hbb4)).mono ?_; rintro e w5 ⟨⟨k4, rfl⟩, hb5⟩
  have hbb5 := hbb4.trans (hb5.mono hbb4.size)
  cases k4 with
  | false => go_wp2; go_ret; exact ⟨rfl, hbb5⟩
  | true =>
  have hab := hackText_num HNA.out HNB.out
  have hbc := hackText_num HNB.out HNC.out
  have hac := hackText_num HNA.out HNC.out
  have hjd := hackText_more HNA.out HND.out
  rw [← joinD_data] at hjd
  have HT := Lib.hid (fun (x y : ByteArray) (w' : World) (h1 : x.size ≤ 30000) (h2 : y.size ≤ 30000) (h : Below w.heap.size w w') => hackText_any x y pe pn pi w' h1 h2 (hV.below h))
  have H1 := Lib.hid (fun (w' : World) (h : Below w.heap.size w w') => HT.out a b w' (by omega) (by omega) h)
  have H2 := Lib.hid (fun (w' : World) (h : Below w.heap.size w w') => HT.out b c w' (by omega) (by omega) h)
  have H3 := Lib.hid (fun (w' : World) (h : Below w.heap.size w w') => HT.out a c w' (by omega) (by omega) h)
  have H4 := Lib.hid (fun (w' : World) (h : Below w.heap.size w w') => HT.out (joinD a d) a w' (by omega) (by omega) h)
  rw [hab] at H1
  rw [hbc] at H2
  rw [hac] at H3
  rw [hjd] at H4
  simp only at H1 H2 H3 H4
  have hch := Pl.hack_ord.chained (Pl.numsOf a.data.toList) (Pl.numsOf b.data.toList) (Pl.numsOf c.data.toList)
  have t1 := Pl.hack_ord.three (Pl.numsOf a.data.toList) (Pl.numsOf b.data.toList)
  have t2 := Pl.hack_ord.three (Pl.numsOf b.data.toList) (Pl.numsOf c.data.toList)
  have t3 := Pl.hack_ord.three (Pl.numsOf a.data.toList) (Pl.numsOf c.data.toList)
  obtain ⟨x, hx⟩ : ∃ x, Pl.hackOrd (Pl.numsOf a.data.toList) (Pl.numsOf b.data.toList) = x := ⟨_, rfl⟩
  obtain ⟨y, hy⟩ : ∃ y, Pl.hackOrd (Pl.numsOf b.data.toList) (Pl.numsOf c.data.toList) = y := ⟨_, rfl⟩
  obtain ⟨z, hz⟩ : ∃ z, Pl.hackOrd (Pl.numsOf a.data.toList) (Pl.numsOf c.data.toList) = z := ⟨_, rfl⟩
  rw [hx] at H1 hch t1
  rw [hy] at H2 hch t2
  rw [hz] at H3 hch t3
  have HCH := Lib.hid (fun w => chained_true x y z w t1 t2 t3 hch)
  clear hab hbc hac hjd hx hy hz hch t1 t2 t3
  go_wp2_with fail
  refine (H1.out w5 hbb5).mono ?_; rintro e w6 ⟨rfl, hb6⟩
  have hbb6 := hbb5.trans (hb6.mono hbb5.size)
  go_wp2_with fail
  refine (H2.out w6 hbb6).mono ?_; rintro e w7 ⟨rfl, hb7⟩
  have hbb7 := hbb6.trans (hb7.mono hbb6.size)
  go_wp2_with fail
  refine (H3.out w7 hbb7).mono ?_; rintro e w8 ⟨rfl, hb8⟩
  have hbb8 := hbb7.trans (hb8.mono hbb7.size)
  go_wp2_with fail
  rw [HJ1.out]
  refine (H4.out w8 hbb8).mono ?_; rintro e w9 ⟨rfl, hb9⟩
  have hbb9 := hbb8.trans (hb9.mono hbb8.size)
  go_wp2_with fail
  refine (HCH.out w9).mono ?_; rintro e wA ⟨rfl, rfl⟩
  go_wp2
  go_ret
  exact ⟨rfl, hbb9⟩
end Go.Proofs.YtgfkdjmoflbmdaaGreatDoor
