/- Contracts: spec.HackageCompare, HackageParse, HackageCompareText, HackageKnown. Contract: spec.HackageCompareText. Walk: FnHackageTexts. -/
import Derived.Test.YtgfkdjmoflbmdaaGreatDoorMPlFxHf
namespace Go.Proofs.YtgfkdjmoflbmdaaGreatDoor
open Go.RowKit
open Go.Proofs

theorem nuget_none (ns ms : List Nat) : Pl.nugetOrd ns ms [] [] = Pl.cmpNums ns ms := by
  rw [Pl.nugetOrd]
  by_cases h : Pl.cmpNums ns ms = 0
  · rw [if_neg (by omega), h]; rfl
  · rw [if_pos h]
set_option maxRecDepth 100000 in
set_option maxHeartbeats 1000000 in
theorem specHack_any (va vb : Bool) (A B : Option Addr) (ca cb : Nat) (ns ms : List Nat) (oa ob : ByteArray) (w : World)
    (hra : Rd w 2 A ns.length (IntC ns)) (hrb : Rd w 2 B ms.length (IntC ms)) (hfa : Pl.Fits ns) (hfb : Pl.Fits ms) :
    Calls Tryz.prog 78 #[VV va A ns.length ca NoB oa, VV vb B ms.length cb NoB ob] w fun e w' => e = .returned (.tuple #[.int .i64 (Pl.hackOrd ns ms), .bool true]) ∧ Below w.heap.size w w' := by
  obtain ⟨W, hW⟩ : ∃ W, (w.alloc (.cells #[.bool va, .slice A ns.length ca, .string NoB, .string oa] 27)).alloc (.cells #[.bool vb, .slice B ms.length cb, .string NoB, .string ob] 27) = W := ⟨_, rfl⟩
  have hbW : Below w.heap.size w W := by rw [← hW]; exact ((Below.refl _ _).alloc (Nat.le_refl _) _).alloc (by simp) _
  have hP : Blk W w.heap.size 27 #[.bool va, .slice A ns.length ca, .string NoB, .string oa] := by rw [← hW]; exact (Blk.new _ _ _).alloc _
  have hQ : Blk W (w.heap.size + 1) 27 #[.bool vb, .slice B ms.length cb, .string NoB, .string ob] := by
    rw [← hW]
    have := Blk.new (w.alloc (.cells #[.bool va, .slice A ns.length ca, .string NoB, .string oa] 27)) 27 #[.bool vb, .slice B ms.length cb, .string NoB, .string ob]
    rw [World.size_alloc] at this
    exact this
  have HN := Lib.hid (NuGetCompare_any va vb A B ca cb ns ms NoB NoB oa ob W (hra.below hbW) (hrb.below hbW) hfa hfb (by decide) (by decide))
  rw [show Pl.nugetOrd ns ms (NoB : ByteArray).data.toList (NoB : ByteArray).data.toList = Pl.cmpNums ns ms from nuget_none ns ms] at HN
  have HW := Lib.hid hW
  obtain ⟨z, hz⟩ : ∃ z, Pl.cmpNums ns ms = z := ⟨_, rfl⟩
  have hres : Pl.hackOrd ns ms = if z ≠ 0 then z else Pl.ordI ns.length ms.length := by rw [Pl.hackOrd, hz]
  rw [hz] at HN
  have l1 := hfa.1
  have l2 := hfb.1
  clear hW hz hra hrb hfa hfb
  by_cases hz0 : z = 0
  · rw [if_neg (by simp [hz0])] at hres
    have HR := Lib.hid hres
    have hz1 : (z != 0) = false := by simp [hz0]
    clear hz0 hres
    go_enter Tryz.func78, Tryz.ntmps78
    go_wp2_with fail
    rw [HW.out]
    refine HN.out.mono ?_; rintro e w1 ⟨rfl, hb1⟩
    have p1 := (hP.below hb1 hP.lt).cell 1
    have q1 := (hQ.below hb1 hQ.lt).cell 1
    simp at p1 q1
    go_wp2_with fail
    refine (orderInts_any _ _ _).mono ?_; rintro e w2 ⟨rfl, rfl⟩
    go_wp2
    exact bodyPost_ret (v := .tuple #[.int .i64 (Pl.ordI ns.length ms.length), .bool true]) (by simp [results, Tryz.results78, go_sem]) rfl ⟨by rw [HR.out], hbW.trans (hb1.mono hbW.size)⟩
  · rw [if_pos hz0] at hres
    have HR := Lib.hid hres
    have hz1 : (z != 0) = true := by simpa using hz0
    clear hz0 hres
    go_enter Tryz.func78, Tryz.ntmps78
    go_wp2_with fail
    rw [HW.out]
    refine HN.out.mono ?_; rintro e w1 ⟨rfl, hb1⟩
    go_wp2
    exact bodyPost_ret (v := .tuple #[.int .i64 z, .bool true]) (by simp [results, Tryz.results78, go_sem]) rfl ⟨by rw [HR.out], hbW.trans (hb1.mono hbW.size)⟩
theorem own_four {w : World} {base g n : Nat} {e t : TypeId} {size : Nat} {cs : Array Value} {v : Value} {xs : List Value} (h : w.ownsRow base e size v n xs) (hb : Blk w g t cs) (ht : e ≠ t) (a b c d : Value) :
    ((((w.setCell ⟨g, 0, none⟩ a).setCell ⟨g, 1, none⟩ b).setCell ⟨g, 2, none⟩ c).setCell ⟨g, 3, none⟩ d).ownsRow base e size v n xs := by
  have hne := own_blk_ne h hb ht
  exact own_far (own_far (own_far (own_far h hne _) hne _) hne _) hne _
/-- what the reference's parser hands back -/
def SpecHack (w : World) (s : ByteArray) (e : Ending) (w' : World) : Prop :=
  Below w.heap.size w w' ∧ ((Pl.buildOf s.data.toList = [] ∧ ∃ A c, e = .returned (.tuple #[VV (Pl.startsV s.data.toList) A (Pl.numsOf s.data.toList).length c NoB s, .bool true]) ∧ w'.ownsRow w.heap.size 46 2 (.slice A (Pl.numsOf s.data.toList).length c) (Pl.numsOf s.data.toList).length (IntC (Pl.numsOf s.data.toList))) ∨
    (Pl.buildOf s.data.toList ≠ [] ∧ e = .returned (.tuple #[VV false none 0 0 NoB NoB, .bool false])))
set_option maxRecDepth 100000 in
set_option maxHeartbeats 1000000 in
theorem specParse_any (s : ByteArray) (w : World) (hs : s.size ≤ 30000) : Calls Tryz.prog 77 #[.string s] w (SpecHack w s) := by
  obtain ⟨W, hW⟩ : ∃ W, w.alloc (.cells #[.bool false, .slice none 0 0, .string ⟨#[]⟩, .string ⟨#[]⟩] 27) = W := ⟨_, rfl⟩
  have hbW : Below w.heap.size w W := by rw [← hW]; exact (Below.refl _ _).alloc (Nat.le_refl _) _
  have hRW : Blk W w.heap.size 27 #[.bool false, .slice none 0 0, .string ⟨#[]⟩, .string ⟨#[]⟩] := by rw [← hW]; exact Blk.new _ _ _
  have HW := Lib.hid hW
  have HC := Lib.hid (LikeParse_any s W hs)
  clear hW
  by_cases hb : Pl.buildOf s.data.toList = []
  · rw [hb] at HC
    have HB := Lib.hid hb
    clear hb
    go_enter Tryz.func77, Tryz.ntmps77
    go_wp2_with fail
    rw [HW.out]
    refine HC.out.mono ?_; rintro e w1 ⟨A, c, rfl, hown, hb1⟩
    have hbel := hbW.trans (hb1.mono hbW.size)
    have hR1 := hRW.below hb1 hRW.lt
    have d0 := hR1.cell 0
    have d1 := hR1.cell 1
    have d2 := hR1.cell 2
    have d3 := hR1.cell 3
    have e0 := hR1.frozen 0
    have e1 := hR1.frozen 1
    have e2 := hR1.frozen 2
    have e3 := hR1.frozen 3
    simp at d0 d1 d2 d3
    go_upto_region 2 with (fail)
    have hY : Blk ((((w1.setCell ⟨w.heap.size, 0, none⟩ (.bool (Pl.startsV s.data.toList))).setCell ⟨w.heap.size, 1, none⟩ (.slice A (Pl.numsOf s.data.toList).length c)).setCell ⟨w.heap.size, 2, none⟩ (.string NoB)).setCell ⟨w.heap.size, 3, none⟩ (.string s)) w.heap.size 27 #[.bool (Pl.startsV s.data.toList), .slice A (Pl.numsOf s.data.toList).length c, .string NoB, .string s] := by
      have := (((hR1.set_ 0 (.bool (Pl.startsV s.data.toList))).set_ 1 (.slice A (Pl.numsOf s.data.toList).length c)).set_ 2 (.string NoB)).set_ 3 (.string s)
      simpa using this
    have hO : ((((w1.setCell ⟨w.heap.size, 0, none⟩ (.bool (Pl.startsV s.data.toList))).setCell ⟨w.heap.size, 1, none⟩ (.slice A (Pl.numsOf s.data.toList).length c)).setCell ⟨w.heap.size, 2, none⟩ (.string NoB)).setCell ⟨w.heap.size, 3, none⟩ (.string s)).ownsRow w.heap.size 46 2 (.slice A (Pl.numsOf s.data.toList).length c) (Pl.numsOf s.data.toList).length (IntC (Pl.numsOf s.data.toList)) := own_four (own_lower hown hbW.size) hR1 (by decide) _ _ _ _
    have hbY : Below w.heap.size w ((((w1.setCell ⟨w.heap.size, 0, none⟩ (.bool (Pl.startsV s.data.toList))).setCell ⟨w.heap.size, 1, none⟩ (.slice A (Pl.numsOf s.data.toList).length c)).setCell ⟨w.heap.size, 2, none⟩ (.string NoB)).setCell ⟨w.heap.size, 3, none⟩ (.string s)) := below_four4 hbel (Nat.le_refl _) _ _ _ _
    generalize (((w1.setCell ⟨w.heap.size, 0, none⟩ (.bool (Pl.startsV s.data.toList))).setCell ⟨w.heap.size, 1, none⟩ (.slice A (Pl.numsOf s.data.toList).length c)).setCell ⟨w.heap.size, 2, none⟩ (.string NoB)).setCell ⟨w.heap.size, 3, none⟩ (.string s) = Y at hY hO hbY ⊢
    have y0 := hY.cell 0
    have y1 := hY.cell 1
    have y2 := hY.cell 2
    have y3 := hY.cell 3
    have z0 := hY.frozen 0
    have z1 := hY.frozen 1
    have z2 := hY.frozen 2
    have z3 := hY.frozen 3
    simp at y0 y1 y2 y3
    clear d0 d1 d2 d3 e0 e1 e2 e3
    go_wp2
    refine bodyPost_ret (v := .tuple #[VV (Pl.startsV s.data.toList) A (Pl.numsOf s.data.toList).length c NoB s, .bool true]) (by simp [results, Tryz.results77, go_sem, y0, y1, y2, y3]) rfl ⟨below_four4 hbY (Nat.le_refl _) _ _ _ _, Or.inl ⟨HB.out, A, c, rfl, own_four hO hY (by decide) _ _ _ _⟩⟩
  · have HB := Lib.hid hb
    have hbe : (Pl.buildOf s.data.toList).isEmpty = false := by simpa using hb
    clear hb
    go_enter Tryz.func77, Tryz.ntmps77
    go_wp2_with fail
    rw [HW.out]
    refine HC.out.mono ?_; rintro e w1 ⟨A, c, rfl, hown, hb1⟩
    have hbel := hbW.trans (hb1.mono hbW.size)
    have hR1 := hRW.below hb1 hRW.lt
    have d0 := hR1.cell 0
    have d1 := hR1.cell 1
    have d2 := hR1.cell 2
    have d3 := hR1.cell 3
    have e0 := hR1.frozen 0
    have e1 := hR1.frozen 1
    have e2 := hR1.frozen 2
    have e3 := hR1.frozen 3
    simp at d0 d1 d2 d3
    go_upto_region 2 with (fail)
    have hY : Blk ((((w1.setCell ⟨w.heap.size, 0, none⟩ (.bool (Pl.startsV s.data.toList))).setCell ⟨w.heap.size, 1, none⟩ (.slice A (Pl.numsOf s.data.toList).length c)).setCell ⟨w.heap.size, 2, none⟩ (S (Pl.buildOf s.data.toList))).setCell ⟨w.heap.size, 3, none⟩ (.string s)) w.heap.size 27 #[.bool (Pl.startsV s.data.toList), .slice A (Pl.numsOf s.data.toList).length c, S (Pl.buildOf s.data.toList), .string s] := by
      have := (((hR1.set_ 0 (.bool (Pl.startsV s.data.toList))).set_ 1 (.slice A (Pl.numsOf s.data.toList).length c)).set_ 2 (S (Pl.buildOf s.data.toList))).set_ 3 (.string s)
      simpa using this
    have hO : ((((w1.setCell ⟨w.heap.size, 0, none⟩ (.bool (Pl.startsV s.data.toList))).setCell ⟨w.heap.size, 1, none⟩ (.slice A (Pl.numsOf s.data.toList).length c)).setCell ⟨w.heap.size, 2, none⟩ (S (Pl.buildOf s.data.toList))).setCell ⟨w.heap.size, 3, none⟩ (.string s)).ownsRow w.heap.size 46 2 (.slice A (Pl.numsOf s.data.toList).length c) (Pl.numsOf s.data.toList).length (IntC (Pl.numsOf s.data.toList)) := own_four (own_lower hown hbW.size) hR1 (by decide) _ _ _ _
    have hbY : Below w.heap.size w ((((w1.setCell ⟨w.heap.size, 0, none⟩ (.bool (Pl.startsV s.data.toList))).setCell ⟨w.heap.size, 1, none⟩ (.slice A (Pl.numsOf s.data.toList).length c)).setCell ⟨w.heap.size, 2, none⟩ (S (Pl.buildOf s.data.toList))).setCell ⟨w.heap.size, 3, none⟩ (.string s)) := below_four4 hbel (Nat.le_refl _) _ _ _ _
    generalize (((w1.setCell ⟨w.heap.size, 0, none⟩ (.bool (Pl.startsV s.data.toList))).setCell ⟨w.heap.size, 1, none⟩ (.slice A (Pl.numsOf s.data.toList).length c)).setCell ⟨w.heap.size, 2, none⟩ (S (Pl.buildOf s.data.toList))).setCell ⟨w.heap.size, 3, none⟩ (.string s) = Y at hY hO hbY ⊢
    have y0 := hY.cell 0
    have y1 := hY.cell 1
    have y2 := hY.cell 2
    have y3 := hY.cell 3
    have z0 := hY.frozen 0
    have z1 := hY.frozen 1
    have z2 := hY.frozen 2
    have z3 := hY.frozen 3
    simp at y0 y1 y2 y3
    clear d0 d1 d2 d3 e0 e1 e2 e3
    go_wp2
    exact bodyPost_ret (v := .tuple #[VV false none 0 0 NoB NoB, .bool false]) (by simp [results, Tryz.results77, go_sem, y0, y1, y2, y3]) rfl ⟨below_four4 hbY (Nat.le_refl _) _ _ _ _, Or.inr ⟨HB.out, rfl⟩⟩
theorem HackageKnown_any (s : ByteArray) (w : World) (hs : s.size ≤ 30000) (hT : VTabs w) : Calls Tryz.prog 36 #[.string s] w fun e w' => SomeBool e ∧ Below w.heap.size w w' := by
  go_enter Tryz.func36, Tryz.ntmps36
  go_wp2_with fail
  refine (LikeKnown_any s w hs hT).mono ?_; rintro e w1 ⟨⟨b, rfl⟩, hb1⟩
  go_wp2
  go_ret
  exact ⟨someBool_mk _, hb1⟩
end Go.Proofs.YtgfkdjmoflbmdaaGreatDoor

namespace Go.Proofs.YtgfkdjmoflbmdaaGreatDoor
open Go.RowKit
open Go.Proofs

theorem nums_fits2 {s : ByteArray} (hs : s.size ≤ 15000) : Pl.Fits (Pl.numsOf s.data.toList) := by
  have h1 := numsOf_len s.data.toList
  rw [len_list] at h1
  refine ⟨by omega, fun n hn => ?_⟩
  obtain ⟨p, rfl, hp, hd⟩ := numsOf_mem hn
  have h2 := coreOf_len s.data.toList
  rw [len_list] at h2
  have h3 := Pl.natOf_lt p hd
  have h4 := Pl.pow10_lt p.length
  have := Pl.magOf_len (Pl.natOf p) p.length (by omega)
  omega
set_option maxRecDepth 100000 in
set_option maxHeartbeats 1000000 in
theorem specHackText_any (a b : ByteArray) (w : World) (ha : a.size ≤ 15000) (hb : b.size ≤ 15000) :
    Calls Tryz.prog 39 #[.string a, .string b] w fun e w' => e = .returned (.tuple #[.int .i64 (hackText a.data.toList b.data.toList).1, .bool (hackText a.data.toList b.data.toList).2]) ∧ Below w.heap.size w w' := by
  obtain ⟨r, hr⟩ : ∃ r, hackText a.data.toList b.data.toList = r := ⟨_, rfl⟩
  rw [hr]
  have HRR := Lib.hid hr
  clear hr
  have HA := Lib.hid (specParse_any a w (by omega))
  have HB := Lib.hid (fun w => specParse_any b w (by omega))
  go_enter Tryz.func39, Tryz.ntmps39
  go_wp2_with fail
  refine HA.out.mono ?_; rintro e w1 ⟨hb1, ⟨h1, A, c, rfl, hown1⟩ | ⟨h1, rfl⟩⟩
  · have H1 := Lib.hid h1
    clear h1
    obtain ⟨X, hX⟩ : ∃ X, w1.alloc (.cells #[.bool (Pl.startsV a.data.toList), .slice A (Pl.numsOf a.data.toList).length c, .string NoB, .string a] 27) = X := ⟨_, rfl⟩
    have hbX : Below w1.heap.size w1 X := by rw [← hX]; exact (Below.refl _ _).alloc (Nat.le_refl _) _
    have hP : Blk X w1.heap.size 27 #[.bool (Pl.startsV a.data.toList), .slice A (Pl.numsOf a.data.toList).length c, .string NoB, .string a] := by rw [← hX]; exact Blk.new _ _ _
    have hbelX := hb1.trans (hbX.mono hb1.size)
    have hrX := (Rd.of_own hown1).below hbX
    have HX := Lib.hid hX
    clear hX
    go_wp2_with fail
    rw [HX.out]
    refine (HB.out X).mono ?_; rintro e w2 ⟨hb2, ⟨h2, B, d, rfl, hown2⟩ | ⟨h2, rfl⟩⟩
    · have hR := hackText_yes H1.out h2
      have HR := Lib.hid hR
      have H2 := Lib.hid h2
      clear hR h2
      have hbel2 := hbelX.trans (hb2.mono hbelX.size)
      have hP2 := hP.below hb2 hP.lt
      have hlt2 := hP2.lt
      have p0 := hP2.cell 0
      have p1 := hP2.cell 1
      have p2 := hP2.cell 2
      have p3 := hP2.cell 3
      simp at p0 p1 p2 p3
      obtain ⟨Y, hY⟩ : ∃ Y, w2.alloc (.cells #[.bool (Pl.startsV b.data.toList), .slice B (Pl.numsOf b.data.toList).length d, .string NoB, .string b] 27) = Y := ⟨_, rfl⟩
      have hbY : Below w2.heap.size w2 Y := by rw [← hY]; exact (Below.refl _ _).alloc (Nat.le_refl _) _
      have hbelY := hbel2.trans (hbY.mono hbel2.size)
      have HS := Lib.hid (specHack_any (Pl.startsV a.data.toList) (Pl.startsV b.data.toList) A B c d (Pl.numsOf a.data.toList) (Pl.numsOf b.data.toList) a b Y ((hrX.below hb2).below hbY) ((Rd.of_own hown2).below hbY) (nums_fits2 ha) (nums_fits2 hb))
      have HY := Lib.hid hY
      clear hY
      go_wp2_with fail
      rw [HY.out]
      refine HS.out.mono ?_; rintro e w3 ⟨rfl, hb3⟩
      go_wp2
      exact bodyPost_ret (v := .tuple #[.int .i64 (Pl.hackOrd (Pl.numsOf a.data.toList) (Pl.numsOf b.data.toList)), .bool true]) (by simp [results, Tryz.results39, go_sem]) rfl ⟨by rw [← HRR.out, HR.out], hbelY.trans (hb3.mono hbelY.size)⟩
    · have hR := hackText_no (a := a.data.toList) (b := b.data.toList) (fun h => h2 h.2)
      have HR := Lib.hid hR
      clear hR h2
      have hbel2 := hbelX.trans (hb2.mono hbelX.size)
      go_wp2
      exact bodyPost_ret (v := .tuple #[.int .i64 0, .bool false]) (by simp [results, Tryz.results39, go_sem]) rfl ⟨by rw [← HRR.out, HR.out], hbel2.alloc hbel2.size _⟩
  · have hR := hackText_no (a := a.data.toList) (b := b.data.toList) (fun h => h1 h.1)
    have HR := Lib.hid hR
    clear hR h1
    go_wp2_with fail
    refine (HB.out _).mono ?_; rintro e w2 ⟨hb2, ⟨h2, B, d, rfl, hown2⟩ | ⟨h2, rfl⟩⟩
    · have hbX := hb1.alloc hb1.size (.cells #[.bool false, .slice none 0 0, .string NoB, .string NoB] 27)
      have hbel2 := hbX.trans (hb2.mono hbX.size)
      clear h2
      go_wp2
      exact bodyPost_ret (v := .tuple #[.int .i64 0, .bool false]) (by simp [results, Tryz.results39, go_sem]) rfl ⟨by rw [← HRR.out, HR.out], hbel2.alloc hbel2.size _⟩
    · have hbX := hb1.alloc hb1.size (.cells #[.bool false, .slice none 0 0, .string NoB, .string NoB] 27)
      have hbel2 := hbX.trans (hb2.mono hbX.size)
      clear h2
      go_wp2
      exact bodyPost_ret (v := .tuple #[.int .i64 0, .bool false]) (by simp [results, Tryz.results39, go_sem]) rfl ⟨by rw [← HRR.out, HR.out], hbel2.alloc hbel2.size _⟩
theorem short2 (l m : Pl.Bytes) : Pl.shortB [l, m] = (decide (l.length ≤ 1500) && decide (m.length ≤ 1500)) := by simp [Pl.shortB]
set_option maxRecDepth 100000 in
set_option maxHeartbeats 2000000 in
theorem hackTexts_walk (a b : ByteArray) (pe pn pi : Addr) (w : World) (ha : a.size ≤ maxLen) (hb : b.size ≤ maxLen) (hV : PkgVars w pe pn pi) (hT : VTabs w) :
    Calls Tryz.prog 11 #[.string a, .string b] w fun e w' => e = .returned (.bool true) ∧ Below w.heap.size w w' := by
  unfold maxLen at ha hb
  by_cases h1 : a.size ≤ 2147483647
  · by_cases h2 : b.size ≤ 2147483647
    · have h1z : ¬ (2147483647 : Int) < (a.size : Int) := by omega
      have h2z : ¬ (2147483647 : Int) < (b.size : Int) := by omega
      obtain ⟨W, hW⟩ : ∃ W, w.alloc (.cells #[.string a, .string b] 9) = W := ⟨_, rfl⟩
      have hbW : Below w.heap.size w W := by rw [← hW]; exact (Below.refl _ _).alloc (Nat.le_refl _) _
      have hBS : Blk W w.heap.size 9 #[.string a, .string b] := by rw [← hW]; exact Blk.new _ _ _
      have HS := Lib.hid (short_any (some ⟨w.heap.size, 0, none⟩) 2 [a.data.toList, b.data.toList] W (Rd.of_blk hBS 1 2 rfl) (by simp) (by simp; unfold maxLen; omega))
      rw [short2, len_list, len_list] at HS
      have HW := Lib.hid hW
      clear hW
      by_cases hab : a.size ≤ 1500 ∧ b.size ≤ 1500
      · obtain ⟨hsa, hsb⟩ := hab
        rw [show (decide (a.size ≤ 1500) && decide (b.size ≤ 1500)) = true from by simp [hsa, hsb]] at HS
        have hTW := hT.below hbW
        have HSP := Lib.hid (fun w => specHackText_any a b w (by omega) (by omega))
        have HIM := Lib.hid (fun (w' : World) (h : Below w.heap.size w w') => hackText_any a b pe pn pi w' (by omega) (by omega) (hV.below h))
        obtain ⟨r, hr⟩ : ∃ r, hackText a.data.toList b.data.toList = r := ⟨_, rfl⟩
        rw [hr] at HSP HIM
        obtain ⟨r1, r2⟩ := r
        simp only at HSP HIM
        clear hr
        go_enter Tryz.func11, Tryz.ntmps11
        go_wp2_with fail
        rw [HW.out]
        refine HS.out.mono ?_; rintro e w1 ⟨rfl, rfl⟩
        go_wp2_with fail
        refine (HackageKnown_any a W (by omega) hTW).mono ?_; rintro e w2 ⟨⟨k1, rfl⟩, hb2⟩
        have hbb2 := hbW.trans (hb2.mono hbW.size)
        cases k1 with
        | false =>
          go_wp2
          go_ret
          exact ⟨rfl, hbb2⟩
        | true =>
          go_wp2_with fail
          refine (HackageKnown_any b w2 (by omega) (hTW.below hb2)).mono ?_; rintro e w3 ⟨⟨k2, rfl⟩, hb3⟩
          have hbb3 := hbb2.trans (hb3.mono hbb2.size)
          cases k2 with
          | false =>
            go_wp2
            go_ret
            exact ⟨rfl, hbb3⟩
          | true =>
            go_wp2_with fail
            refine (HSP.out w3).mono ?_; rintro e w4 ⟨rfl, hb4⟩
            have hbb4 := hbb3.trans (hb4.mono hbb3.size)
            go_wp2_with fail
            refine (HIM.out w4 hbb4).mono ?_; rintro e w5 ⟨rfl, hb5⟩
            have hbb5 := hbb4.trans (hb5.mono hbb4.size)
            go_wp2
            go_ret
            exact ⟨ret_bool (by simp), hbb5⟩
      · rw [show (decide (a.size ≤ 1500) && decide (b.size ≤ 1500)) = false from by rw [Bool.and_eq_false_iff]; simp; omega] at HS
        go_enter Tryz.func11, Tryz.ntmps11
        go_wp2_with fail
        rw [HW.out]
        refine HS.out.mono ?_; rintro e w1 ⟨rfl, rfl⟩
        go_wp2
        go_ret
        exact ⟨rfl, hbW⟩
    · have h1z : ¬ (2147483647 : Int) < (a.size : Int) := by omega
      have h2z : (2147483647 : Int) < (b.size : Int) := by omega
      go_enter Tryz.func11, Tryz.ntmps11
      go_wp2
      go_ret
      exact ⟨rfl, Below.refl _ _⟩
  · have h1z : (2147483647 : Int) < (a.size : Int) := by omega
    go_enter Tryz.func11, Tryz.ntmps11
    go_wp2
    go_ret
    exact ⟨rfl, Below.refl _ _⟩
end Go.Proofs.YtgfkdjmoflbmdaaGreatDoor
