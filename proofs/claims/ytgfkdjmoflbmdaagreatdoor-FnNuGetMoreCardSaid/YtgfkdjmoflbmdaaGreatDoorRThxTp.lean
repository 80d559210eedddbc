/- Contracts. -/
import Derived.Test.YtgfkdjmoflbmdaaGreatDoorRTfxTm
import Derived.Test.YtgfkdjmoflbmdaaGreatDoorRNc
import Derived.Test.YtgfkdjmoflbmdaaGreatDoorRHf
namespace Go.Proofs.YtgfkdjmoflbmdaaGreatDoor
open Go.RowKit
open Go.Proofs
set_option maxRecDepth 100000 in
theorem ParseNuGetK_any (s : ByteArray) (pe pn pi : Addr) (w : World) (hs : s.size ≤ 1500) (hV : PkgVars w pe pn pi) (hBV : BigVars w) (hasc : Pl.ascii s.data.toList = true) :
    Calls Tryz.prog 68 #[.string s] w (KeptBack w 4 s) := by
  obtain ⟨W, hW⟩ : ∃ W, w.alloc (.cells #[.bool false, .slice none 0 0, .string ⟨#[]⟩, .string ⟨#[]⟩] 77) = W := ⟨_, rfl⟩
  have hbW : Below w.heap.size w W := by rw [← hW]; exact (Below.refl _ _).alloc (Nat.le_refl _) _
  have hRW : Blk W w.heap.size 77 #[.bool false, .slice none 0 0, .string ⟨#[]⟩, .string ⟨#[]⟩] := by rw [← hW]; exact Blk.new _ _ _
  have HC := Lib.hid (parseKept_any s 4 pe pn pi W hs (hV.below hbW) (hBV.below hbW) hasc (by omega))
  have HW := Lib.hid hW
  clear hW hBV
  go_enter Tryz.func68, Tryz.ntmps68
  go_wp2_with fail
  rw [HW.out]
  refine HC.out.mono ?_; rintro e w1 ⟨A, c, rfl, hob, hb1⟩
  have hR1 := hRW.below hb1 hRW.lt
  have d0 := hR1.cell 0
  have d1 := hR1.cell 1
  have d2 := hR1.cell 2
  have d3 := hR1.cell 3
  have e0 := hR1.frozen 0
  have e1 := hR1.frozen 1
  have e2 := hR1.frozen 2
  have e3 := hR1.frozen 3
  simp at d0 d1 d2 d3
  go_wp2
  refine bodyPost_ret (v := .agg #[.bool (Pl.startsV s.data.toList), .slice A (Pl.keptN 4 s.data.toList).length c, S (Pl.keptB 4 s.data.toList), .string s]) (by simp [results, Tryz.results68, go_sem, d0, d1, d2, d3]) rfl ⟨A, c, rfl, ?_, ?_⟩
  · exact OwnBigs.fourT (OwnBigs.lower hob hbW.size) hR1 (by decide) (by decide) (by decide)
  · have hb := hbW.trans (hb1.mono hbW.size)
    exact (((hb.setCell (Nat.le_refl _) _).setCell (Nat.le_refl _) _).setCell (Nat.le_refl _) _).setCell (Nat.le_refl _) _
set_option maxRecDepth 100000 in
set_option maxHeartbeats 1000000 in
theorem NuGetStrK_any (va : Bool) (A : Option Addr) (ca : Nat) (ns : List Nat) (da oa s : ByteArray) (pe pn pi : Addr) (w : World) (hA : Bigs w A ns) (hna : Small ns)
    (hda : da.size ≤ 30000) (hV : PkgVars w pe pn pi) (hBV : BigVars w) (hka : Pl.buildKnown da.data.toList = true) (haa : Pl.ascii da.data.toList = true) (hs : ReadyK 4 s) :
    Calls Tryz.prog 69 #[VV va A ns.length ca da oa, .string s] w fun e w' => e = .returned (.tuple #[.int .i64 (Pl.nugetOrd ns (Pl.keptN 4 s.data.toList) da.data.toList (Pl.keptB 4 s.data.toList)), .nilIface]) ∧ Below w.heap.size w w' := by
  obtain ⟨W, hW⟩ : ∃ W, w.alloc (.cells #[.bool va, .slice A ns.length ca, .string da, .string oa] 77) = W := ⟨_, rfl⟩
  have hbW : Below w.heap.size w W := by rw [← hW]; exact (Below.refl _ _).alloc (Nat.le_refl _) _
  have hP : Blk W w.heap.size 77 #[.bool va, .slice A ns.length ca, .string da, .string oa] := by rw [← hW]; exact Blk.new _ _ _
  have hPd : Blk W.drew w.heap.size 77 #[.bool va, .slice A ns.length ca, .string da, .string oa] := hP
  have hbWd : Below w.heap.size w W.drew := hbW.drew
  have HPS := Lib.hid (ParseNuGetK_any s pe pn pi W.drew hs.size (hV.below hbWd) (hBV.below hbWd) hs.asc)
  have p0 := hP.cell 0
  have p1 := hP.cell 1
  have p2 := hP.cell 2
  have p3 := hP.cell 3
  simp at p0 p1 p2 p3
  have HC := Lib.hid (fun (w1 : World) (h : Below W.drew.heap.size W.drew w1) B c (hB : Bigs w1 B (Pl.keptN 4 s.data.toList)) => nugetCmp_any va (Pl.startsV s.data.toList) A B ca c ns (Pl.keptN 4 s.data.toList) da ⟨(Pl.keptB 4 s.data.toList).toArray⟩ oa s pe pn pi w1
    ((hA.below hbWd).below h) hB hna (hs.small) hda hs.build ((hV.below hbWd).below h) hka hs.known haa (hs.ascB))
  have HW := Lib.hid hW
  obtain ⟨R, hR⟩ : ∃ R, Pl.nugetOrd ns (Pl.keptN 4 s.data.toList) da.data.toList (Pl.keptB 4 s.data.toList) = R := ⟨_, rfl⟩
  rw [hR] at HC ⊢
  clear hW hA hna hka hs hR hBV
  go_enter Tryz.func69, Tryz.ntmps69
  go_wp2_with fail
  rw [HW.out]
  go_region_with (first
    | (go_at_call 68; refine HPS.out.mono ?_; rintro e w1 ⟨B, c, rfl, hob, hb1⟩; have hP1 := hPd.below hb1 hPd.lt; have q0 := hP1.cell 0; have q1 := hP1.cell 1; have q2 := hP1.cell 2; have q3 := hP1.cell 3; simp at q0 q1 q2 q3)
    | (go_at_call 98; refine (HC.out w1 hb1 B c hob.bigs).mono ?_; rintro e w2 ⟨rfl, hb2⟩))
  all_goals go_wp2_with fail
  all_goals exact bodyPost_ret (v := .tuple #[.int .i64 R, .nilIface]) (by simp [results, Tryz.results69, go_sem]) rfl ⟨rfl, hbWd.trans ((hb1.mono hbWd.size).trans (hb2.mono (Nat.le_trans hbWd.size hb1.size)))⟩
set_option maxRecDepth 100000 in
theorem NuGetTextK_any (a b : ByteArray) (pe pn pi : Addr) (w : World) (hV : PkgVars w pe pn pi) (hBV : BigVars w) (ha : ReadyK 4 a) (hb : ReadyK 4 b) :
    Calls Tryz.prog 32 #[.string a, .string b] w fun e w' => e = .returned (.tuple #[.int .i64 (Pl.nugetOrd (Pl.keptN 4 a.data.toList) (Pl.keptN 4 b.data.toList) (Pl.keptB 4 a.data.toList) (Pl.keptB 4 b.data.toList)), .bool true]) ∧ Below w.heap.size w w' := by
  have HP := Lib.hid (ParseNuGetK_any a pe pn pi w ha.size hV hBV ha.asc)
  have HC := Lib.hid (fun (w1 : World) (h : Below w.heap.size w w1) A c (hA : Bigs w1 A (Pl.keptN 4 a.data.toList)) => NuGetStrK_any (Pl.startsV a.data.toList) A c (Pl.keptN 4 a.data.toList) ⟨(Pl.keptB 4 a.data.toList).toArray⟩ a b pe pn pi w1 hA (ha.small) ha.build (hV.below h) (hBV.below h) ha.known ha.ascB hb)
  obtain ⟨R, hR⟩ : ∃ R, Pl.nugetOrd (Pl.keptN 4 a.data.toList) (Pl.keptN 4 b.data.toList) (Pl.keptB 4 a.data.toList) (Pl.keptB 4 b.data.toList) = R := ⟨_, rfl⟩
  simp only at HC
  rw [hR] at HC ⊢
  clear hR ha hb hBV
  go_enter Tryz.func32, Tryz.ntmps32
  go_wp2_with fail
  refine HP.out.mono ?_; rintro e w1 ⟨A, c, rfl, hob, hb1⟩
  go_wp2_with fail
  refine (HC.out w1 hb1 A c hob.bigs).mono ?_; rintro e w2 ⟨rfl, hb2⟩
  go_wp2_with fail
  go_quiet (fail)
  go_wp2
  exact bodyPost_ret (v := .tuple #[.int .i64 R, .bool true]) (by simp [results, Tryz.results32, go_sem]) rfl ⟨rfl, below_drewN (hb1.trans (hb2.mono hb1.size)) _⟩
set_option maxRecDepth 100000 in
set_option maxHeartbeats 1000000 in
theorem specNuGetText_any (a b : ByteArray) (w : World) (ha : a.size ≤ 1500) (hb : b.size ≤ 1500) :
    Calls Tryz.prog 41 #[.string a, .string b] w fun e w' => e = .returned (.tuple #[.int .i64 (Pl.nugM 4 a.data.toList b.data.toList), .bool true]) ∧ Below w.heap.size w w' := by
  have H1 := Lib.hid (textParse_any a 4 w ha (by omega))
  have H2 := Lib.hid (fun W => textParse_any b 4 W hb (by omega))
  have HC := Lib.hid (fun (W : World) A c B d (h1 : Rd W 2 A (Pl.keptN 4 a.data.toList).length (IntC (Pl.keptN 4 a.data.toList))) (h2 : Rd W 2 B (Pl.keptN 4 b.data.toList).length (IntC (Pl.keptN 4 b.data.toList))) =>
    NuGetCompare_any (Pl.startsV a.data.toList) (Pl.startsV b.data.toList) A B c d (Pl.keptN 4 a.data.toList) (Pl.keptN 4 b.data.toList) ⟨(Pl.keptB 4 a.data.toList).toArray⟩ ⟨(Pl.keptB 4 b.data.toList).toArray⟩ a b W h1 h2 (kept_fits (by omega)) (kept_fits (by omega)) (by have := (kept_small (m := 4) ha).1; rw [S_size]; omega) (by have := (kept_small (m := 4) hb).1; rw [S_size]; omega))
  obtain ⟨R, hR⟩ : ∃ R, Pl.nugM 4 a.data.toList b.data.toList = R := ⟨_, rfl⟩
  have hR2 : Pl.nugetOrd (Pl.keptN 4 a.data.toList) (Pl.keptN 4 b.data.toList) (Pl.keptB 4 a.data.toList) (Pl.keptB 4 b.data.toList) = R := hR
  simp only at HC
  rw [hR2] at HC
  rw [hR]
  clear hR hR2
  go_enter Tryz.func41, Tryz.ntmps41
  go_wp2_with fail
  refine H1.out.mono ?_; rintro e w1 ⟨A, c, rfl, hA, hb1⟩
  go_wp2_with fail
  refine (H2.out w1).mono ?_; rintro e w2 ⟨B, d, rfl, hB, hb2⟩
  have hA2 := hA.below hb2
  have hbb2 := hb1.trans (hb2.mono hb1.size)
  go_wp2_with fail
  refine (HC.out w2 A c B d hA2 hB).mono ?_; rintro e w3 ⟨rfl, hb3⟩
  go_wp2
  exact bodyPost_ret (v := .tuple #[.int .i64 R, .bool true]) (by simp [results, Tryz.results41, go_sem]) rfl ⟨rfl, hbb2.trans (hb3.mono hbb2.size)⟩
set_option maxRecDepth 100000 in
set_option maxHeartbeats 8000000 in
theorem nugetMore_walk (a b : ByteArray) (pe pn pi : Addr) (w : World) (ha : a.size ≤ maxLen) (hb : b.size ≤ maxLen) (hV : PkgVars w pe pn pi) (hBV : BigVars w) (hT : VTabs w) :
    Calls Tryz.prog 12 #[.string a, .string b] w fun e w' => e = .returned (.bool true) ∧ Below w.heap.size w w' := by
  unfold maxLen at ha hb
  by_cases h1 : a.size ≤ 2147483647
  · by_cases h2 : b.size ≤ 2147483647
    · have h1z : ¬ (2147483647 : Int) < (a.size : Int) := by omega
      have h2z : ¬ (2147483647 : Int) < (b.size : Int) := by omega
      go_enter Tryz.func12, Tryz.ntmps12
      go_wp2_with fail
      refine (more_any a 4 w h1 (by omega) hT).mono ?_; rintro e w1 ⟨⟨fa, rfl, hfa⟩, hb1⟩
      cases fa with
      | false =>
        go_wp2
        go_ret
        exact ⟨rfl, hb1⟩
      | true =>
        have HRA := Lib.hid (more_ready (hfa rfl))
        clear hfa
        go_wp2_with fail
        refine (more_any b 4 w1 h2 (by omega) (hT.below hb1)).mono ?_; rintro e w2 ⟨⟨fb, rfl, hfb⟩, hb2⟩
        have hbb2 := hb1.trans (hb2.mono hb1.size)
        cases fb with
        | false =>
          go_wp2
          go_ret
          exact ⟨rfl, hbb2⟩
        | true =>
          have HRB := Lib.hid (more_ready (hfb rfl))
          clear hfb
          have hsa := HRA.out.size
          have hsb := HRB.out.size
          have hord := Pl.nugM_ord 4
          have htu := hord.turned a.data.toList b.data.toList
          have hth := hord.three b.data.toList a.data.toList
          obtain ⟨R, hR⟩ : ∃ R, Pl.nugM 4 a.data.toList b.data.toList = R := ⟨_, rfl⟩
          obtain ⟨R2, hR2⟩ : ∃ R, Pl.nugM 4 b.data.toList a.data.toList = R := ⟨_, rfl⟩
          rw [hR, hR2] at htu
          rw [hR2] at hth
          have hTU := Lib.hid (fun W => turned_any R R2 W (by omega))
          rw [htu] at hTU
          have hC := Lib.hid (fun (W : World) A c B d (h1 : Rd W 2 A (Pl.keptN 4 a.data.toList).length (IntC (Pl.keptN 4 a.data.toList))) (h2 : Rd W 2 B (Pl.keptN 4 b.data.toList).length (IntC (Pl.keptN 4 b.data.toList))) =>
            NuGetCompare_any (Pl.startsV a.data.toList) (Pl.startsV b.data.toList) A B c d (Pl.keptN 4 a.data.toList) (Pl.keptN 4 b.data.toList) ⟨(Pl.keptB 4 a.data.toList).toArray⟩ ⟨(Pl.keptB 4 b.data.toList).toArray⟩ a b W h1 h2 (kept_fits (by omega)) (kept_fits (by omega)) HRA.out.build HRB.out.build)
          have hI := Lib.hid (fun (W : World) (h : Below w.heap.size w W) A c B d (h1 : LikeIn W A (Pl.keptN 4 a.data.toList) ⟨(Pl.keptB 4 a.data.toList).toArray⟩) (h2 : LikeIn W B (Pl.keptN 4 b.data.toList) ⟨(Pl.keptB 4 b.data.toList).toArray⟩) =>
            implNuGet_any (Pl.startsV a.data.toList) (Pl.startsV b.data.toList) A B c d (Pl.keptN 4 a.data.toList) (Pl.keptN 4 b.data.toList) ⟨(Pl.keptB 4 a.data.toList).toArray⟩ ⟨(Pl.keptB 4 b.data.toList).toArray⟩ a b pe pn pi W h1 h2 HRA.out.ascB HRB.out.ascB (hV.below h))
          have hX1 := Lib.hid (fun (W : World) (h : Below w.heap.size w W) => NuGetTextK_any a b pe pn pi W (hV.below h) (hBV.below h) HRA.out HRB.out)
          have hX2 := Lib.hid (fun (W : World) (h : Below w.heap.size w W) => NuGetTextK_any b a pe pn pi W (hV.below h) (hBV.below h) HRB.out HRA.out)
          have hSP := Lib.hid (fun (W : World) => specNuGetText_any a b W hsa hsb)
          have hRl : Pl.nugetOrd (Pl.keptN 4 a.data.toList) (Pl.keptN 4 b.data.toList) (Pl.keptB 4 a.data.toList) (Pl.keptB 4 b.data.toList) = R := hR
          have hRl2 : Pl.nugetOrd (Pl.keptN 4 b.data.toList) (Pl.keptN 4 a.data.toList) (Pl.keptB 4 b.data.toList) (Pl.keptB 4 a.data.toList) = R2 := hR2
          simp only at hC hI
          rw [hRl] at hC hI hX1
          rw [hRl2] at hX2
          rw [hR] at hSP
          clear hR hR2 hRl hRl2 hord htu hth
          go_wp2_with fail
          refine (LikeParse_any a w2 (by omega)).mono ?_; rintro e w3 ⟨A1, c1, rfl, hO1, hb3⟩
          have hbb3 := hbb2.trans (hb3.mono hbb2.size)
          go_wp2_with fail
          refine (keptText_any a 4 _ _ A1 c1 w3 hO1 hsa (by omega)).mono ?_; rintro e w4 ⟨rfl, hD1, hb4⟩
          have hbb4 := hbb3.trans (hb4.mono hbb3.size)
          go_wp2_with fail
          refine (LikeParse_any b w4 (by omega)).mono ?_; rintro e w5 ⟨A2, c2, rfl, hO2, hb5⟩
          have hbb5 := hbb4.trans (hb5.mono hbb4.size)
          have hD1b := hD1.below hb5
          go_wp2_with fail
          refine (keptText_any b 4 _ _ A2 c2 w5 hO2 hsb (by omega)).mono ?_; rintro e w6 ⟨rfl, hD2, hb6⟩
          have hbb6 := hbb5.trans (hb6.mono hbb5.size)
          go_wp2_with fail
          refine (hC.out w6 A1 c1 A2 c2 (hD1b.below hb6) hD2).mono ?_; rintro e w7 ⟨rfl, hb7⟩
          have hbb7 := hbb6.trans (hb7.mono hbb6.size)
          go_wp2_with fail
          refine (implLikeParse_any a pe pn pi w7 (by omega) (hV.below hbb7) HRA.out.asc).mono ?_; rintro e w8 ⟨A3, c3, rfl, hO3, hb8⟩
          have hbb8 := hbb7.trans (hb8.mono hbb7.size)
          go_wp2_with fail
          refine (keptText_any a 4 _ _ A3 c3 w8 hO3 hsa (by omega)).mono ?_; rintro e w9 ⟨rfl, hD3, hb9⟩
          have hbb9 := hbb8.trans (hb9.mono hbb8.size)
          go_wp2_with fail
          refine (implLikeParse_any b pe pn pi w9 (by omega) (hV.below hbb9) HRB.out.asc).mono ?_; rintro e wA ⟨A4, c4, rfl, hO4, hbA⟩
          have hbbA := hbb9.trans (hbA.mono hbb9.size)
          have hD3b := hD3.below hbA
          go_wp2_with fail
          refine (keptText_any b 4 _ _ A4 c4 wA hO4 hsb (by omega)).mono ?_; rintro e wB ⟨rfl, hD4, hbB⟩
          have hbbB := hbbA.trans (hbB.mono hbbA.size)
          go_wp2_with fail
          refine (hI.out wB hbbB A3 c3 A4 c4 (kept_like HRA.out (hD3b.below hbB)) (kept_like HRB.out hD4)).mono ?_; rintro e wC ⟨rfl, hbC⟩
          have hbbC := hbbB.trans (hbC.mono hbbB.size)
          go_wp2_with fail
          refine (hX1.out wC hbbC).mono ?_; rintro e wD ⟨rfl, hbD⟩
          have hbbD := hbbC.trans (hbD.mono hbbC.size)
          go_wp2_with fail
          refine (hX2.out wD hbbD).mono ?_; rintro e wE ⟨rfl, hbE⟩
          have hbbE := hbbD.trans (hbE.mono hbbD.size)
          go_wp2_with fail
          refine (hSP.out wE).mono ?_; rintro e wF ⟨rfl, hbF⟩
          have hbbF := hbbE.trans (hbF.mono hbbE.size)
          go_wp2_with fail
          refine (hTU.out wF).mono ?_; rintro e wG ⟨rfl, rfl⟩
          go_wp2
          go_ret
          exact ⟨rfl, hbbF⟩
    · have h1z : ¬ (2147483647 : Int) < (a.size : Int) := by omega
      have h2z : (2147483647 : Int) < (b.size : Int) := by omega
      go_enter Tryz.func12, Tryz.ntmps12
      go_wp2
      go_ret
      exact ⟨rfl, Below.refl _ _⟩
  · have h1z : (2147483647 : Int) < (a.size : Int) := by omega
    go_enter Tryz.func12, Tryz.ntmps12
    go_wp2
    go_ret
    exact ⟨rfl, Below.refl _ _⟩
end Go.Proofs.YtgfkdjmoflbmdaaGreatDoor
