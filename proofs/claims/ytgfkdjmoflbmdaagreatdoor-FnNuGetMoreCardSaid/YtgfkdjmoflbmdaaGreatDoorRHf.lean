/- Contracts: spec.NuGetCompare, HackageCompare, HackageParse, HackageCompareText. -/
import Derived.Test.YtgfkdjmoflbmdaaGreatDoorRSjxZc
import Derived.Test.YtgfkdjmoflbmdaaGreatDoorRHcxHd
namespace Go.Proofs.YtgfkdjmoflbmdaaGreatDoor
open Go.RowKit
open Go.Proofs
set_option maxRecDepth 100000 in
set_option maxHeartbeats 2000000 in
theorem NuGetCompare_any (va vb : Bool) (A B : Option Addr) (ca cb : Nat) (ns ms : List Nat) (da db : ByteArray) (oa ob : ByteArray) (w : World)
    (hra : Rd w 2 A ns.length (IntC ns)) (hrb : Rd w 2 B ms.length (IntC ms)) (hfa : Pl.Fits ns) (hfb : Pl.Fits ms) (hda : da.size ≤ 30000) (hdb : db.size ≤ 30000) :
    Calls Tryz.prog 35 #[VV va A ns.length ca da oa, VV vb B ms.length cb db ob] w fun e w' => e = .returned (.tuple #[.int .i64 (Pl.nugetOrd ns ms da.data.toList db.data.toList), .bool true]) ∧ Below w.heap.size w w' := by
  obtain ⟨W, hW⟩ : ∃ W, (w.alloc (.cells #[.bool va, .slice A ns.length ca, .string da, .string oa] 27)).alloc (.cells #[.bool vb, .slice B ms.length cb, .string db, .string ob] 27) = W := ⟨_, rfl⟩
  have hbW : Below w.heap.size w W := by rw [← hW]; exact ((Below.refl _ _).alloc (Nat.le_refl _) _).alloc (by simp) _
  have hP : Blk W w.heap.size 27 #[.bool va, .slice A ns.length ca, .string da, .string oa] := by rw [← hW]; exact (Blk.new _ _ _).alloc _
  have hQ : Blk W (w.heap.size + 1) 27 #[.bool vb, .slice B ms.length cb, .string db, .string ob] := by
    rw [← hW]
    have := Blk.new (w.alloc (.cells #[.bool va, .slice A ns.length ca, .string da, .string oa] 27)) 27 #[.bool vb, .slice B ms.length cb, .string db, .string ob]
    rw [World.size_alloc] at this
    exact this
  have hPd : Blk W.drew w.heap.size 27 #[.bool va, .slice A ns.length ca, .string da, .string oa] := hP
  have hQd : Blk W.drew (w.heap.size + 1) 27 #[.bool vb, .slice B ms.length cb, .string db, .string ob] := hQ
  have hbWd : Below w.heap.size w W.drew := hbW.drew
  have p2 := hP.cell 2
  have q2 := hQ.cell 2
  simp at p2 q2
  have HW := Lib.hid hW
  clear hW
  obtain ⟨R, hR⟩ : ∃ R, Pl.nugetOrd ns ms da.data.toList db.data.toList = R := ⟨_, rfl⟩
  rw [hR]
  have HR := Lib.hid hR
  clear hR
  go_enter Tryz.func35, Tryz.ntmps35
  go_upto_region 1 with (fail)
  rw [HW.out]
  go_cut [] (fun wx => Blk wx w.heap.size 27 #[.bool va, .slice A ns.length ca, S (Pl.lower da.data.toList), .string oa] ∧ Blk wx (w.heap.size + 1) 27 #[.bool vb, .slice B ms.length cb, S (Pl.lower db.data.toList), .string ob] ∧ Below w.heap.size w wx)
  case first =>
    go_region_with (first
      | (go_at_call_of 70 (Value.string da); refine (lower_any da _ hda).mono ?_; rintro e w1 ⟨rfl, hb1⟩; have hP1 := hPd.below hb1 hPd.lt; have hQ1 := hQd.below hb1 hQd.lt; have q12 := hQ1.cell 2; simp at q12; have hbb1 := hbWd.trans (hb1.mono hbWd.size))
      | (go_at_call_of 70 (Value.string db); refine (lower_any db _ hdb).mono ?_; rintro e w2 ⟨rfl, hb2⟩; have hP2 := hP1.below hb2 hP1.lt; have hQ2 := hQ1.below hb2 hQ1.lt; have r2 := hP2.cell 2; have s2 := hQ2.cell 2; have f2 := hP2.frozen 2; have g2 := hQ2.frozen 2; simp at r2 s2; have hbb2 := hbb1.trans (hb2.mono hbb1.size)))
    all_goals go_wp2_with fail
    all_goals go_meet
    all_goals exact ⟨(hP2.set_ 2 (S (Pl.lower da.data.toList))).far (by simp) _, (hQ2.far (by simp) _).set_ 2 (S (Pl.lower db.data.toList)), (hbb2.setCell (by simp) _).setCell (by simp) _⟩
  case rest =>
    obtain ⟨hP3, hQ3, hbb3⟩ := hcut
    have c0 := hP3.cell 0
    have c1 := hP3.cell 1
    have c2 := hP3.cell 2
    have c3 := hP3.cell 3
    have d0 := hQ3.cell 0
    have d1 := hQ3.cell 1
    have d2 := hQ3.cell 2
    have d3 := hQ3.cell 3
    simp at c0 c1 c2 c3 d0 d1 d2 d3
    have HL := Lib.hid (likeOrder_any va vb A B ca cb ns ms ⟨(Pl.lower da.data.toList).toArray⟩ ⟨(Pl.lower db.data.toList).toArray⟩ oa ob _ (hra.below hbb3) (hrb.below hbb3) hfa hfb (by rw [S_size, Pl.lower_len, len_list]; exact hda) (by rw [S_size, Pl.lower_len, len_list]; exact hdb))
    rw [show Pl.likeOrd ns ms (Pl.lower da.data.toList) (Pl.lower db.data.toList) = Pl.nugetOrd ns ms da.data.toList db.data.toList from rfl] at HL
    rw [HR.out] at HL
    clear hfa hfb
    go_wp2_with fail
    refine HL.out.mono ?_; rintro e w4 ⟨rfl, hb4⟩
    go_wp2
    exact bodyPost_ret (v := .tuple #[.int .i64 R, .bool true]) (by simp [results, Tryz.results35, go_sem]) rfl ⟨rfl, hbb3.trans (hb4.mono hbb3.size)⟩
end Go.Proofs.YtgfkdjmoflbmdaaGreatDoor
