/- Contracts: PubVersion.compare, ParsePubVersion. -/
import Derived.Test.YtgfkdjmoflbmdaaGreatDoorRXpxXv
import Derived.Test.YtgfkdjmoflbmdaaGreatDoorRKa
namespace Go.Proofs.YtgfkdjmoflbmdaaGreatDoor
open Go.RowKit
open Go.Proofs
set_option maxRecDepth 100000 in
set_option maxHeartbeats 1000000 in
theorem pubCmp_any (va vb : Bool) (A B : Option Addr) (ca cb : Nat) (ns ms : List Nat) (da db oa ob : ByteArray) (pe pn pi : Addr) (w : World) (hA : Bigs w A ns) (hB : Bigs w B ms) (hna : Small ns) (hnb : Small ms)
    (hda : da.size ≤ 30000) (hdb : db.size ≤ 30000) (hV : PkgVars w pe pn pi) (hka : Pl.buildKnown da.data.toList = true) (hkb : Pl.buildKnown db.data.toList = true) :
    Calls Tryz.prog 97 #[VV va A ns.length ca da oa, VV vb B ms.length cb db ob] w fun e w' => e = .returned (.int .i64 (Pl.pubOrd ns ms da.data.toList db.data.toList)) ∧ Below w.heap.size w w' := by
  obtain ⟨W, hW⟩ : ∃ W, (w.alloc (.cells #[.bool va, .slice A ns.length ca, .string da, .string oa] 74)).alloc (.cells #[.bool vb, .slice B ms.length cb, .string db, .string ob] 74) = W := ⟨_, rfl⟩
  have hbW : Below w.heap.size w W := by rw [← hW]; exact ((Below.refl _ _).alloc (Nat.le_refl _) _).alloc (by simp) _
  have hP : Blk W w.heap.size 74 #[.bool va, .slice A ns.length ca, .string da, .string oa] := by rw [← hW]; exact (Blk.new _ _ _).alloc _
  have hQ : Blk W (w.heap.size + 1) 74 #[.bool vb, .slice B ms.length cb, .string db, .string ob] := by
    rw [← hW]
    have := Blk.new (w.alloc (.cells #[.bool va, .slice A ns.length ca, .string da, .string oa] 74)) 74 #[.bool vb, .slice B ms.length cb, .string db, .string ob]
    rw [World.size_alloc] at this
    exact this
  have p1 := hP.cell 1
  have q1 := hQ.cell 1
  simp at p1 q1
  have HC := Lib.hid (compsCmp_any w.heap.size 1 A B ca cb ns ms W p1 (hA.below hbW) (hB.below hbW) hna.1 hnb.1 (fun n h => by have := hna.2 n h; omega) (fun n h => by have := hnb.2 n h; omega))
  have HW := Lib.hid hW
  obtain ⟨z, hz⟩ : ∃ z, Pl.cmpNums ns ms = z := ⟨_, rfl⟩
  rw [hz] at HC
  obtain ⟨y, hy⟩ : ∃ y, Pl.builds da.data.toList db.data.toList = y := ⟨_, rfl⟩
  have hres : Pl.pubOrd ns ms da.data.toList db.data.toList = if z ≠ 0 then z else if y ≠ 0 then y else Pl.ordB (Pl.metaOf da.data.toList) (Pl.metaOf db.data.toList) := by rw [Pl.pubOrd, hz, hy]
  have HB := Lib.hid (fun w1 (h : Below W.heap.size W w1) => implBuilds_any da db pe pn pi w1 hda hdb ((hV.below hbW).below h) hka hkb)
  rw [hy] at HB
  have HR := Lib.hid hres
  clear hW hz hy hres hA hB hna hnb
  by_cases hz0 : z = 0
  · have hz1 : (z != 0) = false := by simp [hz0]
    rw [if_neg (by simp [hz0])] at HR
    clear hz0
    by_cases hy0 : y = 0
    · have hy1 : (y != 0) = false := by simp [hy0]
      rw [if_neg (by simp [hy0])] at HR
      clear hy0
      have HM1 := Lib.hid (fun W => zzCut_any da W hda)
      have HM2 := Lib.hid (fun W => zzCut_any db W hdb)
      have hO := fun W => Tryz.strings_Compare ⟨(Pl.metaOf da.data.toList).toArray⟩ ⟨(Pl.metaOf db.data.toList).toArray⟩ W
      simp only [Pl.ordB_compare] at hO
      have HO := Lib.hid hO
      clear hO
      go_enter Tryz.func97, Tryz.ntmps97
      go_wp2_with fail
      rw [HW.out]
      refine HC.out.mono ?_; rintro e w1 ⟨rfl, hb1⟩
      have hP1 := hP.below hb1 hP.lt
      have hQ1 := hQ.below hb1 hQ.lt
      have p2 := hP1.cell 2
      have q2 := hQ1.cell 2
      simp at p2 q2
      go_wp2_with fail
      refine (HB.out w1 hb1).mono ?_; rintro e w2 ⟨rfl, hb2⟩
      have hP2 := hP1.below hb2 hP1.lt
      have p3 := hP2.cell 2
      simp at p3
      go_wp2_with fail
      refine (HM1.out w2).mono ?_; rintro e w3 ⟨⟨b1, f1, rfl⟩, hb3⟩
      have hQ3 := (hQ1.below hb2 hQ1.lt).below hb3 (hQ1.below hb2 hQ1.lt).lt
      have q3 := hQ3.cell 2
      simp at q3
      go_wp2_with fail
      refine (HM2.out w3).mono ?_; rintro e w4 ⟨⟨b2, f2, rfl⟩, hb4⟩
      go_wp2_with fail
      refine (HO.out w4).mono ?_; rintro e w5 ⟨rfl, rfl⟩
      go_wp2
      go_ret
      have s1 := Nat.le_trans hbW.size hb1.size
      have s2 := Nat.le_trans s1 hb2.size
      exact ⟨ret_int HR.out.symm, (((hbW.trans (hb1.mono hbW.size)).trans (hb2.mono s1)).trans (hb3.mono s2)).trans (hb4.mono (Nat.le_trans s2 hb3.size))⟩
    · have hy1 : (y != 0) = true := by simpa using hy0
      rw [if_pos hy0] at HR
      clear hy0
      go_enter Tryz.func97, Tryz.ntmps97
      go_wp2_with fail
      rw [HW.out]
      refine HC.out.mono ?_; rintro e w1 ⟨rfl, hb1⟩
      have hP1 := hP.below hb1 hP.lt
      have hQ1 := hQ.below hb1 hQ.lt
      have p2 := hP1.cell 2
      have q2 := hQ1.cell 2
      simp at p2 q2
      go_wp2_with fail
      refine (HB.out w1 hb1).mono ?_; rintro e w2 ⟨rfl, hb2⟩
      go_wp2
      go_ret
      exact ⟨ret_int HR.out.symm, hbW.trans ((hb1.mono hbW.size).trans (hb2.mono (Nat.le_trans hbW.size hb1.size)))⟩
  · have hz1 : (z != 0) = true := by simpa using hz0
    rw [if_pos hz0] at HR
    clear hz0
    go_enter Tryz.func97, Tryz.ntmps97
    go_wp2_with fail
    rw [HW.out]
    refine HC.out.mono ?_; rintro e w1 ⟨rfl, hb1⟩
    go_wp2
    go_ret
    exact ⟨ret_int HR.out.symm, hbW.trans (hb1.mono hbW.size)⟩
end Go.Proofs.YtgfkdjmoflbmdaaGreatDoor
