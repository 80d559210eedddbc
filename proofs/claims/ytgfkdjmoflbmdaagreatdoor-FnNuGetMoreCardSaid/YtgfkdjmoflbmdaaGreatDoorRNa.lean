/- Contracts: NuGetVersion.compare, ParseNuGetVersion. -/
import Derived.Test.YtgfkdjmoflbmdaaGreatDoorRXpxXv
import Derived.Test.YtgfkdjmoflbmdaaGreatDoorRNl
namespace Go.Proofs.YtgfkdjmoflbmdaaGreatDoor
open Go.RowKit
open Go.Proofs
set_option maxRecDepth 100000 in
set_option maxHeartbeats 1000000 in
theorem nugetCmp_any (va vb : Bool) (A B : Option Addr) (ca cb : Nat) (ns ms : List Nat) (da db oa ob : ByteArray) (pe pn pi : Addr) (w : World) (hA : Bigs w A ns) (hB : Bigs w B ms) (hna : Small ns) (hnb : Small ms)
    (hda : da.size ≤ 30000) (hdb : db.size ≤ 30000) (hV : PkgVars w pe pn pi) (hka : Pl.buildKnown da.data.toList = true) (hkb : Pl.buildKnown db.data.toList = true) (haa : Pl.ascii da.data.toList = true) (hab : Pl.ascii db.data.toList = true) :
    Calls Tryz.prog 98 #[VV va A ns.length ca da oa, VV vb B ms.length cb db ob] w fun e w' => e = .returned (.int .i64 (Pl.nugetOrd ns ms da.data.toList db.data.toList)) ∧ Below w.heap.size w w' := by
  obtain ⟨W, hW⟩ : ∃ W, (w.alloc (.cells #[.bool va, .slice A ns.length ca, .string da, .string oa] 77)).alloc (.cells #[.bool vb, .slice B ms.length cb, .string db, .string ob] 77) = W := ⟨_, rfl⟩
  have hbW : Below w.heap.size w W := by rw [← hW]; exact ((Below.refl _ _).alloc (Nat.le_refl _) _).alloc (by simp) _
  have hP : Blk W w.heap.size 77 #[.bool va, .slice A ns.length ca, .string da, .string oa] := by rw [← hW]; exact (Blk.new _ _ _).alloc _
  have hQ : Blk W (w.heap.size + 1) 77 #[.bool vb, .slice B ms.length cb, .string db, .string ob] := by
    rw [← hW]
    have := Blk.new (w.alloc (.cells #[.bool va, .slice A ns.length ca, .string da, .string oa] 77)) 77 #[.bool vb, .slice B ms.length cb, .string db, .string ob]
    rw [World.size_alloc] at this
    exact this
  have p1 := hP.cell 1
  have q1 := hQ.cell 1
  simp at p1 q1
  have HC := Lib.hid (compsCmp_any w.heap.size 1 A B ca cb ns ms W p1 (hA.below hbW) (hB.below hbW) hna.1 hnb.1 (fun n h => by have := hna.2 n h; omega) (fun n h => by have := hnb.2 n h; omega))
  have HW := Lib.hid hW
  obtain ⟨z, hz⟩ : ∃ z, Pl.cmpNums ns ms = z := ⟨_, rfl⟩
  rw [hz] at HC
  obtain ⟨la, hla⟩ : ∃ la : ByteArray, ⟨(Pl.lower da.data.toList).toArray⟩ = la := ⟨_, rfl⟩
  obtain ⟨lb, hlb⟩ : ∃ lb : ByteArray, ⟨(Pl.lower db.data.toList).toArray⟩ = lb := ⟨_, rfl⟩
  obtain ⟨y, hy⟩ : ∃ y, Pl.builds (Pl.lower da.data.toList) (Pl.lower db.data.toList) = y := ⟨_, rfl⟩
  have hres : Pl.nugetOrd ns ms da.data.toList db.data.toList = if z ≠ 0 then z else y := by rw [Pl.nugetOrd, hz, hy]
  have HB := Lib.hid (fun w1 (h : Below W.heap.size W w1) => implBuilds_any la lb pe pn pi w1 (by rw [← hla, S_size, Pl.lower_len, len_list]; exact hda) (by rw [← hlb, S_size, Pl.lower_len, len_list]; exact hdb) ((hV.below hbW).below h) (by rw [← hla]; exact Pl.buildKnown_lower hka) (by rw [← hlb]; exact Pl.buildKnown_lower hkb))
  have hyl : Pl.builds la.data.toList lb.data.toList = y := by rw [← hla, ← hlb]; exact hy
  rw [hyl] at HB
  have HM1 := Lib.hid (fun w1 => toLower_any da w1 hda haa)
  have HM2 := Lib.hid (fun w1 => toLower_any db w1 hdb hab)
  have hSa : S (Pl.lower da.data.toList) = .string la := by rw [← hla]
  have hSb : S (Pl.lower db.data.toList) = .string lb := by rw [← hlb]
  rw [hSa] at HM1
  rw [hSb] at HM2
  have HR := Lib.hid hres
  clear hW hz hy hyl hla hlb hSa hSb hres hA hB hna hnb
  by_cases hz0 : z = 0
  · have hz1 : (z != 0) = false := by simp [hz0]
    rw [if_neg (by simp [hz0])] at HR
    clear hz0
    go_enter Tryz.func98, Tryz.ntmps98
    go_wp2_with fail
    rw [HW.out]
    refine HC.out.mono ?_; rintro e w1 ⟨rfl, hb1⟩
    have hP1 := hP.below hb1 hP.lt
    have hQ1 := hQ.below hb1 hQ.lt
    have p2 := hP1.cell 2
    have q2 := hQ1.cell 2
    simp at p2 q2
    go_wp2_with fail
    have hP1d : Blk w1.drew w.heap.size 77 #[.bool va, .slice A ns.length ca, .string da, .string oa] := hP1
    have hQ1d : Blk w1.drew (w.heap.size + 1) 77 #[.bool vb, .slice B ms.length cb, .string db, .string ob] := hQ1
    have hb1d : Below W.heap.size W w1.drew := hb1.drew
    go_region_with (first
      | (go_at_call_of 117 (Value.string da); refine (HM1.out _).mono ?_; rintro e w2 ⟨rfl, hb2⟩; have hQ2 := hQ1d.below hb2 hQ1d.lt; have q22 := hQ2.cell 2; simp at q22; have hbb2 := hb1d.trans (hb2.mono hb1d.size))
      | (go_at_call_of 117 (Value.string db); refine (HM2.out _).mono ?_; rintro e w3 ⟨rfl, hb3⟩; have hbb3 := hbb2.trans (hb3.mono hbb2.size))
      | (go_at_call 108; refine (HB.out _ hbb3).mono ?_; rintro e w4 ⟨rfl, hb4⟩))
    all_goals go_wp2_with fail
    all_goals exact bodyPost_ret (v := .int .i64 y) (by simp [results, Tryz.results98, go_sem]) rfl ⟨by rw [HR.out], hbW.trans ((hbb3.trans (hb4.mono hbb3.size)).mono hbW.size)⟩
  · have hz1 : (z != 0) = true := by simpa using hz0
    rw [if_pos hz0] at HR
    clear hz0
    go_enter Tryz.func98, Tryz.ntmps98
    go_wp2_with fail
    rw [HW.out]
    refine HC.out.mono ?_; rintro e w1 ⟨rfl, hb1⟩
    go_wp2
    go_ret
    exact ⟨ret_int HR.out.symm, hbW.trans (hb1.mono hbW.size)⟩
end Go.Proofs.YtgfkdjmoflbmdaaGreatDoor
