/- Contracts: likeMetadata, zzCut at a plus, spec.PubCompare. Contracts: PubVersion.compare, ParsePubVersion. Contracts: PubVersion.CompareStr, PubCompareText. Contracts: PubVersion.Compare, ZZPub, PubCompare (the thin package's). Walk: FnPubTexts. -/
import Derived.Test.YtgfkdjmoflbmdaaGreatDoorMWexXl
import Derived.Test.YtgfkdjmoflbmdaaGreatDoorMXaxXb
import Derived.Test.YtgfkdjmoflbmdaaGreatDoorMPlFxHf
import Derived.Test.YtgfkdjmoflbmdaaGreatDoorMYp2xXw
import Derived.Test.YtgfkdjmoflbmdaaGreatDoorMSh
import Derived.Test.YtgfkdjmoflbmdaaGreatDoorMXuxZb
namespace Go.Proofs.YtgfkdjmoflbmdaaGreatDoor
open Go.RowKit
open Go.Proofs

theorem metaOf_ext {s : ByteArray} {k : Nat} (h : Pl.idxOf 43 s.data.toList = some k) : Value.string (s.extract (k + 1) s.size) = S (Pl.metaOf s.data.toList) := by
  rw [ext_S, Pl.metaOf, h, List.take_of_length_le (by rw [List.length_drop, len_list]; exact Nat.le_refl _)]
theorem metaOf_none {s : ByteArray} (h : Pl.idxOf 43 s.data.toList = none) : (Value.string ⟨#[]⟩) = S (Pl.metaOf s.data.toList) := by
  rw [Pl.metaOf, h]
set_option maxRecDepth 100000 in
theorem likeMeta_any (s : ByteArray) (w : World) (hs : s.size ≤ 30000) :
    Calls Tryz.prog 63 #[.string s] w fun e w' => e = .returned (S (Pl.metaOf s.data.toList)) ∧ w = w' := by
  have HI := Lib.hid (indexOf_any s 43 w (by unfold maxLen; omega))
  cases hk : Pl.idxOf 43 s.data.toList with
  | none =>
    have hm := Lib.hid (metaOf_none hk)
    have hi : idxI 43 s.data.toList = -1 := by rw [idxI, hk]
    rw [hi] at HI
    clear hi hk
    go_enter Tryz.func63, Tryz.ntmps63
    go_wp2_with fail
    refine HI.out.mono ?_; rintro e w1 ⟨rfl, rfl⟩
    go_wp2
    go_ret
    exact ⟨by rw [← hm.out]; rfl, rfl⟩
  | some k =>
    have hm := Lib.hid (metaOf_ext hk)
    have hi : idxI 43 s.data.toList = (k : Int) := by rw [idxI, hk]
    have hlt := (Pl.idxOf_some hk).1
    rw [len_list] at hlt
    rw [hi] at HI
    clear hi hk
    go_enter Tryz.func63, Tryz.ntmps63
    go_wp2_with fail
    refine HI.out.mono ?_; rintro e w1 ⟨rfl, rfl⟩
    go_wp2
    go_ret
    exact ⟨by rw [← hm.out]; rfl, rfl⟩
set_option maxRecDepth 100000 in
theorem zzCut_any (s : ByteArray) (w : World) (hs : s.size ≤ 30000) :
    Calls Tryz.prog 115 #[.string s, .string ⟨#[43]⟩] w fun e w' => (∃ b f, e = .returned (.tuple #[.string b, S (Pl.metaOf s.data.toList), .bool f])) ∧ Below w.heap.size w w' := by
  have HI := Lib.hid (zzIndex_any s 43 w (by omega))
  have h1s : (⟨#[43]⟩ : ByteArray).size = 1 := rfl
  have hone : one 43 = ⟨#[43]⟩ := rfl
  rw [hone] at HI
  obtain ⟨sub, hsub⟩ : ∃ sub, (⟨#[43]⟩ : ByteArray) = sub := ⟨_, rfl⟩
  rw [hsub] at h1s HI ⊢
  clear hsub hone
  cases hk : Pl.idxOf 43 s.data.toList with
  | none =>
    have hm := Lib.hid (metaOf_none hk)
    have hi : idxI 43 s.data.toList = -1 := by rw [idxI, hk]
    rw [hi] at HI
    clear hi hk
    go_enter Tryz.func115, Tryz.ntmps115
    go_wp2_with fail
    refine HI.out.mono ?_; rintro e w1 ⟨rfl, rfl⟩
    go_wp2
    refine bodyPost_ret (v := .tuple #[.string s, .string ⟨#[]⟩, .bool false]) (by simp [results, Tryz.results115, go_sem]) rfl ⟨⟨s, false, by rw [← hm.out]⟩, Below.refl _ _⟩
  | some k =>
    have hm := Lib.hid (metaOf_ext hk)
    have hi : idxI 43 s.data.toList = (k : Int) := by rw [idxI, hk]
    have hlt := (Pl.idxOf_some hk).1
    rw [len_list] at hlt
    rw [hi] at HI
    clear hi hk
    go_enter Tryz.func115, Tryz.ntmps115
    go_wp2_with fail
    refine HI.out.mono ?_; rintro e w1 ⟨rfl, rfl⟩
    go_wp2_with fail
    go_quiet (fail)
    go_wp2
    refine bodyPost_ret (v := .tuple #[.string (s.extract 0 k), .string (s.extract (k + 1) s.size), .bool true]) (by simp [results, Tryz.results115, go_sem]) rfl ⟨⟨_, true, by rw [← hm.out]⟩, below_drewN (Below.refl _ _) _⟩
theorem Pl.pubOrd_like (ns ms : List Nat) (a b : Pl.Bytes) : Pl.pubOrd ns ms a b = if Pl.likeOrd ns ms a b ≠ 0 then Pl.likeOrd ns ms a b else Pl.ordB (Pl.metaOf a) (Pl.metaOf b) := by
  rw [Pl.pubOrd, Pl.likeOrd]
  by_cases h : Pl.cmpNums ns ms = 0
  · simp [h]
  · simp [h]
theorem metaOf_len (s : Pl.Bytes) : (Pl.metaOf s).length ≤ s.length := by
  rw [Pl.metaOf]
  split
  · exact Nat.zero_le _
  · simp
set_option maxRecDepth 100000 in
set_option maxHeartbeats 1000000 in
theorem PubCompare_any (va vb : Bool) (A B : Option Addr) (ca cb : Nat) (ns ms : List Nat) (da db : ByteArray) (oa ob : ByteArray) (w : World)
    (hra : Rd w 2 A ns.length (IntC ns)) (hrb : Rd w 2 B ms.length (IntC ms)) (hfa : Pl.Fits ns) (hfb : Pl.Fits ms) (hda : da.size ≤ 30000) (hdb : db.size ≤ 30000) :
    Calls Tryz.prog 25 #[.agg #[.bool va, .slice A ns.length ca, .string da, .string oa], .agg #[.bool vb, .slice B ms.length cb, .string db, .string ob]] w fun e w' => e = .returned (.tuple #[.int .i64 (Pl.pubOrd ns ms da.data.toList db.data.toList), .bool true]) ∧ Below w.heap.size w w' := by
  obtain ⟨W, hW⟩ : ∃ W, (w.alloc (.cells #[.bool va, .slice A ns.length ca, .string da, .string oa] 27)).alloc (.cells #[.bool vb, .slice B ms.length cb, .string db, .string ob] 27) = W := ⟨_, rfl⟩
  have hraW : Rd W 2 A ns.length (IntC ns) := by rw [← hW]; exact (hra.alloc _).alloc _
  have hrbW : Rd W 2 B ms.length (IntC ms) := by rw [← hW]; exact (hrb.alloc _).alloc _
  have hbelW : Below w.heap.size w W := by rw [← hW]; go_grown
  have hba : Blk W w.heap.size 27 #[.bool va, .slice A ns.length ca, .string da, .string oa] := by rw [← hW]; exact (Blk.new _ _ _).alloc _
  have hbb : Blk W (w.heap.size + 1) 27 #[.bool vb, .slice B ms.length cb, .string db, .string ob] := by
    rw [← hW]
    have := Blk.new (w.alloc (.cells #[.bool va, .slice A ns.length ca, .string da, .string oa] 27)) 27 #[.bool vb, .slice B ms.length cb, .string db, .string ob]
    rw [World.size_alloc] at this
    exact this
  have HC := Lib.hid (likeOrder_any va vb A B ca cb ns ms da db oa ob W hraW hrbW hfa hfb hda hdb)
  have HW := Lib.hid hW
  have hres := Pl.pubOrd_like ns ms da.data.toList db.data.toList
  obtain ⟨z, hz⟩ : ∃ z, Pl.likeOrd ns ms da.data.toList db.data.toList = z := ⟨_, rfl⟩
  obtain ⟨R, hR⟩ : ∃ R, Pl.pubOrd ns ms da.data.toList db.data.toList = R := ⟨_, rfl⟩
  rw [hR, hz] at hres
  rw [hR]
  rw [hz] at HC
  have p0 := hba.cell 0
  have p1 := hba.cell 1
  have p2 := hba.cell 2
  have p3 := hba.cell 3
  have q0 := hbb.cell 0
  have q1 := hbb.cell 1
  have q2 := hbb.cell 2
  have q3 := hbb.cell 3
  simp at p0 p1 p2 p3 q0 q1 q2 q3
  clear hW hz hR hra hrb hraW hrbW hfa hfb
  by_cases hz0 : z = 0
  · have hz1 : (z != 0) = false := by simp [hz0]
    rw [if_neg (by simp [hz0])] at hres
    have HM1 := fun W => likeMeta_any da W hda
    have HM2 := fun W => likeMeta_any db W hdb
    have HO := fun W => order_any ⟨(Pl.metaOf da.data.toList).toArray⟩ ⟨(Pl.metaOf db.data.toList).toArray⟩ W
    rw [← hres] at HO
    have HM1 := Lib.hid HM1
    have HM2 := Lib.hid HM2
    have HO := Lib.hid HO
    clear hres hz0
    go_enter Tryz.func25, Tryz.ntmps25
    go_wp2_with fail
    rw [HW.out]
    refine HC.out.mono ?_; rintro e w1 ⟨rfl, hb1⟩
    have hP1 := hba.below hb1 hba.lt
    have hQ1 := hbb.below hb1 hbb.lt
    have r2 := hP1.cell 2
    have t2 := hQ1.cell 2
    simp at r2 t2
    go_wp2_with fail
    go_quiet (first
      | (go_at_call_of 63 (Value.string da); exact quiet_left (HM1.out _))
      | (go_at_call_of 63 (Value.string db); exact quiet_left (HM2.out _))
      | (go_at_call 62; exact quiet_left (HO.out _)))
    all_goals go_wp2
    all_goals exact bodyPost_ret (v := .tuple #[.int .i64 R, .bool true]) (by simp [results, Tryz.results25, go_sem]) rfl ⟨rfl, below_drewN (hbelW.trans (hb1.mono hbelW.size)) _⟩
  · have hz1 : (z != 0) = true := by simpa using hz0
    rw [if_pos hz0] at hres
    clear hz0
    go_enter Tryz.func25, Tryz.ntmps25
    go_wp2_with fail
    rw [HW.out]
    refine HC.out.mono ?_; rintro e w1 ⟨rfl, hb1⟩
    go_wp2
    exact bodyPost_ret (v := .tuple #[.int .i64 R, .bool true]) (by simp [results, Tryz.results25, go_sem, hres]) rfl ⟨rfl, hbelW.trans (hb1.mono hbelW.size)⟩
end Go.Proofs.YtgfkdjmoflbmdaaGreatDoor

namespace Go.Proofs.YtgfkdjmoflbmdaaGreatDoor
open Go.RowKit
open Go.Proofs

set_option maxRecDepth 100000 in
set_option maxHeartbeats 1000000 in
theorem pubCmp_any (va vb : Bool) (A B : Option Addr) (ca cb : Nat) (ns ms : List Nat) (da db oa ob : ByteArray) (pe pn pi : Addr) (w : World) (hA : Bigs w A ns) (hB : Bigs w B ms) (hna : Small ns) (hnb : Small ms)
    (hda : da.size ≤ 30000) (hdb : db.size ≤ 30000) (hV : PkgVars w pe pn pi) (hka : Pl.buildKnown da.data.toList = true) (hkb : Pl.buildKnown db.data.toList = true) :
    Calls Tryz.prog 97 #[VV va A ns.length ca da oa, VV vb B ms.length cb db ob] w fun e w' => e = .returned (.int .i64 (Pl.pubOrd ns ms da.data.toList db.data.toList)) ∧ Below w.heap.size w w' := by
  obtain ⟨W, hW⟩ : ∃ W, (w.alloc (.cells #[.bool va, .slice A ns.length ca, .string da, .string oa] 74)).alloc (.cells #[.bool vb, .slice B ms.length cb, .string db, .string ob] 74) = W := ⟨_, rfl⟩
  have hbW : Below w.heap.size w W := by rw [← hW]; exact ((Below.refl _ _).alloc (Nat.le_refl _) _).alloc (by simp) _
  have hP : Blk W w.heap.size 74 #[.bool va, .slice A ns.length ca, .string da, .string oa] := by rw [← hW]; exact (Blk.new _ _ _).alloc _
  have hQ : Blk W (w.heap.size + 1) 74 #[.bool vb, .slice B ms.length cb, .string db, .string ob] := by
    rw [← hW]
    have := Blk.new (w.alloc (.cells #[.bool va, .slice A ns.length ca, .string da, .string oa] 74)) 74 #[.bool vb, .slice B ms.length cb, .string db, .string ob]
    rw [World.size_alloc] at this
    exact this
  have p1 := hP.cell 1
  have q1 := hQ.cell 1
  simp at p1 q1
  have HC := Lib.hid (compsCmp_any w.heap.size 1 A B ca cb ns ms W p1 (hA.below hbW) (hB.below hbW) hna.1 hnb.1 (fun n h => by have := hna.2 n h; omega) (fun n h => by have := hnb.2 n h; omega))
  have HW := Lib.hid hW
  obtain ⟨z, hz⟩ : ∃ z, Pl.cmpNums ns ms = z := ⟨_, rfl⟩
  rw [hz] at HC
  obtain ⟨y, hy⟩ : ∃ y, Pl.builds da.data.toList db.data.toList = y := ⟨_, rfl⟩
  have hres : Pl.pubOrd ns ms da.data.toList db.data.toList = if z ≠ 0 then z else if y ≠ 0 then y else Pl.ordB (Pl.metaOf da.data.toList) (Pl.metaOf db.data.toList) := by rw [Pl.pubOrd, hz, hy]
  have HB := Lib.hid (fun w1 (h : Below W.heap.size W w1) => implBuilds_any da db pe pn pi w1 hda hdb ((hV.below hbW).below h) hka hkb)
  rw [hy] at HB
  have HR := Lib.hid hres
  clear hW hz hy hres hA hB hna hnb
  by_cases hz0 : z = 0
  · have hz1 : (z != 0) = false := by simp [hz0]
    rw [if_neg (by simp [hz0])] at HR
    clear hz0
    by_cases hy0 : y = 0
    · have hy1 : (y != 0) = false := by simp [hy0]
      rw [if_neg (by simp [hy0])] at HR
      clear hy0
      have HM1 := Lib.hid (fun W => zzCut_any da W hda)
      have HM2 := Lib.hid (fun W => zzCut_any db W hdb)
      have hO := fun W => Tryz.strings_Compare ⟨(Pl.metaOf da.data.toList).toArray⟩ ⟨(Pl.metaOf db.data.toList).toArray⟩ W
      simp only [Pl.ordB_compare] at hO
      have HO := Lib.hid hO
      clear hO
      go_enter Tryz.func97, Tryz.ntmps97
      go_wp2_with fail
      rw [HW.out]
      refine HC.out.mono ?_; rintro e w1 ⟨rfl, hb1⟩
      have hP1 := hP.below hb1 hP.lt
      have hQ1 := hQ.below hb1 hQ.lt
      have p2 := hP1.cell 2
      have q2 := hQ1.cell 2
      simp at p2 q2
      go_wp2_with fail
      refine (HB.out w1 hb1).mono ?_; rintro e w2 ⟨rfl, hb2⟩
      have hP2 := hP1.below hb2 hP1.lt
      have p3 := hP2.cell 2
      simp at p3
      go_wp2_with fail
      refine (HM1.out w2).mono ?_; rintro e w3 ⟨⟨b1, f1, rfl⟩, hb3⟩
      have hQ3 := (hQ1.below hb2 hQ1.lt).below hb3 (hQ1.below hb2 hQ1.lt).lt
      have q3 := hQ3.cell 2
      simp at q3
      go_wp2_with fail
      refine (HM2.out w3).mono ?_; rintro e w4 ⟨⟨b2, f2, rfl⟩, hb4⟩
      go_wp2_with fail
      refine (HO.out w4).mono ?_; rintro e w5 ⟨rfl, rfl⟩
      go_wp2
      go_ret
      have s1 := Nat.le_trans hbW.size hb1.size
      have s2 := Nat.le_trans s1 hb2.size
      exact ⟨ret_int HR.out.symm, (((hbW.trans (hb1.mono hbW.size)).trans (hb2.mono s1)).trans (hb3.mono s2)).trans (hb4.mono (Nat.le_trans s2 hb3.size))⟩
    · have hy1 : (y != 0) = true := by simpa using hy0
      rw [if_pos hy0] at HR
      clear hy0
      go_enter Tryz.func97, Tryz.ntmps97
      go_wp2_with fail
      rw [HW.out]
      refine HC.out.mono ?_; rintro e w1 ⟨rfl, hb1⟩
      have hP1 := hP.below hb1 hP.lt
      have hQ1 := hQ.below hb1 hQ.lt
      have p2 := hP1.cell 2
      have q2 := hQ1.cell 2
      simp at p2 q2
      go_wp2_with fail
      refine (HB.out w1 hb1).mono ?_; rintro e w2 ⟨rfl, hb2⟩
      go_wp2
      go_ret
      exact ⟨ret_int HR.out.symm, hbW.trans ((hb1.mono hbW.size).trans (hb2.mono (Nat.le_trans hbW.size hb1.size)))⟩
  · have hz1 : (z != 0) = true := by simpa using hz0
    rw [if_pos hz0] at HR
    clear hz0
    go_enter Tryz.func97, Tryz.ntmps97
    go_wp2_with fail
    rw [HW.out]
    refine HC.out.mono ?_; rintro e w1 ⟨rfl, hb1⟩
    go_wp2
    go_ret
    exact ⟨ret_int HR.out.symm, hbW.trans (hb1.mono hbW.size)⟩

set_option maxRecDepth 100000 in
theorem ParsePub_any (s : ByteArray) (pe pn pi : Addr) (w : World) (hs : s.size ≤ 30000) (hV : PkgVars w pe pn pi) (hasc : Pl.ascii s.data.toList = true) (hm : ((Pl.numsOf s.data.toList).length : Int) ≤ 3) :
    Calls Tryz.prog 66 #[.string s] w (TextBack w s) := by
  obtain ⟨W, hW⟩ : ∃ W, w.alloc (.cells #[.bool false, .slice none 0 0, .string ⟨#[]⟩, .string ⟨#[]⟩] 74) = W := ⟨_, rfl⟩
  have hbW : Below w.heap.size w W := by rw [← hW]; exact (Below.refl _ _).alloc (Nat.le_refl _) _
  have hRW : Blk W w.heap.size 74 #[.bool false, .slice none 0 0, .string ⟨#[]⟩, .string ⟨#[]⟩] := by rw [← hW]; exact Blk.new _ _ _
  have HC := Lib.hid (parseVersion_any s 3 pe pn pi W hs (hV.below hbW) hasc hm)
  have HW := Lib.hid hW
  clear hW
  go_enter Tryz.func66, Tryz.ntmps66
  go_wp2_with fail
  rw [HW.out]
  refine HC.out.mono ?_; rintro e w1 ⟨A, c, rfl, hob, hb1⟩
  have hR1 := hRW.below hb1 hRW.lt
  have d0 := hR1.cell 0
  have d1 := hR1.cell 1
  have d2 := hR1.cell 2
  have d3 := hR1.cell 3
  have e0 := hR1.frozen 0
  have e1 := hR1.frozen 1
  have e2 := hR1.frozen 2
  have e3 := hR1.frozen 3
  simp at d0 d1 d2 d3
  go_wp2
  refine bodyPost_ret (v := .agg #[.bool (Pl.startsV s.data.toList), .slice A (Pl.numsOf s.data.toList).length c, S (Pl.buildOf s.data.toList), .string s]) (by simp [results, Tryz.results66, go_sem, d0, d1, d2, d3]) rfl ⟨A, c, rfl, ?_, ?_⟩
  · exact OwnBigs.fourT (OwnBigs.lower hob hbW.size) hR1 (by decide) (by decide) (by decide)
  · have hb := hbW.trans (hb1.mono hbW.size)
    exact (((hb.setCell (Nat.le_refl _) _).setCell (Nat.le_refl _) _).setCell (Nat.le_refl _) _).setCell (Nat.le_refl _) _
end Go.Proofs.YtgfkdjmoflbmdaaGreatDoor

namespace Go.Proofs.YtgfkdjmoflbmdaaGreatDoor
open Go.RowKit
open Go.Proofs

set_option maxRecDepth 100000 in
set_option maxHeartbeats 1000000 in
theorem PubStr_any (va : Bool) (A : Option Addr) (ca : Nat) (ns : List Nat) (da oa s : ByteArray) (pe pn pi : Addr) (w : World) (hA : Bigs w A ns) (hna : Small ns)
    (hda : da.size ≤ 30000) (hV : PkgVars w pe pn pi) (hka : Pl.buildKnown da.data.toList = true) (hs : Ready s) (hm : ((Pl.numsOf s.data.toList).length : Int) ≤ 3) :
    Calls Tryz.prog 67 #[VV va A ns.length ca da oa, .string s] w fun e w' => e = .returned (.tuple #[.int .i64 (Pl.pubOrd ns (Pl.numsOf s.data.toList) da.data.toList (Pl.buildOf s.data.toList)), .nilIface]) ∧ Below w.heap.size w w' := by
  obtain ⟨W, hW⟩ : ∃ W, w.alloc (.cells #[.bool va, .slice A ns.length ca, .string da, .string oa] 74) = W := ⟨_, rfl⟩
  have hbW : Below w.heap.size w W := by rw [← hW]; exact (Below.refl _ _).alloc (Nat.le_refl _) _
  have hP : Blk W w.heap.size 74 #[.bool va, .slice A ns.length ca, .string da, .string oa] := by rw [← hW]; exact Blk.new _ _ _
  have HPS := Lib.hid (ParsePub_any s pe pn pi W hs.size (hV.below hbW) hs.asc hm)
  have HC := Lib.hid (fun (w1 : World) (h : Below W.heap.size W w1) B c (hB : Bigs w1 B (Pl.numsOf s.data.toList)) => pubCmp_any va (Pl.startsV s.data.toList) A B ca c ns (Pl.numsOf s.data.toList) da ⟨(Pl.buildOf s.data.toList).toArray⟩ oa s pe pn pi w1
    ((hA.below hbW).below h) hB hna (nums_small hs.size) hda hs.build ((hV.below hbW).below h) hka hs.known)
  have HW := Lib.hid hW
  obtain ⟨R, hR⟩ : ∃ R, Pl.pubOrd ns (Pl.numsOf s.data.toList) da.data.toList (Pl.buildOf s.data.toList) = R := ⟨_, rfl⟩
  rw [S_data, hR] at HC
  rw [hR]
  clear hW hA hna hka hs hm hR
  go_enter Tryz.func67, Tryz.ntmps67
  go_wp2_with fail
  rw [HW.out]
  refine HPS.out.mono ?_; rintro e w1 ⟨B, c, rfl, hob, hb1⟩
  obtain ⟨X, hX⟩ : ∃ X, w1.alloc (.cells #[.bool (Pl.startsV s.data.toList), .slice B (Pl.numsOf s.data.toList).length c, S (Pl.buildOf s.data.toList), .string s] 74) = X := ⟨_, rfl⟩
  have hbX : Below w1.heap.size w1 X := by rw [← hX]; exact (Below.refl _ _).alloc (Nat.le_refl _) _
  have hbb := hb1.trans (hbX.mono hb1.size)
  have hQ : Blk X w1.heap.size 74 #[.bool (Pl.startsV s.data.toList), .slice B (Pl.numsOf s.data.toList).length c, S (Pl.buildOf s.data.toList), .string s] := by rw [← hX]; exact Blk.new _ _ _
  have hP1 := hP.below hbb hP.lt
  have p0 := hP1.cell 0
  have p1 := hP1.cell 1
  have p2 := hP1.cell 2
  have p3 := hP1.cell 3
  have q0 := hQ.cell 0
  have q1 := hQ.cell 1
  have q2 := hQ.cell 2
  have q3 := hQ.cell 3
  simp at p0 p1 p2 p3 q0 q1 q2 q3
  rw [← hX] at p0 p1 p2 p3 q0 q1 q2 q3
  have HX := Lib.hid hX
  clear hX
  go_wp2_with fail
  rw [HX.out]
  refine (HC.out X hbb B c (hob.below hbX).bigs).mono ?_; rintro e w2 ⟨rfl, hb2⟩
  go_wp2
  exact bodyPost_ret (v := .tuple #[.int .i64 R, .nilIface]) (by simp [results, Tryz.results67, go_sem]) rfl ⟨rfl, hbW.trans ((hbb.trans (hb2.mono hbb.size)).mono hbW.size)⟩
set_option maxRecDepth 100000 in
theorem PubText_any (a b : ByteArray) (pe pn pi : Addr) (w : World) (hV : PkgVars w pe pn pi) (ha : Ready a) (hb : Ready b) (hma : ((Pl.numsOf a.data.toList).length : Int) ≤ 3) (hmb : ((Pl.numsOf b.data.toList).length : Int) ≤ 3) :
    Calls Tryz.prog 27 #[.string a, .string b] w fun e w' => e = .returned (.tuple #[.int .i64 (Pl.pubOrd (Pl.numsOf a.data.toList) (Pl.numsOf b.data.toList) (Pl.buildOf a.data.toList) (Pl.buildOf b.data.toList)), .bool true]) ∧ Below w.heap.size w w' := by
  have HP := Lib.hid (ParsePub_any a pe pn pi w ha.size hV ha.asc hma)
  have HC := Lib.hid (fun (w1 : World) (h : Below w.heap.size w w1) A c (hA : Bigs w1 A (Pl.numsOf a.data.toList)) => PubStr_any (Pl.startsV a.data.toList) A c (Pl.numsOf a.data.toList) ⟨(Pl.buildOf a.data.toList).toArray⟩ a b pe pn pi w1 hA (nums_small ha.size) ha.build (hV.below h) ha.known hb hmb)
  obtain ⟨R, hR⟩ : ∃ R, Pl.pubOrd (Pl.numsOf a.data.toList) (Pl.numsOf b.data.toList) (Pl.buildOf a.data.toList) (Pl.buildOf b.data.toList) = R := ⟨_, rfl⟩
  rw [hR] at HC ⊢
  clear hR ha hb hma hmb
  go_enter Tryz.func27, Tryz.ntmps27
  go_wp2_with fail
  refine HP.out.mono ?_; rintro e w1 ⟨A, c, rfl, hob, hb1⟩
  go_wp2_with fail
  refine (HC.out w1 hb1 A c hob.bigs).mono ?_; rintro e w2 ⟨rfl, hb2⟩
  go_wp2_with fail
  go_quiet (fail)
  go_wp2
  exact bodyPost_ret (v := .tuple #[.int .i64 R, .bool true]) (by simp [results, Tryz.results27, go_sem]) rfl ⟨rfl, below_drewN (hb1.trans (hb2.mono hb1.size)) _⟩
end Go.Proofs.YtgfkdjmoflbmdaaGreatDoor

namespace Go.Proofs.YtgfkdjmoflbmdaaGreatDoor
open Go.RowKit
open Go.Proofs

theorem tassert74 (v : Value) (w : World) : (Instr.typeAssert (.iface 74 v) 95 74 true).run Tryz.prog w = .ok (.tuple #[v, .bool true]) w := by kernel_rfl
set_option maxRecDepth 100000 in
theorem PubVerCompare_any (va vb : Bool) (A B : Option Addr) (ca cb : Nat) (ns ms : List Nat) (da db oa ob : ByteArray) (pe pn pi : Addr) (w : World) (hA : Bigs w A ns) (hB : Bigs w B ms) (hna : Small ns) (hnb : Small ms)
    (hda : da.size ≤ 30000) (hdb : db.size ≤ 30000) (hV : PkgVars w pe pn pi) (hka : Pl.buildKnown da.data.toList = true) (hkb : Pl.buildKnown db.data.toList = true) :
    Calls Tryz.prog 65 #[VV va A ns.length ca da oa, .iface 74 (VV vb B ms.length cb db ob)] w fun e w' => e = .returned (.tuple #[.int .i64 (Pl.pubOrd ns ms da.data.toList db.data.toList), .nilIface]) ∧ Below w.heap.size w w' := by
  obtain ⟨W, hW⟩ : ∃ W, (w.alloc (.cells #[.bool va, .slice A ns.length ca, .string da, .string oa] 74)).alloc (.cells #[.bool vb, .slice B ms.length cb, .string db, .string ob] 74) = W := ⟨_, rfl⟩
  have hbW : Below w.heap.size w W := by rw [← hW]; exact ((Below.refl _ _).alloc (Nat.le_refl _) _).alloc (by simp) _
  have HC := Lib.hid (pubCmp_any va vb A B ca cb ns ms da db oa ob pe pn pi W (hA.below hbW) (hB.below hbW) hna hnb hda hdb (hV.below hbW) hka hkb)
  have HW := Lib.hid hW
  obtain ⟨R, hR⟩ : ∃ R, Pl.pubOrd ns ms da.data.toList db.data.toList = R := ⟨_, rfl⟩
  rw [hR] at HC ⊢
  clear hW hR hA hB hna hnb hka hkb hV
  go_enter Tryz.func65, Tryz.ntmps65
  go_wp2_with fail
  rw [tassert74]
  go_wp2_with fail
  rw [HW.out]
  refine HC.out.mono ?_; rintro e w1 ⟨rfl, hb1⟩
  go_wp2
  exact bodyPost_ret (v := .tuple #[.int .i64 R, .nilIface]) (by simp [results, Tryz.results65, go_sem]) rfl ⟨rfl, hbW.trans (hb1.mono hbW.size)⟩
set_option maxRecDepth 100000 in
theorem ZZPub_any (v : Bool) (A : Option Addr) (c : Nat) (ns : List Nat) (bd og : ByteArray) (w : World) (hB : Rd w 2 A ns.length (IntC ns)) (hl : ns.length ≤ 40000) (hw : ∀ n ∈ ns, (Pl.magOf n).length ≤ 30000) :
    Calls Tryz.prog 64 #[.agg #[.bool v, .slice A ns.length c, .string bd, .string og]] w (VersBack w v ns bd og) := by
  obtain ⟨W, hW⟩ : ∃ W, (w.alloc (.cells #[.bool v, .slice A ns.length c, .string bd, .string og] 62)).alloc (.cells #[.bool false, .slice none 0 0, .string ⟨#[]⟩, .string ⟨#[]⟩] 74) = W := ⟨_, rfl⟩
  have hbW : Below w.heap.size w W := by rw [← hW]; exact ((Below.refl _ _).alloc (Nat.le_refl _) _).alloc (by simp) _
  have hP : Blk W w.heap.size 62 #[.bool v, .slice A ns.length c, .string bd, .string og] := by rw [← hW]; exact (Blk.new _ _ _).alloc _
  have hRW : Blk W (w.heap.size + 1) 74 #[.bool false, .slice none 0 0, .string ⟨#[]⟩, .string ⟨#[]⟩] := by
    rw [← hW]
    have := Blk.new (w.alloc (.cells #[.bool v, .slice A ns.length c, .string bd, .string og] 62)) 74 #[.bool false, .slice none 0 0, .string ⟨#[]⟩, .string ⟨#[]⟩]
    rw [World.size_alloc] at this
    exact this
  have p0 := hP.cell 0
  have p1 := hP.cell 1
  have p2 := hP.cell 2
  have p3 := hP.cell 3
  simp at p0 p1 p2 p3
  have HC := Lib.hid (zzLike_any v A c ns bd og W (hB.below hbW) hl hw)
  have HW := Lib.hid hW
  clear hW hB hw
  go_enter Tryz.func64, Tryz.ntmps64
  go_wp2_with fail
  rw [HW.out]
  refine HC.out.mono ?_; rintro e w1 ⟨A1, c1, rfl, hob, hb1⟩
  have hR1 := hRW.below hb1 hRW.lt
  have d0 := hR1.cell 0
  have d1 := hR1.cell 1
  have d2 := hR1.cell 2
  have d3 := hR1.cell 3
  have e0 := hR1.frozen 0
  have e1 := hR1.frozen 1
  have e2 := hR1.frozen 2
  have e3 := hR1.frozen 3
  simp at d0 d1 d2 d3
  go_wp2
  refine bodyPost_ret (v := .agg #[.bool v, .slice A1 ns.length c1, .string bd, .string og]) (by simp [results, Tryz.results64, go_sem, d0, d1, d2, d3]) rfl ⟨A1, c1, rfl, ?_, ?_⟩
  · exact OwnBigs.fourT (OwnBigs.lower hob hbW.size) hR1 (by decide) (by decide) (by decide)
  · exact below_four (hbW.trans (hb1.mono hbW.size)) (by omega) _ _ _ _
set_option maxRecDepth 100000 in
set_option maxHeartbeats 2000000 in
theorem implPub_any (va vb : Bool) (A B : Option Addr) (ca cb : Nat) (ns ms : List Nat) (da db oa ob : ByteArray) (pe pn pi : Addr) (w : World) (hA : LikeIn w A ns da) (hB : LikeIn w B ms db) (hV : PkgVars w pe pn pi) :
    Calls Tryz.prog 26 #[VV va A ns.length ca da oa, VV vb B ms.length cb db ob] w fun e w' => e = .returned (.tuple #[.int .i64 (Pl.pubOrd ns ms da.data.toList db.data.toList), .bool true]) ∧ Below w.heap.size w w' := by
  obtain ⟨W, hW⟩ : ∃ W, (w.alloc (.cells #[.bool va, .slice A ns.length ca, .string da, .string oa] 27)).alloc (.cells #[.bool vb, .slice B ms.length cb, .string db, .string ob] 27) = W := ⟨_, rfl⟩
  have hbW : Below w.heap.size w W := by rw [← hW]; exact ((Below.refl _ _).alloc (Nat.le_refl _) _).alloc (by simp) _
  have hP : Blk W w.heap.size 27 #[.bool va, .slice A ns.length ca, .string da, .string oa] := by rw [← hW]; exact (Blk.new _ _ _).alloc _
  have hQ : Blk W (w.heap.size + 1) 27 #[.bool vb, .slice B ms.length cb, .string db, .string ob] := by
    rw [← hW]
    have := Blk.new (w.alloc (.cells #[.bool va, .slice A ns.length ca, .string da, .string oa] 27)) 27 #[.bool vb, .slice B ms.length cb, .string db, .string ob]
    rw [World.size_alloc] at this
    exact this
  have p0 := hP.cell 0
  have p1 := hP.cell 1
  have p2 := hP.cell 2
  have p3 := hP.cell 3
  have q0 := hQ.cell 0
  have q1 := hQ.cell 1
  have q2 := hQ.cell 2
  have q3 := hQ.cell 3
  simp at p0 p1 p2 p3 q0 q1 q2 q3
  have hQd : Blk W.drew (w.heap.size + 1) 27 #[.bool vb, .slice B ms.length cb, .string db, .string ob] := hQ
  have hbWd : Below w.heap.size w W.drew := hbW.drew
  have hAd := hA.below hbWd
  have hBd := hB.below hbWd
  have hVd := hV.below hbWd
  have H1 := Lib.hid (implLike_any va A ca ns da oa W.drew hAd.rd hAd.small.1)
  have H2 := Lib.hid (fun (w1 : World) A1 c1 (h : Rd w1 2 A1 ns.length (IntC ns)) => ZZPub_any va A1 c1 ns da oa w1 h hAd.small.1 hAd.fits.2)
  have H3 := Lib.hid (fun (w2 : World) (h : Below W.drew.heap.size W.drew w2) => implLike_any vb B cb ms db ob w2 (hBd.rd.below h) hBd.small.1)
  have H4 := Lib.hid (fun (w3 : World) B1 c1 (h : Rd w3 2 B1 ms.length (IntC ms)) => ZZPub_any vb B1 c1 ms db ob w3 h hBd.small.1 hBd.fits.2)
  have H5 := Lib.hid (fun (w4 : World) (h : Below W.drew.heap.size W.drew w4) A2 c2 B2 d2 (ha : Bigs w4 A2 ns) (hb : Bigs w4 B2 ms) => PubVerCompare_any va vb A2 B2 c2 d2 ns ms da db oa ob pe pn pi w4 ha hb hAd.small hBd.small hAd.size hBd.size (hVd.below h) hAd.known hBd.known)
  have HW := Lib.hid hW
  obtain ⟨R, hR⟩ : ∃ R, Pl.pubOrd ns ms da.data.toList db.data.toList = R := ⟨_, rfl⟩
  rw [hR] at H5 ⊢
  clear hW hA hB hV hR hAd hBd hVd
  go_enter Tryz.func26, Tryz.ntmps26
  go_wp2_with fail
  rw [HW.out]
  go_region_with (first
    | (go_at_call_of 53 (Value.agg #[Value.bool va, Value.slice A ns.length ca, Value.string da, Value.string oa]); refine H1.out.mono ?_; rintro e w1 ⟨A1, c1, rfl, hown1, hb1⟩; have hQ1 := hQd.below hb1 hQd.lt; have q10 := hQ1.cell 0; have q11 := hQ1.cell 1; have q12 := hQ1.cell 2; have q13 := hQ1.cell 3; simp at q10 q11 q12 q13)
    | (go_at_call_of 64 (Value.agg #[Value.bool va, Value.slice A1 ns.length c1, Value.string da, Value.string oa]); refine (H2.out w1 A1 c1 (Rd.of_own hown1)).mono ?_; rintro e w2 ⟨A2, c2, rfl, hob2, hb2⟩; have hQ2 := hQ1.below hb2 hQ1.lt; have q20 := hQ2.cell 0; have q21 := hQ2.cell 1; have q22 := hQ2.cell 2; have q23 := hQ2.cell 3; simp at q20 q21 q22 q23; have hbb2 := hb1.trans (hb2.mono hb1.size))
    | (go_at_call_of 53 (Value.agg #[Value.bool vb, Value.slice B ms.length cb, Value.string db, Value.string ob]); refine (H3.out w2 hbb2).mono ?_; rintro e w3 ⟨B1, d1, rfl, hown3, hb3⟩; have hbb3 := hbb2.trans (hb3.mono hbb2.size))
    | (go_at_call_of 64 (Value.agg #[Value.bool vb, Value.slice B1 ms.length d1, Value.string db, Value.string ob]); refine (H4.out w3 B1 d1 (Rd.of_own hown3)).mono ?_; rintro e w4 ⟨B2, d2, rfl, hob4, hb4⟩; have hbb4 := hbb3.trans (hb4.mono hbb3.size); have hob24 := (hob2.below hb3).below hb4)
    | (go_at_call 65; refine (H5.out w4 hbb4 A2 c2 B2 d2 hob24.bigs hob4.bigs).mono ?_; rintro e w5 ⟨rfl, hb5⟩))
  all_goals go_wp2_with fail
  all_goals go_quiet (fail)
  all_goals go_wp2
  all_goals exact bodyPost_ret (v := .tuple #[.int .i64 R, .bool true]) (by simp [results, Tryz.results26, go_sem]) rfl ⟨rfl, below_drewN (hbWd.trans ((hbb4.trans (hb5.mono hbb4.size)).mono hbWd.size)) _⟩
end Go.Proofs.YtgfkdjmoflbmdaaGreatDoor

namespace Go.Proofs.YtgfkdjmoflbmdaaGreatDoor
open Go.RowKit
open Go.Proofs

set_option maxRecDepth 100000 in
set_option maxHeartbeats 4000000 in
theorem pubTexts_walk (a b : ByteArray) (pe pn pi : Addr) (w : World) (ha : a.size ≤ maxLen) (hb : b.size ≤ maxLen) (hV : PkgVars w pe pn pi) (hT : VTabs w) :
    Calls Tryz.prog 6 #[.string a, .string b] w fun e w' => e = .returned (.bool true) ∧ Below w.heap.size w w' := by
  unfold maxLen at ha hb
  by_cases h1 : a.size ≤ 2147483647
  · by_cases h2 : b.size ≤ 2147483647
    · have h1z : ¬ (2147483647 : Int) < (a.size : Int) := by omega
      have h2z : ¬ (2147483647 : Int) < (b.size : Int) := by omega
      go_enter Tryz.func6, Tryz.ntmps6
      go_wp2_with fail
      refine (few_any a 3 w h1 hT).mono ?_; rintro e w1 ⟨⟨fa, rfl, hfa⟩, hb1⟩
      cases fa with
      | false =>
        go_wp2
        go_ret
        exact ⟨rfl, hb1⟩
      | true =>
        have HFA := Lib.hid (hfa rfl)
        clear hfa
        go_wp2_with fail
        refine (few_any b 3 w1 h2 (hT.below hb1)).mono ?_; rintro e w2 ⟨⟨fb, rfl, hfb⟩, hb2⟩
        have hbb2 := hb1.trans (hb2.mono hb1.size)
        cases fb with
        | false =>
          go_wp2
          go_ret
          exact ⟨rfl, hbb2⟩
        | true =>
          have HFB := Lib.hid (hfb rfl)
          clear hfb
          have hsa := HFA.out.1
          have hsb := HFB.out.1
          go_wp2_with fail
          refine (LikeParse_any a w2 (by omega)).mono ?_; rintro e w3 ⟨A1, c1, rfl, hown1, hb3⟩
          have hbb3 := hbb2.trans (hb3.mono hbb2.size)
          go_wp2_with fail
          refine (LikeParse_any b w3 (by omega)).mono ?_; rintro e w4 ⟨A2, c2, rfl, hown2, hb4⟩
          have hbb4 := hbb3.trans (hb4.mono hbb3.size)
          obtain ⟨X, hX⟩ : ∃ X, w4.alloc (.cells #[.bool (Pl.startsV a.data.toList), .slice A1 (Pl.numsOf a.data.toList).length c1, S (Pl.buildOf a.data.toList), .string a, .bool (Pl.startsV b.data.toList), .slice A2 (Pl.numsOf b.data.toList).length c2, S (Pl.buildOf b.data.toList), .string b] 27) = X := ⟨_, rfl⟩
          have hL := Lib.hid (two_likes a b A1 A2 c1 c2 hsa hsb hown1 hb4 hown2 hX)
          have hbX : Below w4.heap.size w4 X := by rw [← hX]; exact (Below.refl _ _).alloc (Nat.le_refl _) _
          have hbbX := hbb4.trans (hbX.mono hbb4.size)
          have HX := Lib.hid hX
          obtain ⟨tt, htt⟩ : ∃ tt, ((lkOf a A1 c1).test && (lkOf b A2 c2).test) = tt := ⟨_, rfl⟩
          rw [htt] at hL
          have HTT := Lib.hid htt
          clear hX htt
          go_wp2_with fail
          rw [HX.out]
          refine hL.out.mono ?_; rintro e w5 ⟨rfl, hb5⟩
          have hbb5 := hbbX.trans (hb5.mono hbbX.size)
          cases tt with
          | false =>
            go_wp2
            go_ret
            exact ⟨rfl, hbb5⟩
          | true =>
            have hra : Ready a := lkOf_ready (Bool.and_eq_true_iff.1 HTT.out).1 HFA.out
            have hrb : Ready b := lkOf_ready (Bool.and_eq_true_iff.1 HTT.out).2 HFB.out
            have HRA := Lib.hid hra
            have HRB := Lib.hid hrb
            obtain ⟨R, hR⟩ : ∃ R, Pl.pubOrd (Pl.numsOf a.data.toList) (Pl.numsOf b.data.toList) (Pl.buildOf a.data.toList) (Pl.buildOf b.data.toList) = R := ⟨_, rfl⟩
            have hC := Lib.hid (fun (w' : World) A c B d (h1 : Rd w' 2 A (Pl.numsOf a.data.toList).length (IntC (Pl.numsOf a.data.toList))) (h2 : Rd w' 2 B (Pl.numsOf b.data.toList).length (IntC (Pl.numsOf b.data.toList))) =>
              PubCompare_any (Pl.startsV a.data.toList) (Pl.startsV b.data.toList) A B c d (Pl.numsOf a.data.toList) (Pl.numsOf b.data.toList) ⟨(Pl.buildOf a.data.toList).toArray⟩ ⟨(Pl.buildOf b.data.toList).toArray⟩ a b w' h1 h2 (nums_fits (by omega)) (nums_fits (by omega)) hra.build hrb.build)
            have hT2 := Lib.hid (fun (w' : World) (h : Below w.heap.size w w') => PubText_any a b pe pn pi w' (hV.below h) hra hrb HFA.out.2.2 HFB.out.2.2)
            have hI := Lib.hid (fun (w' : World) (h : Below w.heap.size w w') A c B d (h1 : LikeIn w' A (Pl.numsOf a.data.toList) ⟨(Pl.buildOf a.data.toList).toArray⟩) (h2 : LikeIn w' B (Pl.numsOf b.data.toList) ⟨(Pl.buildOf b.data.toList).toArray⟩) =>
              implPub_any (Pl.startsV a.data.toList) (Pl.startsV b.data.toList) A B c d (Pl.numsOf a.data.toList) (Pl.numsOf b.data.toList) ⟨(Pl.buildOf a.data.toList).toArray⟩ ⟨(Pl.buildOf b.data.toList).toArray⟩ a b pe pn pi w' h1 h2 (hV.below h))
            simp only at hC hI
            rw [hR] at hC hT2 hI
            clear hR hra hrb
            go_wp2_with fail
            refine (LikeParse_any a w5 (by omega)).mono ?_; rintro e w6 ⟨A3, c3, rfl, hown3, hb6⟩
            have hbb6 := hbb5.trans (hb6.mono hbb5.size)
            go_wp2_with fail
            refine (LikeParse_any b w6 (by omega)).mono ?_; rintro e w7 ⟨A4, c4, rfl, hown4, hb7⟩
            have hbb7 := hbb6.trans (hb7.mono hbb6.size)
            go_wp2_with fail
            refine (hC.out w7 A3 c3 A4 c4 ((Rd.of_own hown3).below hb7) (Rd.of_own hown4)).mono ?_; rintro e w8 ⟨rfl, hb8⟩
            have hbb8 := hbb7.trans (hb8.mono hbb7.size)
            go_wp2_with fail
            refine (hT2.out w8 hbb8).mono ?_; rintro e w9 ⟨rfl, hb9⟩
            have hbb9 := hbb8.trans (hb9.mono hbb8.size)
            go_wp2_with fail
            refine (implLikeParse_any a pe pn pi w9 HRA.out.size (hV.below hbb9) HRA.out.asc).mono ?_; rintro e wA ⟨A5, c5, rfl, hown5, hbA⟩
            have hbbA := hbb9.trans (hbA.mono hbb9.size)
            go_wp2_with fail
            refine (implLikeParse_any b pe pn pi wA HRB.out.size (hV.below hbbA) HRB.out.asc).mono ?_; rintro e wB ⟨A6, c6, rfl, hown6, hbB⟩
            have hbbB := hbbA.trans (hbB.mono hbbA.size)
            go_wp2_with fail
            refine (hI.out wB hbbB A5 c5 A6 c6 ((likeIn_of hown5 HRA.out hsa).below hbB) (likeIn_of hown6 HRB.out hsb)).mono ?_; rintro e wC ⟨rfl, hbC⟩
            have hbbC := hbbB.trans (hbC.mono hbbB.size)
            go_wp2
            go_ret
            exact ⟨ret_bool (by simp), hbbC⟩
    · have h1z : ¬ (2147483647 : Int) < (a.size : Int) := by omega
      have h2z : (2147483647 : Int) < (b.size : Int) := by omega
      go_enter Tryz.func6, Tryz.ntmps6
      go_wp2
      go_ret
      exact ⟨rfl, Below.refl _ _⟩
  · have h1z : (2147483647 : Int) < (a.size : Int) := by omega
    go_enter Tryz.func6, Tryz.ntmps6
    go_wp2
    go_ret
    exact ⟨rfl, Below.refl _ _⟩
end Go.Proofs.YtgfkdjmoflbmdaaGreatDoor
