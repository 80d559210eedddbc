/- Contracts: likeMetadata, zzCut at a plus, spec.PubCompare. -/
import Derived.Test.YtgfkdjmoflbmdaaGreatDoorRWhxWj
namespace Go.Proofs.YtgfkdjmoflbmdaaGreatDoor
open Go.RowKit
open Go.Proofs
theorem metaOf_ext {s : ByteArray} {k : Nat} (h : Pl.idxOf 43 s.data.toList = some k) : Value.string (s.extract (k + 1) s.size) = S (Pl.metaOf s.data.toList) := by
  rw [ext_S, Pl.metaOf, h, List.take_of_length_le (by rw [List.length_drop, len_list]; exact Nat.le_refl _)]
theorem metaOf_none {s : ByteArray} (h : Pl.idxOf 43 s.data.toList = none) : (Value.string ⟨#[]⟩) = S (Pl.metaOf s.data.toList) := by
  rw [Pl.metaOf, h]
set_option maxRecDepth 100000 in
theorem likeMeta_any (s : ByteArray) (w : World) (hs : s.size ≤ 30000) :
    Calls Tryz.prog 63 #[.string s] w fun e w' => e = .returned (S (Pl.metaOf s.data.toList)) ∧ w = w' := by
  have HI := Lib.hid (indexOf_any s 43 w (by unfold maxLen; omega))
  cases hk : Pl.idxOf 43 s.data.toList with
  | none =>
    have hm := Lib.hid (metaOf_none hk)
    have hi : idxI 43 s.data.toList = -1 := by rw [idxI, hk]
    rw [hi] at HI
    clear hi hk
    go_enter Tryz.func63, Tryz.ntmps63
    go_wp2_with fail
    refine HI.out.mono ?_; rintro e w1 ⟨rfl, rfl⟩
    go_wp2
    go_ret
    exact ⟨by rw [← hm.out]; rfl, rfl⟩
  | some k =>
    have hm := Lib.hid (metaOf_ext hk)
    have hi : idxI 43 s.data.toList = (k : Int) := by rw [idxI, hk]
    have hlt := (Pl.idxOf_some hk).1
    rw [len_list] at hlt
    rw [hi] at HI
    clear hi hk
    go_enter Tryz.func63, Tryz.ntmps63
    go_wp2_with fail
    refine HI.out.mono ?_; rintro e w1 ⟨rfl, rfl⟩
    go_wp2
    go_ret
    exact ⟨by rw [← hm.out]; rfl, rfl⟩
set_option maxRecDepth 100000 in
theorem zzCut_any (s : ByteArray) (w : World) (hs : s.size ≤ 30000) :
    Calls Tryz.prog 115 #[.string s, .string ⟨#[43]⟩] w fun e w' => (∃ b f, e = .returned (.tuple #[.string b, S (Pl.metaOf s.data.toList), .bool f])) ∧ Below w.heap.size w w' := by
  have HI := Lib.hid (zzIndex_any s 43 w (by omega))
  have h1s : (⟨#[43]⟩ : ByteArray).size = 1 := rfl
  have hone : one 43 = ⟨#[43]⟩ := rfl
  rw [hone] at HI
  obtain ⟨sub, hsub⟩ : ∃ sub, (⟨#[43]⟩ : ByteArray) = sub := ⟨_, rfl⟩
  rw [hsub] at h1s HI ⊢
  clear hsub hone
  cases hk : Pl.idxOf 43 s.data.toList with
  | none =>
    have hm := Lib.hid (metaOf_none hk)
    have hi : idxI 43 s.data.toList = -1 := by rw [idxI, hk]
    rw [hi] at HI
    clear hi hk
    go_enter Tryz.func115, Tryz.ntmps115
    go_wp2_with fail
    refine HI.out.mono ?_; rintro e w1 ⟨rfl, rfl⟩
    go_wp2
    refine bodyPost_ret (v := .tuple #[.string s, .string ⟨#[]⟩, .bool false]) (by simp [results, Tryz.results115, go_sem]) rfl ⟨⟨s, false, by rw [← hm.out]⟩, Below.refl _ _⟩
  | some k =>
    have hm := Lib.hid (metaOf_ext hk)
    have hi : idxI 43 s.data.toList = (k : Int) := by rw [idxI, hk]
    have hlt := (Pl.idxOf_some hk).1
    rw [len_list] at hlt
    rw [hi] at HI
    clear hi hk
    go_enter Tryz.func115, Tryz.ntmps115
    go_wp2_with fail
    refine HI.out.mono ?_; rintro e w1 ⟨rfl, rfl⟩
    go_wp2_with fail
    go_quiet (fail)
    go_wp2
    refine bodyPost_ret (v := .tuple #[.string (s.extract 0 k), .string (s.extract (k + 1) s.size), .bool true]) (by simp [results, Tryz.results115, go_sem]) rfl ⟨⟨_, true, by rw [← hm.out]⟩, below_drewN (Below.refl _ _) _⟩
theorem Pl.pubOrd_like (ns ms : List Nat) (a b : Pl.Bytes) : Pl.pubOrd ns ms a b = if Pl.likeOrd ns ms a b ≠ 0 then Pl.likeOrd ns ms a b else Pl.ordB (Pl.metaOf a) (Pl.metaOf b) := by
  rw [Pl.pubOrd, Pl.likeOrd]
  by_cases h : Pl.cmpNums ns ms = 0
  · simp [h]
  · simp [h]
set_option maxRecDepth 100000 in
set_option maxHeartbeats 1000000 in
theorem PubCompare_any (va vb : Bool) (A B : Option Addr) (ca cb : Nat) (ns ms : List Nat) (da db : ByteArray) (oa ob : ByteArray) (w : World)
    (hra : Rd w 2 A ns.length (IntC ns)) (hrb : Rd w 2 B ms.length (IntC ms)) (hfa : Pl.Fits ns) (hfb : Pl.Fits ms) (hda : da.size ≤ 30000) (hdb : db.size ≤ 30000) :
    Calls Tryz.prog 25 #[.agg #[.bool va, .slice A ns.length ca, .string da, .string oa], .agg #[.bool vb, .slice B ms.length cb, .string db, .string ob]] w fun e w' => e = .returned (.tuple #[.int .i64 (Pl.pubOrd ns ms da.data.toList db.data.toList), .bool true]) ∧ Below w.heap.size w w' := by
  obtain ⟨W, hW⟩ : ∃ W, (w.alloc (.cells #[.bool va, .slice A ns.length ca, .string da, .string oa] 27)).alloc (.cells #[.bool vb, .slice B ms.length cb, .string db, .string ob] 27) = W := ⟨_, rfl⟩
  have hraW : Rd W 2 A ns.length (IntC ns) := by rw [← hW]; exact (hra.alloc _).alloc _
  have hrbW : Rd W 2 B ms.length (IntC ms) := by rw [← hW]; exact (hrb.alloc _).alloc _
  have hbelW : Below w.heap.size w W := by rw [← hW]; go_grown
  have hba : Blk W w.heap.size 27 #[.bool va, .slice A ns.length ca, .string da, .string oa] := by rw [← hW]; exact (Blk.new _ _ _).alloc _
  have hbb : Blk W (w.heap.size + 1) 27 #[.bool vb, .slice B ms.length cb, .string db, .string ob] := by
    rw [← hW]
    have := Blk.new (w.alloc (.cells #[.bool va, .slice A ns.length ca, .string da, .string oa] 27)) 27 #[.bool vb, .slice B ms.length cb, .string db, .string ob]
    rw [World.size_alloc] at this
    exact this
  have HC := Lib.hid (likeOrder_any va vb A B ca cb ns ms da db oa ob W hraW hrbW hfa hfb hda hdb)
  have HW := Lib.hid hW
  have hres := Pl.pubOrd_like ns ms da.data.toList db.data.toList
  obtain ⟨z, hz⟩ : ∃ z, Pl.likeOrd ns ms da.data.toList db.data.toList = z := ⟨_, rfl⟩
  obtain ⟨R, hR⟩ : ∃ R, Pl.pubOrd ns ms da.data.toList db.data.toList = R := ⟨_, rfl⟩
  rw [hR, hz] at hres
  rw [hR]
  rw [hz] at HC
  have p0 := hba.cell 0
  have p1 := hba.cell 1
  have p2 := hba.cell 2
  have p3 := hba.cell 3
  have q0 := hbb.cell 0
  have q1 := hbb.cell 1
  have q2 := hbb.cell 2
  have q3 := hbb.cell 3
  simp at p0 p1 p2 p3 q0 q1 q2 q3
  clear hW hz hR hra hrb hraW hrbW hfa hfb
  by_cases hz0 : z = 0
  · have hz1 : (z != 0) = false := by simp [hz0]
    rw [if_neg (by simp [hz0])] at hres
    have HM1 := fun W => likeMeta_any da W hda
    have HM2 := fun W => likeMeta_any db W hdb
    have HO := fun W => order_any ⟨(Pl.metaOf da.data.toList).toArray⟩ ⟨(Pl.metaOf db.data.toList).toArray⟩ W
    rw [← hres] at HO
    have HM1 := Lib.hid HM1
    have HM2 := Lib.hid HM2
    have HO := Lib.hid HO
    clear hres hz0
    go_enter Tryz.func25, Tryz.ntmps25
    go_wp2_with fail
    rw [HW.out]
    refine HC.out.mono ?_; rintro e w1 ⟨rfl, hb1⟩
    have hP1 := hba.below hb1 hba.lt
    have hQ1 := hbb.below hb1 hbb.lt
    have r2 := hP1.cell 2
    have t2 := hQ1.cell 2
    simp at r2 t2
    go_wp2_with fail
    go_quiet (first
      | (go_at_call_of 63 (Value.string da); exact quiet_left (HM1.out _))
      | (go_at_call_of 63 (Value.string db); exact quiet_left (HM2.out _))
      | (go_at_call 62; exact quiet_left (HO.out _)))
    all_goals go_wp2
    all_goals exact bodyPost_ret (v := .tuple #[.int .i64 R, .bool true]) (by simp [results, Tryz.results25, go_sem]) rfl ⟨rfl, below_drewN (hbelW.trans (hb1.mono hbelW.size)) _⟩
  · have hz1 : (z != 0) = true := by simpa using hz0
    rw [if_pos hz0] at hres
    clear hz0
    go_enter Tryz.func25, Tryz.ntmps25
    go_wp2_with fail
    rw [HW.out]
    refine HC.out.mono ?_; rintro e w1 ⟨rfl, hb1⟩
    go_wp2
    exact bodyPost_ret (v := .tuple #[.int .i64 R, .bool true]) (by simp [results, Tryz.results25, go_sem, hres]) rfl ⟨rfl, hbelW.trans (hb1.mono hbelW.size)⟩
end Go.Proofs.YtgfkdjmoflbmdaaGreatDoor
