/- Contracts: PubVersion.Compare, ZZPub, PubCompare (the thin package's). -/
import Derived.Test.YtgfkdjmoflbmdaaGreatDoorRKc
namespace Go.Proofs.YtgfkdjmoflbmdaaGreatDoor
open Go.RowKit
open Go.Proofs
theorem tassert74 (v : Value) (w : World) : (Instr.typeAssert (.iface 74 v) 95 74 true).run Tryz.prog w = .ok (.tuple #[v, .bool true]) w := by kernel_rfl
set_option maxRecDepth 100000 in
theorem PubVerCompare_any (va vb : Bool) (A B : Option Addr) (ca cb : Nat) (ns ms : List Nat) (da db oa ob : ByteArray) (pe pn pi : Addr) (w : World) (hA : Bigs w A ns) (hB : Bigs w B ms) (hna : Small ns) (hnb : Small ms)
    (hda : da.size ≤ 30000) (hdb : db.size ≤ 30000) (hV : PkgVars w pe pn pi) (hka : Pl.buildKnown da.data.toList = true) (hkb : Pl.buildKnown db.data.toList = true) :
    Calls Tryz.prog 65 #[VV va A ns.length ca da oa, .iface 74 (VV vb B ms.length cb db ob)] w fun e w' => e = .returned (.tuple #[.int .i64 (Pl.pubOrd ns ms da.data.toList db.data.toList), .nilIface]) ∧ Below w.heap.size w w' := by
  obtain ⟨W, hW⟩ : ∃ W, (w.alloc (.cells #[.bool va, .slice A ns.length ca, .string da, .string oa] 74)).alloc (.cells #[.bool vb, .slice B ms.length cb, .string db, .string ob] 74) = W := ⟨_, rfl⟩
  have hbW : Below w.heap.size w W := by rw [← hW]; exact ((Below.refl _ _).alloc (Nat.le_refl _) _).alloc (by simp) _
  have HC := Lib.hid (pubCmp_any va vb A B ca cb ns ms da db oa ob pe pn pi W (hA.below hbW) (hB.below hbW) hna hnb hda hdb (hV.below hbW) hka hkb)
  have HW := Lib.hid hW
  obtain ⟨R, hR⟩ : ∃ R, Pl.pubOrd ns ms da.data.toList db.data.toList = R := ⟨_, rfl⟩
  rw [hR] at HC ⊢
  clear hW hR hA hB hna hnb hka hkb hV
  go_enter Tryz.func65, Tryz.ntmps65
  go_wp2_with fail
  rw [tassert74]
  go_wp2_with fail
  rw [HW.out]
  refine HC.out.mono ?_; rintro e w1 ⟨rfl, hb1⟩
  go_wp2
  exact bodyPost_ret (v := .tuple #[.int .i64 R, .nilIface]) (by simp [results, Tryz.results65, go_sem]) rfl ⟨rfl, hbW.trans (hb1.mono hbW.size)⟩
set_option maxRecDepth 100000 in
theorem ZZPub_any (v : Bool) (A : Option Addr) (c : Nat) (ns : List Nat) (bd og : ByteArray) (w : World) (hB : Rd w 2 A ns.length (IntC ns)) (hl : ns.length ≤ 40000) (hw : ∀ n ∈ ns, (Pl.magOf n).length ≤ 30000) :
    Calls Tryz.prog 64 #[.agg #[.bool v, .slice A ns.length c, .string bd, .string og]] w (VersBack w v ns bd og) := by
  obtain ⟨W, hW⟩ : ∃ W, (w.alloc (.cells #[.bool v, .slice A ns.length c, .string bd, .string og] 62)).alloc (.cells #[.bool false, .slice none 0 0, .string ⟨#[]⟩, .string ⟨#[]⟩] 74) = W := ⟨_, rfl⟩
  have hbW : Below w.heap.size w W := by rw [← hW]; exact ((Below.refl _ _).alloc (Nat.le_refl _) _).alloc (by simp) _
  have hP : Blk W w.heap.size 62 #[.bool v, .slice A ns.length c, .string bd, .string og] := by rw [← hW]; exact (Blk.new _ _ _).alloc _
  have hRW : Blk W (w.heap.size + 1) 74 #[.bool false, .slice none 0 0, .string ⟨#[]⟩, .string ⟨#[]⟩] := by
    rw [← hW]
    have := Blk.new (w.alloc (.cells #[.bool v, .slice A ns.length c, .string bd, .string og] 62)) 74 #[.bool false, .slice none 0 0, .string ⟨#[]⟩, .string ⟨#[]⟩]
    rw [World.size_alloc] at this
    exact this
  have p0 := hP.cell 0
  have p1 := hP.cell 1
  have p2 := hP.cell 2
  have p3 := hP.cell 3
  simp at p0 p1 p2 p3
  have HC := Lib.hid (zzLike_any v A c ns bd og W (hB.below hbW) hl hw)
  have HW := Lib.hid hW
  clear hW hB hw
  go_enter Tryz.func64, Tryz.ntmps64
  go_wp2_with fail
  rw [HW.out]
  refine HC.out.mono ?_; rintro e w1 ⟨A1, c1, rfl, hob, hb1⟩
  have hR1 := hRW.below hb1 hRW.lt
  have d0 := hR1.cell 0
  have d1 := hR1.cell 1
  have d2 := hR1.cell 2
  have d3 := hR1.cell 3
  have e0 := hR1.frozen 0
  have e1 := hR1.frozen 1
  have e2 := hR1.frozen 2
  have e3 := hR1.frozen 3
  simp at d0 d1 d2 d3
  go_wp2
  refine bodyPost_ret (v := .agg #[.bool v, .slice A1 ns.length c1, .string bd, .string og]) (by simp [results, Tryz.results64, go_sem, d0, d1, d2, d3]) rfl ⟨A1, c1, rfl, ?_, ?_⟩
  · exact OwnBigs.fourT (OwnBigs.lower hob hbW.size) hR1 (by decide) (by decide) (by decide)
  · exact below_four (hbW.trans (hb1.mono hbW.size)) (by omega) _ _ _ _
set_option maxRecDepth 100000 in
set_option maxHeartbeats 2000000 in
theorem implPub_any (va vb : Bool) (A B : Option Addr) (ca cb : Nat) (ns ms : List Nat) (da db oa ob : ByteArray) (pe pn pi : Addr) (w : World) (hA : LikeIn w A ns da) (hB : LikeIn w B ms db) (hV : PkgVars w pe pn pi) :
    Calls Tryz.prog 26 #[VV va A ns.length ca da oa, VV vb B ms.length cb db ob] w fun e w' => e = .returned (.tuple #[.int .i64 (Pl.pubOrd ns ms da.data.toList db.data.toList), .bool true]) ∧ Below w.heap.size w w' := by
  obtain ⟨W, hW⟩ : ∃ W, (w.alloc (.cells #[.bool va, .slice A ns.length ca, .string da, .string oa] 27)).alloc (.cells #[.bool vb, .slice B ms.length cb, .string db, .string ob] 27) = W := ⟨_, rfl⟩
  have hbW : Below w.heap.size w W := by rw [← hW]; exact ((Below.refl _ _).alloc (Nat.le_refl _) _).alloc (by simp) _
  have hP : Blk W w.heap.size 27 #[.bool va, .slice A ns.length ca, .string da, .string oa] := by rw [← hW]; exact (Blk.new _ _ _).alloc _
  have hQ : Blk W (w.heap.size + 1) 27 #[.bool vb, .slice B ms.length cb, .string db, .string ob] := by
    rw [← hW]
    have := Blk.new (w.alloc (.cells #[.bool va, .slice A ns.length ca, .string da, .string oa] 27)) 27 #[.bool vb, .slice B ms.length cb, .string db, .string ob]
    rw [World.size_alloc] at this
    exact this
  have p0 := hP.cell 0
  have p1 := hP.cell 1
  have p2 := hP.cell 2
  have p3 := hP.cell 3
  have q0 := hQ.cell 0
  have q1 := hQ.cell 1
  have q2 := hQ.cell 2
  have q3 := hQ.cell 3
  simp at p0 p1 p2 p3 q0 q1 q2 q3
  have hQd : Blk W.drew (w.heap.size + 1) 27 #[.bool vb, .slice B ms.length cb, .string db, .string ob] := hQ
  have hbWd : Below w.heap.size w W.drew := hbW.drew
  have hAd := hA.below hbWd
  have hBd := hB.below hbWd
  have hVd := hV.below hbWd
  have H1 := Lib.hid (implLike_any va A ca ns da oa W.drew hAd.rd hAd.small.1)
  have H2 := Lib.hid (fun (w1 : World) A1 c1 (h : Rd w1 2 A1 ns.length (IntC ns)) => ZZPub_any va A1 c1 ns da oa w1 h hAd.small.1 hAd.fits.2)
  have H3 := Lib.hid (fun (w2 : World) (h : Below W.drew.heap.size W.drew w2) => implLike_any vb B cb ms db ob w2 (hBd.rd.below h) hBd.small.1)
  have H4 := Lib.hid (fun (w3 : World) B1 c1 (h : Rd w3 2 B1 ms.length (IntC ms)) => ZZPub_any vb B1 c1 ms db ob w3 h hBd.small.1 hBd.fits.2)
  have H5 := Lib.hid (fun (w4 : World) (h : Below W.drew.heap.size W.drew w4) A2 c2 B2 d2 (ha : Bigs w4 A2 ns) (hb : Bigs w4 B2 ms) => PubVerCompare_any va vb A2 B2 c2 d2 ns ms da db oa ob pe pn pi w4 ha hb hAd.small hBd.small hAd.size hBd.size (hVd.below h) hAd.known hBd.known)
  have HW := Lib.hid hW
  obtain ⟨R, hR⟩ : ∃ R, Pl.pubOrd ns ms da.data.toList db.data.toList = R := ⟨_, rfl⟩
  rw [hR] at H5 ⊢
  clear hW hA hB hV hR hAd hBd hVd
  go_enter Tryz.func26, Tryz.ntmps26
  go_wp2_with fail
  rw [HW.out]
  go_region_with (first
    | (go_at_call_of 53 (Value.agg #[Value.bool va, Value.slice A ns.length ca, Value.string da, Value.string oa]); refine H1.out.mono ?_; rintro e w1 ⟨A1, c1, rfl, hown1, hb1⟩; have hQ1 := hQd.below hb1 hQd.lt; have q10 := hQ1.cell 0; have q11 := hQ1.cell 1; have q12 := hQ1.cell 2; have q13 := hQ1.cell 3; simp at q10 q11 q12 q13)
    | (go_at_call_of 64 (Value.agg #[Value.bool va, Value.slice A1 ns.length c1, Value.string da, Value.string oa]); refine (H2.out w1 A1 c1 (Rd.of_own hown1)).mono ?_; rintro e w2 ⟨A2, c2, rfl, hob2, hb2⟩; have hQ2 := hQ1.below hb2 hQ1.lt; have q20 := hQ2.cell 0; have q21 := hQ2.cell 1; have q22 := hQ2.cell 2; have q23 := hQ2.cell 3; simp at q20 q21 q22 q23; have hbb2 := hb1.trans (hb2.mono hb1.size))
    | (go_at_call_of 53 (Value.agg #[Value.bool vb, Value.slice B ms.length cb, Value.string db, Value.string ob]); refine (H3.out w2 hbb2).mono ?_; rintro e w3 ⟨B1, d1, rfl, hown3, hb3⟩; have hbb3 := hbb2.trans (hb3.mono hbb2.size))
    | (go_at_call_of 64 (Value.agg #[Value.bool vb, Value.slice B1 ms.length d1, Value.string db, Value.string ob]); refine (H4.out w3 B1 d1 (Rd.of_own hown3)).mono ?_; rintro e w4 ⟨B2, d2, rfl, hob4, hb4⟩; have hbb4 := hbb3.trans (hb4.mono hbb3.size); have hob24 := (hob2.below hb3).below hb4)
    | (go_at_call 65; refine (H5.out w4 hbb4 A2 c2 B2 d2 hob24.bigs hob4.bigs).mono ?_; rintro e w5 ⟨rfl, hb5⟩))
  all_goals go_wp2_with fail
  all_goals go_quiet (fail)
  all_goals go_wp2
  all_goals exact bodyPost_ret (v := .tuple #[.int .i64 R, .bool true]) (by simp [results, Tryz.results26, go_sem]) rfl ⟨rfl, below_drewN (hbWd.trans ((hbb4.trans (hb5.mono hbb4.size)).mono hbWd.size)) _⟩
end Go.Proofs.YtgfkdjmoflbmdaaGreatDoor
