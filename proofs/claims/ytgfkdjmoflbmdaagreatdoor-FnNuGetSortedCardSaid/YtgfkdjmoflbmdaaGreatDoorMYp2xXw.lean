/- Contracts: impl.like, ZZLike.like. Contracts: SemverVersion.compare, CompareStr, ParseSemverVersion, SemverCompareText. Contracts: SemverVersion.CompareStr, SemverCompareText. Contract: SemverVersion.Compare. Contracts: told, plainLike. Contracts: ZZLikeParse, LikeParse (the thin package's). Contracts: ZZSemver, SemverCompare (the thin package's). -/
import Derived.Test.YtgfkdjmoflbmdaaGreatDoorMXoxXp
namespace Go.Proofs.YtgfkdjmoflbmdaaGreatDoor
open Go.RowKit
open Go.Proofs

set_option maxRecDepth 100000 in
set_option maxHeartbeats 4000000 in
theorem implLike_any (v : Bool) (A : Option Addr) (c : Nat) (ns : List Nat) (bd og : ByteArray) (w : World) (hB : Rd w 2 A ns.length (IntC ns)) (hl : ns.length ≤ 40000) :
    Calls Tryz.prog 53 #[.agg #[.bool v, .slice A ns.length c, .string bd, .string og]] w (PartsBack 118 w v ns bd og) := by
  obtain ⟨W, hW⟩ : ∃ W, (w.alloc (.cells #[.bool v, .slice A ns.length c, .string bd, .string og] 27)).alloc (.cells #[.bool false, .slice none 0 0, .string ⟨#[]⟩, .string ⟨#[]⟩] 62) = W := ⟨_, rfl⟩
  have hst : TurnSt 27 62 w v A ns.length c bd og W := TurnSt.start hW
  have HC := Lib.hid (fun (w' : World) (h : Below w.heap.size w w') => bigs_any A c ns w' (hB.below h) hl)
  have HW := Lib.hid hW
  clear hW
  go_enter Tryz.func53, Tryz.ntmps53
  go_wp2_with fail
  rw [HW.out]
  go_region_held3 (fun w' => w'.cell? ⟨w.heap.size, 0, none⟩ = some (.bool v) ∧ w'.cell? ⟨w.heap.size, 1, none⟩ = some (.slice A ns.length c) ∧ w'.cell? ⟨w.heap.size, 2, none⟩ = some (.string bd) ∧ w'.cell? ⟨w.heap.size, 3, none⟩ = some (.string og) ∧ w'.cell? ⟨w.heap.size + 1, 0, none⟩ = some (rcell w' ⟨w.heap.size + 1, 0, none⟩) ∧ w'.cell? ⟨w.heap.size + 1, 1, none⟩ = some (rcell w' ⟨w.heap.size + 1, 1, none⟩) ∧ w'.cell? ⟨w.heap.size + 1, 2, none⟩ = some (rcell w' ⟨w.heap.size + 1, 2, none⟩) ∧ w'.cell? ⟨w.heap.size + 1, 3, none⟩ = some (rcell w' ⟨w.heap.size + 1, 3, none⟩) ∧ w'.frozen? ⟨w.heap.size + 1, 0, none⟩ = false ∧ w'.frozen? ⟨w.heap.size + 1, 1, none⟩ = false ∧ w'.frozen? ⟨w.heap.size + 1, 2, none⟩ = false ∧ w'.frozen? ⟨w.heap.size + 1, 3, none⟩ = false ∧ TurnSt 27 62 w v A ns.length c bd og w')
    (first | with_reducible exact hst.all | with_reducible exact hst.drew.all | with_reducible exact (TurnSt.stored (TurnSt.below (‹_ ∧ _ ∧ _ ∧ _ ∧ _ ∧ _ ∧ _ ∧ _ ∧ _ ∧ _ ∧ _ ∧ _ ∧ TurnSt _ _ _ _ _ _ _ _ _ _›).2.2.2.2.2.2.2.2.2.2.2.2 hb1) _ _ _ _).all | with_reducible exact (TurnSt.below (‹_ ∧ _ ∧ _ ∧ _ ∧ _ ∧ _ ∧ _ ∧ _ ∧ _ ∧ _ ∧ _ ∧ _ ∧ TurnSt _ _ _ _ _ _ _ _ _ _›).2.2.2.2.2.2.2.2.2.2.2.2 hb1).all | with_reducible exact (TurnSt.stored (‹_ ∧ _ ∧ _ ∧ _ ∧ _ ∧ _ ∧ _ ∧ _ ∧ _ ∧ _ ∧ _ ∧ _ ∧ TurnSt _ _ _ _ _ _ _ _ _ _›).2.2.2.2.2.2.2.2.2.2.2.2 _ _ _ _).all)
    (first
      | (go_at_call 88; refine (HC.out _ (‹_ ∧ _ ∧ _ ∧ _ ∧ _ ∧ _ ∧ _ ∧ _ ∧ _ ∧ _ ∧ _ ∧ _ ∧ TurnSt _ _ _ _ _ _ _ _ _ _›).2.2.2.2.2.2.2.2.2.2.2.2.bel).mono ?_; rintro e w1 ⟨A1, c1, rfl, hown, hb1⟩; have hT1 := TurnSt.below (‹_ ∧ _ ∧ _ ∧ _ ∧ _ ∧ _ ∧ _ ∧ _ ∧ _ ∧ _ ∧ _ ∧ _ ∧ TurnSt _ _ _ _ _ _ _ _ _ _›).2.2.2.2.2.2.2.2.2.2.2.2 hb1; have hB0 := (‹_ ∧ _ ∧ _ ∧ _ ∧ _ ∧ _ ∧ _ ∧ _ ∧ _ ∧ _ ∧ _ ∧ _ ∧ TurnSt _ _ _ _ _ _ _ _ _ _›).2.2.2.2.2.2.2.2.2.2.2.2.bel.size))
  obtain ⟨cs, hr1, hr2⟩ := hT1.res
  have r0 := rcell_at hr1 (i := 0) (by omega)
  have r1 := rcell_at hr1 (i := 1) (by omega)
  have r2 := rcell_at hr1 (i := 2) (by omega)
  have r3 := rcell_at hr1 (i := 3) (by omega)
  go_wp2_with fail
  refine bodyPost_ret (v := .agg #[.bool v, .slice A1 ns.length c1, .string bd, .string og]) (by simp [results, Tryz.results53, go_sem, r0, r1, r2, r3]) rfl ⟨A1, c1, rfl, ?_⟩
  exact parts_end (t := 118) hown hr1 (by decide) hB0 (by omega) hT1.bel _ _ _ _

set_option maxRecDepth 100000 in
set_option maxHeartbeats 4000000 in
theorem zzLike_any (v : Bool) (A : Option Addr) (c : Nat) (ns : List Nat) (bd og : ByteArray) (w : World) (hB : Rd w 2 A ns.length (IntC ns)) (hl : ns.length ≤ 40000) (hw : ∀ n ∈ ns, (Pl.magOf n).length ≤ 30000) :
    Calls Tryz.prog 87 #[.agg #[.bool v, .slice A ns.length c, .string bd, .string og]] w (VersBack w v ns bd og) := by
  obtain ⟨W, hW⟩ : ∃ W, (w.alloc (.cells #[.bool v, .slice A ns.length c, .string bd, .string og] 62)).alloc (.cells #[.bool false, .slice none 0 0, .string ⟨#[]⟩, .string ⟨#[]⟩] 56) = W := ⟨_, rfl⟩
  have hst : TurnSt 62 56 w v A ns.length c bd og W := TurnSt.start hW
  have HC := Lib.hid (fun (w' : World) (h : Below w.heap.size w w') => zzBigs_any A c ns w' (hB.below h) hl hw)
  have HW := Lib.hid hW
  clear hW
  go_enter Tryz.func87, Tryz.ntmps87
  go_wp2_with fail
  rw [HW.out]
  go_region_held3 (fun w' => w'.cell? ⟨w.heap.size, 0, none⟩ = some (.bool v) ∧ w'.cell? ⟨w.heap.size, 1, none⟩ = some (.slice A ns.length c) ∧ w'.cell? ⟨w.heap.size, 2, none⟩ = some (.string bd) ∧ w'.cell? ⟨w.heap.size, 3, none⟩ = some (.string og) ∧ w'.cell? ⟨w.heap.size + 1, 0, none⟩ = some (rcell w' ⟨w.heap.size + 1, 0, none⟩) ∧ w'.cell? ⟨w.heap.size + 1, 1, none⟩ = some (rcell w' ⟨w.heap.size + 1, 1, none⟩) ∧ w'.cell? ⟨w.heap.size + 1, 2, none⟩ = some (rcell w' ⟨w.heap.size + 1, 2, none⟩) ∧ w'.cell? ⟨w.heap.size + 1, 3, none⟩ = some (rcell w' ⟨w.heap.size + 1, 3, none⟩) ∧ w'.frozen? ⟨w.heap.size + 1, 0, none⟩ = false ∧ w'.frozen? ⟨w.heap.size + 1, 1, none⟩ = false ∧ w'.frozen? ⟨w.heap.size + 1, 2, none⟩ = false ∧ w'.frozen? ⟨w.heap.size + 1, 3, none⟩ = false ∧ TurnSt 62 56 w v A ns.length c bd og w')
    (first | with_reducible exact hst.all | with_reducible exact hst.drew.all | with_reducible exact (TurnSt.stored (TurnSt.below (‹_ ∧ _ ∧ _ ∧ _ ∧ _ ∧ _ ∧ _ ∧ _ ∧ _ ∧ _ ∧ _ ∧ _ ∧ TurnSt _ _ _ _ _ _ _ _ _ _›).2.2.2.2.2.2.2.2.2.2.2.2 hb1) _ _ _ _).all | with_reducible exact (TurnSt.below (‹_ ∧ _ ∧ _ ∧ _ ∧ _ ∧ _ ∧ _ ∧ _ ∧ _ ∧ _ ∧ _ ∧ _ ∧ TurnSt _ _ _ _ _ _ _ _ _ _›).2.2.2.2.2.2.2.2.2.2.2.2 hb1).all | with_reducible exact (TurnSt.stored (‹_ ∧ _ ∧ _ ∧ _ ∧ _ ∧ _ ∧ _ ∧ _ ∧ _ ∧ _ ∧ _ ∧ _ ∧ TurnSt _ _ _ _ _ _ _ _ _ _›).2.2.2.2.2.2.2.2.2.2.2.2 _ _ _ _).all)
    (first
      | (go_at_call 106; refine (HC.out _ (‹_ ∧ _ ∧ _ ∧ _ ∧ _ ∧ _ ∧ _ ∧ _ ∧ _ ∧ _ ∧ _ ∧ _ ∧ TurnSt _ _ _ _ _ _ _ _ _ _›).2.2.2.2.2.2.2.2.2.2.2.2.bel).mono ?_; rintro e w1 ⟨A1, c1, rfl, hown, hb1⟩; have hT1 := TurnSt.below (‹_ ∧ _ ∧ _ ∧ _ ∧ _ ∧ _ ∧ _ ∧ _ ∧ _ ∧ _ ∧ _ ∧ _ ∧ TurnSt _ _ _ _ _ _ _ _ _ _›).2.2.2.2.2.2.2.2.2.2.2.2 hb1; have hB0 := (‹_ ∧ _ ∧ _ ∧ _ ∧ _ ∧ _ ∧ _ ∧ _ ∧ _ ∧ _ ∧ _ ∧ _ ∧ TurnSt _ _ _ _ _ _ _ _ _ _›).2.2.2.2.2.2.2.2.2.2.2.2.bel.size))
  obtain ⟨cs, hr1, hr2⟩ := hT1.res
  have r0 := rcell_at hr1 (i := 0) (by omega)
  have r1 := rcell_at hr1 (i := 1) (by omega)
  have r2 := rcell_at hr1 (i := 2) (by omega)
  have r3 := rcell_at hr1 (i := 3) (by omega)
  go_wp2_with fail
  refine bodyPost_ret (v := .agg #[.bool v, .slice A1 ns.length c1, .string bd, .string og]) (by simp [results, Tryz.results87, go_sem, r0, r1, r2, r3]) rfl ⟨A1, c1, rfl, ?_⟩
  exact bigs_end hown hr1 hB0 (by omega) hT1.bel _ _ _ _
end Go.Proofs.YtgfkdjmoflbmdaaGreatDoor

namespace Go.Proofs.YtgfkdjmoflbmdaaGreatDoor
open Go.RowKit
open Go.Proofs

theorem OwnBigs.bigs {w : World} {base c : Nat} {A : Option Addr} {ns : List Nat} (h : OwnBigs w base (.slice A ns.length c) ns) : Bigs w A ns := by
  obtain ⟨Zs, h1, h2, h3⟩ := h
  exact ⟨Zs, h1, Rd.of_own h2, h3⟩
/-- a version within another struct -/
abbrev VV (v : Bool) (A : Option Addr) (n c : Nat) (bd og : ByteArray) : Value := .agg #[.bool v, .slice A n c, .string bd, .string og]
/-- numbers that are short enough to be compared -/
def Small (ns : List Nat) : Prop := ns.length ≤ 40000 ∧ ∀ n ∈ ns, (Pl.digs M n).length ≤ 100000
set_option maxRecDepth 100000 in
set_option maxHeartbeats 1000000 in
theorem compare_any (va vb : Bool) (A B : Option Addr) (ca cb : Nat) (ns ms : List Nat) (da db oa ob : ByteArray) (pe pn pi : Addr) (w : World) (hA : Bigs w A ns) (hB : Bigs w B ms) (hna : Small ns) (hnb : Small ms)
    (hda : da.size ≤ 30000) (hdb : db.size ≤ 30000) (hV : PkgVars w pe pn pi) (hka : Pl.buildKnown da.data.toList = true) (hkb : Pl.buildKnown db.data.toList = true) :
    Calls Tryz.prog 89 #[VV va A ns.length ca da oa, VV vb B ms.length cb db ob] w fun e w' => e = .returned (.int .i64 (Pl.likeOrd ns ms da.data.toList db.data.toList)) ∧ Below w.heap.size w w' := by
  obtain ⟨W, hW⟩ : ∃ W, (w.alloc (.cells #[.bool va, .slice A ns.length ca, .string da, .string oa] 58)).alloc (.cells #[.bool vb, .slice B ms.length cb, .string db, .string ob] 58) = W := ⟨_, rfl⟩
  have hbW : Below w.heap.size w W := by rw [← hW]; exact ((Below.refl _ _).alloc (Nat.le_refl _) _).alloc (by simp) _
  have hP : Blk W w.heap.size 58 #[.bool va, .slice A ns.length ca, .string da, .string oa] := by rw [← hW]; exact (Blk.new _ _ _).alloc _
  have hQ : Blk W (w.heap.size + 1) 58 #[.bool vb, .slice B ms.length cb, .string db, .string ob] := by
    rw [← hW]
    have := Blk.new (w.alloc (.cells #[.bool va, .slice A ns.length ca, .string da, .string oa] 58)) 58 #[.bool vb, .slice B ms.length cb, .string db, .string ob]
    rw [World.size_alloc] at this
    exact this
  have p1 := hP.cell 1
  have q1 := hQ.cell 1
  simp at p1 q1
  have HC := Lib.hid (compsCmp_any w.heap.size 1 A B ca cb ns ms W p1 (hA.below hbW) (hB.below hbW) hna.1 hnb.1 (fun n h => by have := hna.2 n h; omega) (fun n h => by have := hnb.2 n h; omega))
  have HW := Lib.hid hW
  obtain ⟨z, hz⟩ : ∃ z, Pl.cmpNums ns ms = z := ⟨_, rfl⟩
  rw [hz] at HC
  have hres : Pl.likeOrd ns ms da.data.toList db.data.toList = if z ≠ 0 then z else Pl.builds da.data.toList db.data.toList := by rw [Pl.likeOrd, hz]
  have HR := Lib.hid hres
  clear hW hz hres hA hB hna hnb
  by_cases hz0 : z = 0
  · have hz1 : (z != 0) = false := by simp [hz0]
    rw [if_neg (by simp [hz0])] at HR
    clear hz0
    go_enter Tryz.func89, Tryz.ntmps89
    go_wp2_with fail
    rw [HW.out]
    refine HC.out.mono ?_; rintro e w1 ⟨rfl, hb1⟩
    have hP1 := hP.below hb1 hP.lt
    have hQ1 := hQ.below hb1 hQ.lt
    have p2 := hP1.cell 2
    have q2 := hQ1.cell 2
    simp at p2 q2
    go_wp2_with fail
    refine (implBuilds_any da db pe pn pi w1 hda hdb ((hV.below hbW).below hb1) hka hkb).mono ?_; rintro e w2 ⟨rfl, hb2⟩
    go_wp2
    go_ret
    exact ⟨ret_int HR.out.symm, hbW.trans ((hb1.mono hbW.size).trans (hb2.mono (Nat.le_trans hbW.size hb1.size)))⟩
  · have hz1 : (z != 0) = true := by simpa using hz0
    rw [if_pos hz0] at HR
    clear hz0
    go_enter Tryz.func89, Tryz.ntmps89
    go_wp2_with fail
    rw [HW.out]
    refine HC.out.mono ?_; rintro e w1 ⟨rfl, hb1⟩
    go_wp2
    go_ret
    exact ⟨ret_int HR.out.symm, hbW.trans (hb1.mono hbW.size)⟩

theorem OwnBigs.far58 {w : World} {base g i : Nat} {t : TypeId} {cs : Array Value} {v u : Value} {ns : List Nat} (h : OwnBigs w base v ns) (hb : Blk w g t cs) (h1 : (123 : TypeId) ≠ t) (h2 : t ≠ 128) (h3 : (179 : TypeId) ≠ t) : OwnBigs (w.setCell ⟨g, i, none⟩ u) base v ns := by
  obtain ⟨Zs, z1, z2, z3⟩ := h
  refine ⟨Zs, z1, own_far z2 (own_blk_ne z2 hb h1) _, fun k hk hk' => ?_⟩
  obtain ⟨B, x, hx, hn⟩ := z3 k hk hk'
  exact ⟨B, x, hx.far (Blk.ne_ hx hb (Ne.symm h2)) _, own_far hn (own_blk_ne hn hb h3) _⟩
/-- four stores into a block of another kind -/
theorem OwnBigs.fourT {w : World} {base g : Nat} {t : TypeId} {cs : Array Value} {v a b c d : Value} {ns : List Nat} (h : OwnBigs w base v ns) (hb : Blk w g t cs) (h1 : (123 : TypeId) ≠ t) (h2 : t ≠ 128) (h3 : (179 : TypeId) ≠ t) :
    OwnBigs ((((w.setCell ⟨g, 0, none⟩ a).setCell ⟨g, 1, none⟩ b).setCell ⟨g, 2, none⟩ c).setCell ⟨g, 3, none⟩ d) base v ns :=
  (((h.far58 hb h1 h2 h3).far58 (hb.set_ _ _) h1 h2 h3).far58 ((hb.set_ _ _).set_ _ _) h1 h2 h3).far58 (((hb.set_ _ _).set_ _ _).set_ _ _) h1 h2 h3
theorem OwnBigs.drewN {w : World} {base : Nat} {v : Value} {ns : List Nat} (h : OwnBigs w base v ns) (q : Nat) : OwnBigs (w.drewN q) base v ns := h
/-- a text, parsed -/
def TextBack (w : World) (s : ByteArray) : Ending → World → Prop := VersBack w (Pl.startsV s.data.toList) (Pl.numsOf s.data.toList) ⟨(Pl.buildOf s.data.toList).toArray⟩ s
theorem textBack_of {w w' : World} {s : ByteArray} {e : Ending} (h : ParseBack w s e w') : TextBack w s e w' := h
set_option maxRecDepth 100000 in
theorem ParseSemver_any (s : ByteArray) (pe pn pi : Addr) (w : World) (hs : s.size ≤ 30000) (hV : PkgVars w pe pn pi) (hasc : Pl.ascii s.data.toList = true) (hm : ((Pl.numsOf s.data.toList).length : Int) ≤ 3) :
    Calls Tryz.prog 57 #[.string s] w (TextBack w s) := by
  obtain ⟨W, hW⟩ : ∃ W, w.alloc (.cells #[.bool false, .slice none 0 0, .string ⟨#[]⟩, .string ⟨#[]⟩] 58) = W := ⟨_, rfl⟩
  have hbW : Below w.heap.size w W := by rw [← hW]; exact (Below.refl _ _).alloc (Nat.le_refl _) _
  have hRW : Blk W w.heap.size 58 #[.bool false, .slice none 0 0, .string ⟨#[]⟩, .string ⟨#[]⟩] := by rw [← hW]; exact Blk.new _ _ _
  have HC := Lib.hid (parseVersion_any s 3 pe pn pi W hs (hV.below hbW) hasc hm)
  have HW := Lib.hid hW
  clear hW
  go_enter Tryz.func57, Tryz.ntmps57
  go_wp2_with fail
  rw [HW.out]
  refine HC.out.mono ?_; rintro e w1 ⟨A, c, rfl, hob, hb1⟩
  have hR1 := hRW.below hb1 hRW.lt
  have d0 := hR1.cell 0
  have d1 := hR1.cell 1
  have d2 := hR1.cell 2
  have d3 := hR1.cell 3
  have e0 := hR1.frozen 0
  have e1 := hR1.frozen 1
  have e2 := hR1.frozen 2
  have e3 := hR1.frozen 3
  simp at d0 d1 d2 d3
  go_wp2
  refine bodyPost_ret (v := .agg #[.bool (Pl.startsV s.data.toList), .slice A (Pl.numsOf s.data.toList).length c, S (Pl.buildOf s.data.toList), .string s]) (by simp [results, Tryz.results57, go_sem, d0, d1, d2, d3]) rfl ⟨A, c, rfl, ?_, ?_⟩
  · exact OwnBigs.fourT (OwnBigs.lower hob hbW.size) hR1 (by decide) (by decide) (by decide)
  · have hb := hbW.trans (hb1.mono hbW.size)
    exact (((hb.setCell (Nat.le_refl _) _).setCell (Nat.le_refl _) _).setCell (Nat.le_refl _) _).setCell (Nat.le_refl _) _
end Go.Proofs.YtgfkdjmoflbmdaaGreatDoor

namespace Go.Proofs.YtgfkdjmoflbmdaaGreatDoor
open Go.RowKit
open Go.Proofs

theorem numsOf_mem {l : Pl.Bytes} {n : Nat} (h : n ∈ Pl.numsOf l) : ∃ p : Pl.Bytes, n = Pl.natOf p ∧ p.length ≤ (Pl.coreOf l).length ∧ p.all Pl.isDig = true := by
  rw [Pl.numsOf, List.mem_map] at h
  obtain ⟨p, hp, rfl⟩ := h
  have := Pl.piece_digs l p (List.mem_filter.1 hp).1
  exact ⟨p, rfl, this.1, this.2⟩
theorem restV_len (l : Pl.Bytes) : (Pl.restV l).length ≤ l.length := by
  cases l with
  | nil => exact Nat.le_refl _
  | cons c r => rw [Pl.restV]; split <;> simp
theorem coreOf_len (l : Pl.Bytes) : (Pl.coreOf l).length ≤ l.length :=
  Nat.le_trans (List.IsPrefix.length_le (List.takeWhile_prefix _)) (restV_len l)
theorem buildOf_len (l : Pl.Bytes) : (Pl.buildOf l).length ≤ l.length :=
  Nat.le_trans (List.IsSuffix.length_le (List.dropWhile_suffix _)) (restV_len l)
theorem numsOf_len (l : Pl.Bytes) : (Pl.numsOf l).length ≤ l.length + 1 := by
  rw [Pl.numsOf, List.length_map]
  refine Nat.le_trans (List.length_filter_le _ _) (Nat.le_trans (Pl.splitB_length 46 _) ?_)
  have := coreOf_len l; omega
theorem nums_small {s : ByteArray} (hs : s.size ≤ 30000) : Small (Pl.numsOf s.data.toList) := by
  have h1 := numsOf_len s.data.toList
  rw [len_list] at h1
  refine ⟨by omega, fun n hn => ?_⟩
  obtain ⟨p, rfl, hp, hd⟩ := numsOf_mem hn
  have h2 := coreOf_len s.data.toList
  rw [len_list] at h2
  have := ten_words (Pl.natOf_lt p hd) (by omega)
  omega
/-- a text that is read: ASCII, and what stands behind its numbers is known -/
structure Ready (s : ByteArray) : Prop where
  size : s.size ≤ 30000
  asc : Pl.ascii s.data.toList = true
  known : Pl.buildKnown (Pl.buildOf s.data.toList) = true
theorem Ready.build {s : ByteArray} (h : Ready s) : (⟨(Pl.buildOf s.data.toList).toArray⟩ : ByteArray).size ≤ 30000 := by
  rw [S_size]
  have h1 := buildOf_len s.data.toList
  rw [len_list] at h1
  have := h.size; omega
set_option maxRecDepth 100000 in
set_option maxHeartbeats 1000000 in
theorem CompareStr_any (va : Bool) (A : Option Addr) (ca : Nat) (ns : List Nat) (da oa s : ByteArray) (pe pn pi : Addr) (w : World) (hA : Bigs w A ns) (hna : Small ns)
    (hda : da.size ≤ 30000) (hV : PkgVars w pe pn pi) (hka : Pl.buildKnown da.data.toList = true) (hs : Ready s) (hm : ((Pl.numsOf s.data.toList).length : Int) ≤ 3) :
    Calls Tryz.prog 58 #[VV va A ns.length ca da oa, .string s] w fun e w' => e = .returned (.tuple #[.int .i64 (Pl.likeOrd ns (Pl.numsOf s.data.toList) da.data.toList (Pl.buildOf s.data.toList)), .nilIface]) ∧ Below w.heap.size w w' := by
  obtain ⟨W, hW⟩ : ∃ W, w.alloc (.cells #[.bool va, .slice A ns.length ca, .string da, .string oa] 58) = W := ⟨_, rfl⟩
  have hbW : Below w.heap.size w W := by rw [← hW]; exact (Below.refl _ _).alloc (Nat.le_refl _) _
  have hP : Blk W w.heap.size 58 #[.bool va, .slice A ns.length ca, .string da, .string oa] := by rw [← hW]; exact Blk.new _ _ _
  have hPd : Blk W.drew w.heap.size 58 #[.bool va, .slice A ns.length ca, .string da, .string oa] := hP
  have hbWd : Below w.heap.size w W.drew := hbW.drew
  have HPS := Lib.hid (ParseSemver_any s pe pn pi W.drew hs.size (hV.below hbWd) hs.asc hm)
  have p0 := hP.cell 0
  have p1 := hP.cell 1
  have p2 := hP.cell 2
  have p3 := hP.cell 3
  simp at p0 p1 p2 p3
  have HC := Lib.hid (fun (w1 : World) (h : Below W.drew.heap.size W.drew w1) B c (hB : Bigs w1 B (Pl.numsOf s.data.toList)) => compare_any va (Pl.startsV s.data.toList) A B ca c ns (Pl.numsOf s.data.toList) da ⟨(Pl.buildOf s.data.toList).toArray⟩ oa s pe pn pi w1
    ((hA.below hbWd).below h) hB hna (nums_small hs.size) hda hs.build ((hV.below hbWd).below h) hka hs.known)
  have HW := Lib.hid hW
  obtain ⟨R, hR⟩ : ∃ R, Pl.likeOrd ns (Pl.numsOf s.data.toList) da.data.toList (Pl.buildOf s.data.toList) = R := ⟨_, rfl⟩
  rw [hR] at HC ⊢
  clear hW hA hna hka hs hm hR
  go_enter Tryz.func58, Tryz.ntmps58
  go_wp2_with fail
  rw [HW.out]
  go_region_with (first
    | (go_at_call 57; refine HPS.out.mono ?_; rintro e w1 ⟨B, c, rfl, hob, hb1⟩; have hP1 := hPd.below hb1 hPd.lt; have q0 := hP1.cell 0; have q1 := hP1.cell 1; have q2 := hP1.cell 2; have q3 := hP1.cell 3; simp at q0 q1 q2 q3)
    | (go_at_call 89; refine (HC.out w1 hb1 B c hob.bigs).mono ?_; rintro e w2 ⟨rfl, hb2⟩))
  all_goals go_wp2_with fail
  all_goals exact bodyPost_ret (v := .tuple #[.int .i64 R, .nilIface]) (by simp [results, Tryz.results58, go_sem]) rfl ⟨rfl, hbWd.trans ((hb1.mono hbWd.size).trans (hb2.mono (Nat.le_trans hbWd.size hb1.size)))⟩
set_option maxRecDepth 100000 in
theorem SemverText_any (a b : ByteArray) (pe pn pi : Addr) (w : World) (hV : PkgVars w pe pn pi) (ha : Ready a) (hb : Ready b) (hma : ((Pl.numsOf a.data.toList).length : Int) ≤ 3) (hmb : ((Pl.numsOf b.data.toList).length : Int) ≤ 3) :
    Calls Tryz.prog 20 #[.string a, .string b] w fun e w' => e = .returned (.tuple #[.int .i64 (Pl.likeOrd (Pl.numsOf a.data.toList) (Pl.numsOf b.data.toList) (Pl.buildOf a.data.toList) (Pl.buildOf b.data.toList)), .bool true]) ∧ Below w.heap.size w w' := by
  have HP := Lib.hid (ParseSemver_any a pe pn pi w ha.size hV ha.asc hma)
  have HC := Lib.hid (fun (w1 : World) (h : Below w.heap.size w w1) A c (hA : Bigs w1 A (Pl.numsOf a.data.toList)) => CompareStr_any (Pl.startsV a.data.toList) A c (Pl.numsOf a.data.toList) ⟨(Pl.buildOf a.data.toList).toArray⟩ a b pe pn pi w1 hA (nums_small ha.size) ha.build (hV.below h) ha.known hb hmb)
  obtain ⟨R, hR⟩ : ∃ R, Pl.likeOrd (Pl.numsOf a.data.toList) (Pl.numsOf b.data.toList) (Pl.buildOf a.data.toList) (Pl.buildOf b.data.toList) = R := ⟨_, rfl⟩
  simp only at HC
  rw [hR] at HC ⊢
  clear hR ha hb hma hmb
  go_enter Tryz.func20, Tryz.ntmps20
  go_wp2_with fail
  refine HP.out.mono ?_; rintro e w1 ⟨A, c, rfl, hob, hb1⟩
  go_wp2_with fail
  refine (HC.out w1 hb1 A c hob.bigs).mono ?_; rintro e w2 ⟨rfl, hb2⟩
  go_wp2_with fail
  go_quiet (fail)
  go_wp2
  exact bodyPost_ret (v := .tuple #[.int .i64 R, .bool true]) (by simp [results, Tryz.results20, go_sem]) rfl ⟨rfl, below_drewN (hb1.trans (hb2.mono hb1.size)) _⟩
end Go.Proofs.YtgfkdjmoflbmdaaGreatDoor

namespace Go.Proofs.YtgfkdjmoflbmdaaGreatDoor
open Go.RowKit
open Go.Proofs

theorem tassert58 (v : Value) (w : World) : (Instr.typeAssert (.iface 58 v) 95 58 true).run Tryz.prog w = .ok (.tuple #[v, .bool true]) w := by kernel_rfl
set_option maxRecDepth 100000 in
theorem Compare_any (va vb : Bool) (A B : Option Addr) (ca cb : Nat) (ns ms : List Nat) (da db oa ob : ByteArray) (pe pn pi : Addr) (w : World) (hA : Bigs w A ns) (hB : Bigs w B ms) (hna : Small ns) (hnb : Small ms)
    (hda : da.size ≤ 30000) (hdb : db.size ≤ 30000) (hV : PkgVars w pe pn pi) (hka : Pl.buildKnown da.data.toList = true) (hkb : Pl.buildKnown db.data.toList = true) :
    Calls Tryz.prog 54 #[VV va A ns.length ca da oa, .iface 58 (VV vb B ms.length cb db ob)] w fun e w' => e = .returned (.tuple #[.int .i64 (Pl.likeOrd ns ms da.data.toList db.data.toList), .nilIface]) ∧ Below w.heap.size w w' := by
  obtain ⟨W, hW⟩ : ∃ W, (w.alloc (.cells #[.bool va, .slice A ns.length ca, .string da, .string oa] 58)).alloc (.cells #[.bool vb, .slice B ms.length cb, .string db, .string ob] 58) = W := ⟨_, rfl⟩
  have hbW : Below w.heap.size w W := by rw [← hW]; exact ((Below.refl _ _).alloc (Nat.le_refl _) _).alloc (by simp) _
  have HC := Lib.hid (compare_any va vb A B ca cb ns ms da db oa ob pe pn pi W (hA.below hbW) (hB.below hbW) hna hnb hda hdb (hV.below hbW) hka hkb)
  have HW := Lib.hid hW
  obtain ⟨R, hR⟩ : ∃ R, Pl.likeOrd ns ms da.data.toList db.data.toList = R := ⟨_, rfl⟩
  rw [hR] at HC ⊢
  clear hW hR hA hB hna hnb hka hkb hV
  go_enter Tryz.func54, Tryz.ntmps54
  go_wp2_with fail
  rw [tassert58]
  go_wp2_with fail
  rw [HW.out]
  refine HC.out.mono ?_; rintro e w1 ⟨rfl, hb1⟩
  go_wp2
  exact bodyPost_ret (v := .tuple #[.int .i64 R, .nilIface]) (by simp [results, Tryz.results54, go_sem]) rfl ⟨rfl, hbW.trans (hb1.mono hbW.size)⟩
end Go.Proofs.YtgfkdjmoflbmdaaGreatDoor

namespace Go.Proofs.YtgfkdjmoflbmdaaGreatDoor
open Go.RowKit
open Go.Proofs

set_option maxRecDepth 100000 in
set_option maxHeartbeats 4000000 in
theorem told_any (v : Bool) (A : Option Addr) (c : Nat) (ns : List Nat) (bd og : ByteArray) (w : World) (hB : Bigs w A ns) (hl : ns.length ≤ 40000) (hw : ∀ n ∈ ns, (Pl.digs M n).length ≤ 100000) :
    Calls Tryz.prog 91 #[.agg #[.bool v, .slice A ns.length c, .string bd, .string og]] w (PartsBack 118 w v ns bd og) := by
  obtain ⟨W, hW⟩ : ∃ W, (w.alloc (.cells #[.bool v, .slice A ns.length c, .string bd, .string og] 56)).alloc (.cells #[.bool false, .slice none 0 0, .string ⟨#[]⟩, .string ⟨#[]⟩] 62) = W := ⟨_, rfl⟩
  have hst : TurnSt 56 62 w v A ns.length c bd og W := TurnSt.start hW
  have HC := Lib.hid (fun (w' : World) (h : Below w.heap.size w w') => zzPlains_any A c ns w' (hB.below h) hl hw)
  have HW := Lib.hid hW
  clear hW
  go_enter Tryz.func91, Tryz.ntmps91
  go_wp2_with fail
  rw [HW.out]
  go_region_held3 (fun w' => w'.cell? ⟨w.heap.size, 0, none⟩ = some (.bool v) ∧ w'.cell? ⟨w.heap.size, 1, none⟩ = some (.slice A ns.length c) ∧ w'.cell? ⟨w.heap.size, 2, none⟩ = some (.string bd) ∧ w'.cell? ⟨w.heap.size, 3, none⟩ = some (.string og) ∧ w'.cell? ⟨w.heap.size + 1, 0, none⟩ = some (rcell w' ⟨w.heap.size + 1, 0, none⟩) ∧ w'.cell? ⟨w.heap.size + 1, 1, none⟩ = some (rcell w' ⟨w.heap.size + 1, 1, none⟩) ∧ w'.cell? ⟨w.heap.size + 1, 2, none⟩ = some (rcell w' ⟨w.heap.size + 1, 2, none⟩) ∧ w'.cell? ⟨w.heap.size + 1, 3, none⟩ = some (rcell w' ⟨w.heap.size + 1, 3, none⟩) ∧ w'.frozen? ⟨w.heap.size + 1, 0, none⟩ = false ∧ w'.frozen? ⟨w.heap.size + 1, 1, none⟩ = false ∧ w'.frozen? ⟨w.heap.size + 1, 2, none⟩ = false ∧ w'.frozen? ⟨w.heap.size + 1, 3, none⟩ = false ∧ TurnSt 56 62 w v A ns.length c bd og w')
    (first | with_reducible exact hst.all | with_reducible exact hst.drew.all | with_reducible exact (TurnSt.stored (TurnSt.below (‹_ ∧ _ ∧ _ ∧ _ ∧ _ ∧ _ ∧ _ ∧ _ ∧ _ ∧ _ ∧ _ ∧ _ ∧ TurnSt _ _ _ _ _ _ _ _ _ _›).2.2.2.2.2.2.2.2.2.2.2.2 hb1) _ _ _ _).all | with_reducible exact (TurnSt.below (‹_ ∧ _ ∧ _ ∧ _ ∧ _ ∧ _ ∧ _ ∧ _ ∧ _ ∧ _ ∧ _ ∧ _ ∧ TurnSt _ _ _ _ _ _ _ _ _ _›).2.2.2.2.2.2.2.2.2.2.2.2 hb1).all | with_reducible exact (TurnSt.stored (‹_ ∧ _ ∧ _ ∧ _ ∧ _ ∧ _ ∧ _ ∧ _ ∧ _ ∧ _ ∧ _ ∧ _ ∧ TurnSt _ _ _ _ _ _ _ _ _ _›).2.2.2.2.2.2.2.2.2.2.2.2 _ _ _ _).all)
    (first
      | (go_at_call 109; refine (HC.out _ (‹_ ∧ _ ∧ _ ∧ _ ∧ _ ∧ _ ∧ _ ∧ _ ∧ _ ∧ _ ∧ _ ∧ _ ∧ TurnSt _ _ _ _ _ _ _ _ _ _›).2.2.2.2.2.2.2.2.2.2.2.2.bel).mono ?_; rintro e w1 ⟨A1, c1, rfl, hown, hb1⟩; have hT1 := TurnSt.below (‹_ ∧ _ ∧ _ ∧ _ ∧ _ ∧ _ ∧ _ ∧ _ ∧ _ ∧ _ ∧ _ ∧ _ ∧ TurnSt _ _ _ _ _ _ _ _ _ _›).2.2.2.2.2.2.2.2.2.2.2.2 hb1; have hB0 := (‹_ ∧ _ ∧ _ ∧ _ ∧ _ ∧ _ ∧ _ ∧ _ ∧ _ ∧ _ ∧ _ ∧ _ ∧ TurnSt _ _ _ _ _ _ _ _ _ _›).2.2.2.2.2.2.2.2.2.2.2.2.bel.size))
  obtain ⟨cs, hr1, hr2⟩ := hT1.res
  have r0 := rcell_at hr1 (i := 0) (by omega)
  have r1 := rcell_at hr1 (i := 1) (by omega)
  have r2 := rcell_at hr1 (i := 2) (by omega)
  have r3 := rcell_at hr1 (i := 3) (by omega)
  go_wp2_with fail
  refine bodyPost_ret (v := .agg #[.bool v, .slice A1 ns.length c1, .string bd, .string og]) (by simp [results, Tryz.results91, go_sem, r0, r1, r2, r3]) rfl ⟨A1, c1, rfl, ?_⟩
  exact parts_end (t := 118) hown hr1 (by decide) hB0 (by omega) hT1.bel _ _ _ _

set_option maxRecDepth 100000 in
set_option maxHeartbeats 4000000 in
theorem plainLike_any (v : Bool) (A : Option Addr) (c : Nat) (ns : List Nat) (bd og : ByteArray) (w : World) (hB : Rd w 2 A ns.length (IntC ns)) (hl : ns.length ≤ 40000) :
    Calls Tryz.prog 55 #[.agg #[.bool v, .slice A ns.length c, .string bd, .string og]] w (PartsBack 46 w v ns bd og) := by
  obtain ⟨W, hW⟩ : ∃ W, (w.alloc (.cells #[.bool v, .slice A ns.length c, .string bd, .string og] 62)).alloc (.cells #[.bool false, .slice none 0 0, .string ⟨#[]⟩, .string ⟨#[]⟩] 27) = W := ⟨_, rfl⟩
  have hst : TurnSt 62 27 w v A ns.length c bd og W := TurnSt.start hW
  have HC := Lib.hid (fun (w' : World) (h : Below w.heap.size w w') => plains_any A c ns w' (hB.below h) hl)
  have HW := Lib.hid hW
  clear hW
  go_enter Tryz.func55, Tryz.ntmps55
  go_wp2_with fail
  rw [HW.out]
  go_region_held3 (fun w' => w'.cell? ⟨w.heap.size, 0, none⟩ = some (.bool v) ∧ w'.cell? ⟨w.heap.size, 1, none⟩ = some (.slice A ns.length c) ∧ w'.cell? ⟨w.heap.size, 2, none⟩ = some (.string bd) ∧ w'.cell? ⟨w.heap.size, 3, none⟩ = some (.string og) ∧ w'.cell? ⟨w.heap.size + 1, 0, none⟩ = some (rcell w' ⟨w.heap.size + 1, 0, none⟩) ∧ w'.cell? ⟨w.heap.size + 1, 1, none⟩ = some (rcell w' ⟨w.heap.size + 1, 1, none⟩) ∧ w'.cell? ⟨w.heap.size + 1, 2, none⟩ = some (rcell w' ⟨w.heap.size + 1, 2, none⟩) ∧ w'.cell? ⟨w.heap.size + 1, 3, none⟩ = some (rcell w' ⟨w.heap.size + 1, 3, none⟩) ∧ w'.frozen? ⟨w.heap.size + 1, 0, none⟩ = false ∧ w'.frozen? ⟨w.heap.size + 1, 1, none⟩ = false ∧ w'.frozen? ⟨w.heap.size + 1, 2, none⟩ = false ∧ w'.frozen? ⟨w.heap.size + 1, 3, none⟩ = false ∧ TurnSt 62 27 w v A ns.length c bd og w')
    (first | with_reducible exact hst.all | with_reducible exact hst.drew.all | with_reducible exact (TurnSt.stored (TurnSt.below (‹_ ∧ _ ∧ _ ∧ _ ∧ _ ∧ _ ∧ _ ∧ _ ∧ _ ∧ _ ∧ _ ∧ _ ∧ TurnSt _ _ _ _ _ _ _ _ _ _›).2.2.2.2.2.2.2.2.2.2.2.2 hb1) _ _ _ _).all | with_reducible exact (TurnSt.below (‹_ ∧ _ ∧ _ ∧ _ ∧ _ ∧ _ ∧ _ ∧ _ ∧ _ ∧ _ ∧ _ ∧ _ ∧ TurnSt _ _ _ _ _ _ _ _ _ _›).2.2.2.2.2.2.2.2.2.2.2.2 hb1).all | with_reducible exact (TurnSt.stored (‹_ ∧ _ ∧ _ ∧ _ ∧ _ ∧ _ ∧ _ ∧ _ ∧ _ ∧ _ ∧ _ ∧ _ ∧ TurnSt _ _ _ _ _ _ _ _ _ _›).2.2.2.2.2.2.2.2.2.2.2.2 _ _ _ _).all)
    (first
      | (go_at_call 90; refine (HC.out _ (‹_ ∧ _ ∧ _ ∧ _ ∧ _ ∧ _ ∧ _ ∧ _ ∧ _ ∧ _ ∧ _ ∧ _ ∧ TurnSt _ _ _ _ _ _ _ _ _ _›).2.2.2.2.2.2.2.2.2.2.2.2.bel).mono ?_; rintro e w1 ⟨A1, c1, rfl, hown, hb1⟩; have hT1 := TurnSt.below (‹_ ∧ _ ∧ _ ∧ _ ∧ _ ∧ _ ∧ _ ∧ _ ∧ _ ∧ _ ∧ _ ∧ _ ∧ TurnSt _ _ _ _ _ _ _ _ _ _›).2.2.2.2.2.2.2.2.2.2.2.2 hb1; have hB0 := (‹_ ∧ _ ∧ _ ∧ _ ∧ _ ∧ _ ∧ _ ∧ _ ∧ _ ∧ _ ∧ _ ∧ _ ∧ TurnSt _ _ _ _ _ _ _ _ _ _›).2.2.2.2.2.2.2.2.2.2.2.2.bel.size))
  obtain ⟨cs, hr1, hr2⟩ := hT1.res
  have r0 := rcell_at hr1 (i := 0) (by omega)
  have r1 := rcell_at hr1 (i := 1) (by omega)
  have r2 := rcell_at hr1 (i := 2) (by omega)
  have r3 := rcell_at hr1 (i := 3) (by omega)
  go_wp2_with fail
  refine bodyPost_ret (v := .agg #[.bool v, .slice A1 ns.length c1, .string bd, .string og]) (by simp [results, Tryz.results55, go_sem, r0, r1, r2, r3]) rfl ⟨A1, c1, rfl, ?_⟩
  exact parts_end (t := 46) hown hr1 (by decide) hB0 (by omega) hT1.bel _ _ _ _
end Go.Proofs.YtgfkdjmoflbmdaaGreatDoor

namespace Go.Proofs.YtgfkdjmoflbmdaaGreatDoor
open Go.RowKit
open Go.Proofs

theorem nums_fits {s : ByteArray} (hs : s.size ≤ 15000) : Pl.Fits (Pl.numsOf s.data.toList) := by
  have h1 := numsOf_len s.data.toList
  rw [len_list] at h1
  refine ⟨by omega, fun n hn => ?_⟩
  obtain ⟨p, rfl, hp, hd⟩ := numsOf_mem hn
  have h2 := coreOf_len s.data.toList
  rw [len_list] at h2
  have h3 := Pl.natOf_lt p hd
  have h4 := Pl.pow10_lt p.length
  have := Pl.magOf_len (Pl.natOf p) p.length (by omega)
  omega
theorem own_fourT {w : World} {base g n : Nat} {e t : TypeId} {size : Nat} {cs : Array Value} {v a b c d : Value} {xs : List Value} (h : w.ownsRow base e size v n xs) (hb : Blk w g t cs) (ht : e ≠ t) :
    ((((w.setCell ⟨g, 0, none⟩ a).setCell ⟨g, 1, none⟩ b).setCell ⟨g, 2, none⟩ c).setCell ⟨g, 3, none⟩ d).ownsRow base e size v n xs := by
  have hne := own_blk_ne h hb ht
  exact own_far (own_far (own_far (own_far h hne _) hne _) hne _) hne _
theorem below_four {w w1 : World} {B g : Nat} (hb : Below B w w1) (hg : B ≤ g) (a b c d : Value) : Below B w ((((w1.setCell ⟨g, 0, none⟩ a).setCell ⟨g, 1, none⟩ b).setCell ⟨g, 2, none⟩ c).setCell ⟨g, 3, none⟩ d) :=
  (((hb.setCell hg _).setCell hg _).setCell hg _).setCell hg _
set_option maxRecDepth 100000 in
theorem zzLikeParse_any (s : ByteArray) (pe pn pi : Addr) (w : World) (hs : s.size ≤ 30000) (hV : PkgVars w pe pn pi) (hasc : Pl.ascii s.data.toList = true) :
    Calls Tryz.prog 56 #[.string s] w (PartsBack 118 w (Pl.startsV s.data.toList) (Pl.numsOf s.data.toList) ⟨(Pl.buildOf s.data.toList).toArray⟩ s) := by
  obtain ⟨W, hW⟩ : ∃ W, w.alloc (.cells #[.bool false, .slice none 0 0, .string ⟨#[]⟩, .string ⟨#[]⟩] 62) = W := ⟨_, rfl⟩
  have hbW : Below w.heap.size w W := by rw [← hW]; exact (Below.refl _ _).alloc (Nat.le_refl _) _
  have hRW : Blk W w.heap.size 62 #[.bool false, .slice none 0 0, .string ⟨#[]⟩, .string ⟨#[]⟩] := by rw [← hW]; exact Blk.new _ _ _
  have HC := Lib.hid (parse_any s pe pn pi W hs (hV.below hbW) hasc)
  have hsm := nums_small hs
  have HT := Lib.hid (fun (w1 : World) A c (hB : Bigs w1 A (Pl.numsOf s.data.toList)) => told_any (Pl.startsV s.data.toList) A c (Pl.numsOf s.data.toList) ⟨(Pl.buildOf s.data.toList).toArray⟩ s w1 hB hsm.1 hsm.2)
  have HW := Lib.hid hW
  clear hW hsm hV hasc
  go_enter Tryz.func56, Tryz.ntmps56
  go_wp2_with fail
  rw [HW.out]
  refine HC.out.mono ?_; rintro e w1 ⟨A, c, rfl, hob, hb1⟩
  go_wp2_with fail
  refine (HT.out w1 A c hob.bigs).mono ?_; rintro e w2 ⟨A2, c2, rfl, hown, hb2⟩
  have hR2 := (hRW.below hb1 hRW.lt).below hb2 (Nat.lt_of_lt_of_le hRW.lt hb1.size)
  have hbel := hbW.trans ((hb1.mono hbW.size).trans (hb2.mono (Nat.le_trans hbW.size hb1.size)))
  have d0 := hR2.cell 0
  have d1 := hR2.cell 1
  have d2 := hR2.cell 2
  have d3 := hR2.cell 3
  have e0 := hR2.frozen 0
  have e1 := hR2.frozen 1
  have e2 := hR2.frozen 2
  have e3 := hR2.frozen 3
  simp at d0 d1 d2 d3
  go_wp2
  refine bodyPost_ret (v := .agg #[.bool (Pl.startsV s.data.toList), .slice A2 (Pl.numsOf s.data.toList).length c2, S (Pl.buildOf s.data.toList), .string s]) (by simp [results, Tryz.results56, go_sem, d0, d1, d2, d3]) rfl ⟨A2, c2, rfl, ?_, ?_⟩
  · exact own_fourT (own_lower hown (Nat.le_trans hbW.size hb1.size)) hR2 (by decide)
  · exact below_four hbel (Nat.le_refl _) _ _ _ _
set_option maxRecDepth 100000 in
theorem implLikeParse_any (s : ByteArray) (pe pn pi : Addr) (w : World) (hs : s.size ≤ 30000) (hV : PkgVars w pe pn pi) (hasc : Pl.ascii s.data.toList = true) :
    Calls Tryz.prog 19 #[.string s] w (PartsBack 46 w (Pl.startsV s.data.toList) (Pl.numsOf s.data.toList) ⟨(Pl.buildOf s.data.toList).toArray⟩ s) := by
  obtain ⟨W, hW⟩ : ∃ W, w.alloc (.cells #[.bool false, .slice none 0 0, .string ⟨#[]⟩, .string ⟨#[]⟩] 27) = W := ⟨_, rfl⟩
  have hbW : Below w.heap.size w W := by rw [← hW]; exact (Below.refl _ _).alloc (Nat.le_refl _) _
  have hRW : Blk W w.heap.size 27 #[.bool false, .slice none 0 0, .string ⟨#[]⟩, .string ⟨#[]⟩] := by rw [← hW]; exact Blk.new _ _ _
  have HC := Lib.hid (zzLikeParse_any s pe pn pi W hs (hV.below hbW) hasc)
  have hsm := nums_small hs
  have HT := Lib.hid (fun (w1 : World) A c (hB : Rd w1 2 A (Pl.numsOf s.data.toList).length (IntC (Pl.numsOf s.data.toList))) => plainLike_any (Pl.startsV s.data.toList) A c (Pl.numsOf s.data.toList) ⟨(Pl.buildOf s.data.toList).toArray⟩ s w1 hB hsm.1)
  have HW := Lib.hid hW
  clear hW hsm hV hasc
  go_enter Tryz.func19, Tryz.ntmps19
  go_wp2_with fail
  rw [HW.out]
  refine HC.out.mono ?_; rintro e w1 ⟨A, c, rfl, hob, hb1⟩
  go_wp2_with fail
  refine (HT.out w1 A c (Rd.of_own hob)).mono ?_; rintro e w2 ⟨A2, c2, rfl, hown, hb2⟩
  have hR2 := (hRW.below hb1 hRW.lt).below hb2 (Nat.lt_of_lt_of_le hRW.lt hb1.size)
  have hbel := hbW.trans ((hb1.mono hbW.size).trans (hb2.mono (Nat.le_trans hbW.size hb1.size)))
  have d0 := hR2.cell 0
  have d1 := hR2.cell 1
  have d2 := hR2.cell 2
  have d3 := hR2.cell 3
  have e0 := hR2.frozen 0
  have e1 := hR2.frozen 1
  have e2 := hR2.frozen 2
  have e3 := hR2.frozen 3
  simp at d0 d1 d2 d3
  go_wp2
  refine bodyPost_ret (v := .agg #[.bool (Pl.startsV s.data.toList), .slice A2 (Pl.numsOf s.data.toList).length c2, S (Pl.buildOf s.data.toList), .string s]) (by simp [results, Tryz.results19, go_sem, d0, d1, d2, d3]) rfl ⟨A2, c2, rfl, ?_, ?_⟩
  · exact own_fourT (own_lower hown (Nat.le_trans hbW.size hb1.size)) hR2 (by decide)
  · exact below_four hbel (Nat.le_refl _) _ _ _ _
end Go.Proofs.YtgfkdjmoflbmdaaGreatDoor

namespace Go.Proofs.YtgfkdjmoflbmdaaGreatDoor
open Go.RowKit
open Go.Proofs

set_option maxRecDepth 100000 in
theorem ZZSemver_any (v : Bool) (A : Option Addr) (c : Nat) (ns : List Nat) (bd og : ByteArray) (w : World) (hB : Rd w 2 A ns.length (IntC ns)) (hl : ns.length ≤ 40000) (hw : ∀ n ∈ ns, (Pl.magOf n).length ≤ 30000) :
    Calls Tryz.prog 52 #[.agg #[.bool v, .slice A ns.length c, .string bd, .string og]] w (VersBack w v ns bd og) := by
  obtain ⟨W, hW⟩ : ∃ W, (w.alloc (.cells #[.bool v, .slice A ns.length c, .string bd, .string og] 62)).alloc (.cells #[.bool false, .slice none 0 0, .string ⟨#[]⟩, .string ⟨#[]⟩] 58) = W := ⟨_, rfl⟩
  have hbW : Below w.heap.size w W := by rw [← hW]; exact ((Below.refl _ _).alloc (Nat.le_refl _) _).alloc (by simp) _
  have hP : Blk W w.heap.size 62 #[.bool v, .slice A ns.length c, .string bd, .string og] := by rw [← hW]; exact (Blk.new _ _ _).alloc _
  have hRW : Blk W (w.heap.size + 1) 58 #[.bool false, .slice none 0 0, .string ⟨#[]⟩, .string ⟨#[]⟩] := by
    rw [← hW]
    have := Blk.new (w.alloc (.cells #[.bool v, .slice A ns.length c, .string bd, .string og] 62)) 58 #[.bool false, .slice none 0 0, .string ⟨#[]⟩, .string ⟨#[]⟩]
    rw [World.size_alloc] at this
    exact this
  have p0 := hP.cell 0
  have p1 := hP.cell 1
  have p2 := hP.cell 2
  have p3 := hP.cell 3
  simp at p0 p1 p2 p3
  have HC := Lib.hid (zzLike_any v A c ns bd og W (hB.below hbW) hl hw)
  have HW := Lib.hid hW
  clear hW hB hw
  go_enter Tryz.func52, Tryz.ntmps52
  go_wp2_with fail
  rw [HW.out]
  refine HC.out.mono ?_; rintro e w1 ⟨A1, c1, rfl, hob, hb1⟩
  have hR1 := hRW.below hb1 hRW.lt
  have d0 := hR1.cell 0
  have d1 := hR1.cell 1
  have d2 := hR1.cell 2
  have d3 := hR1.cell 3
  have e0 := hR1.frozen 0
  have e1 := hR1.frozen 1
  have e2 := hR1.frozen 2
  have e3 := hR1.frozen 3
  simp at d0 d1 d2 d3
  go_wp2
  refine bodyPost_ret (v := .agg #[.bool v, .slice A1 ns.length c1, .string bd, .string og]) (by simp [results, Tryz.results52, go_sem, d0, d1, d2, d3]) rfl ⟨A1, c1, rfl, ?_, ?_⟩
  · exact OwnBigs.fourT (OwnBigs.lower hob hbW.size) hR1 (by decide) (by decide) (by decide)
  · exact below_four (hbW.trans (hb1.mono hbW.size)) (by omega) _ _ _ _
/-- a version of the thin package as it came, for the compare -/
structure LikeIn (w : World) (A : Option Addr) (ns : List Nat) (bd : ByteArray) : Prop where
  rd : Rd w 2 A ns.length (IntC ns)
  fits : Pl.Fits ns
  small : Small ns
  size : bd.size ≤ 30000
  known : Pl.buildKnown bd.data.toList = true
theorem LikeIn.below {w w' : World} {A : Option Addr} {ns : List Nat} {bd : ByteArray} (h : LikeIn w A ns bd) (hb : Below w.heap.size w w') : LikeIn w' A ns bd := ⟨h.rd.below hb, h.fits, h.small, h.size, h.known⟩
set_option maxRecDepth 100000 in
set_option maxHeartbeats 2000000 in
theorem implSemver_any (va vb : Bool) (A B : Option Addr) (ca cb : Nat) (ns ms : List Nat) (da db oa ob : ByteArray) (pe pn pi : Addr) (w : World) (hA : LikeIn w A ns da) (hB : LikeIn w B ms db) (hV : PkgVars w pe pn pi) :
    Calls Tryz.prog 18 #[VV va A ns.length ca da oa, VV vb B ms.length cb db ob] w fun e w' => e = .returned (.tuple #[.int .i64 (Pl.likeOrd ns ms da.data.toList db.data.toList), .bool true]) ∧ Below w.heap.size w w' := by
  obtain ⟨W, hW⟩ : ∃ W, (w.alloc (.cells #[.bool va, .slice A ns.length ca, .string da, .string oa] 27)).alloc (.cells #[.bool vb, .slice B ms.length cb, .string db, .string ob] 27) = W := ⟨_, rfl⟩
  have hbW : Below w.heap.size w W := by rw [← hW]; exact ((Below.refl _ _).alloc (Nat.le_refl _) _).alloc (by simp) _
  have hP : Blk W w.heap.size 27 #[.bool va, .slice A ns.length ca, .string da, .string oa] := by rw [← hW]; exact (Blk.new _ _ _).alloc _
  have hQ : Blk W (w.heap.size + 1) 27 #[.bool vb, .slice B ms.length cb, .string db, .string ob] := by
    rw [← hW]
    have := Blk.new (w.alloc (.cells #[.bool va, .slice A ns.length ca, .string da, .string oa] 27)) 27 #[.bool vb, .slice B ms.length cb, .string db, .string ob]
    rw [World.size_alloc] at this
    exact this
  have p0 := hP.cell 0
  have p1 := hP.cell 1
  have p2 := hP.cell 2
  have p3 := hP.cell 3
  have q0 := hQ.cell 0
  have q1 := hQ.cell 1
  have q2 := hQ.cell 2
  have q3 := hQ.cell 3
  simp at p0 p1 p2 p3 q0 q1 q2 q3
  have hQd : Blk W.drew (w.heap.size + 1) 27 #[.bool vb, .slice B ms.length cb, .string db, .string ob] := hQ
  have hbWd : Below w.heap.size w W.drew := hbW.drew
  have hAd := hA.below hbWd
  have hBd := hB.below hbWd
  have hVd := hV.below hbWd
  have H1 := Lib.hid (implLike_any va A ca ns da oa W.drew hAd.rd hAd.small.1)
  have H2 := Lib.hid (fun (w1 : World) A1 c1 (h : Rd w1 2 A1 ns.length (IntC ns)) => ZZSemver_any va A1 c1 ns da oa w1 h hAd.small.1 hAd.fits.2)
  have H3 := Lib.hid (fun (w2 : World) (h : Below W.drew.heap.size W.drew w2) => implLike_any vb B cb ms db ob w2 (hBd.rd.below h) hBd.small.1)
  have H4 := Lib.hid (fun (w3 : World) B1 c1 (h : Rd w3 2 B1 ms.length (IntC ms)) => ZZSemver_any vb B1 c1 ms db ob w3 h hBd.small.1 hBd.fits.2)
  have H5 := Lib.hid (fun (w4 : World) (h : Below W.drew.heap.size W.drew w4) A2 c2 B2 d2 (ha : Bigs w4 A2 ns) (hb : Bigs w4 B2 ms) => Compare_any va vb A2 B2 c2 d2 ns ms da db oa ob pe pn pi w4 ha hb hAd.small hBd.small hAd.size hBd.size (hVd.below h) hAd.known hBd.known)
  have HW := Lib.hid hW
  obtain ⟨R, hR⟩ : ∃ R, Pl.likeOrd ns ms da.data.toList db.data.toList = R := ⟨_, rfl⟩
  rw [hR] at H5 ⊢
  clear hW hA hB hV hR hAd hBd hVd
  go_enter Tryz.func18, Tryz.ntmps18
  go_wp2_with fail
  rw [HW.out]
  go_region_with (first
    | (go_at_call_of 53 (Value.agg #[Value.bool va, Value.slice A ns.length ca, Value.string da, Value.string oa]); refine H1.out.mono ?_; rintro e w1 ⟨A1, c1, rfl, hown1, hb1⟩; have hQ1 := hQd.below hb1 hQd.lt; have q10 := hQ1.cell 0; have q11 := hQ1.cell 1; have q12 := hQ1.cell 2; have q13 := hQ1.cell 3; simp at q10 q11 q12 q13)
    | (go_at_call_of 52 (Value.agg #[Value.bool va, Value.slice A1 ns.length c1, Value.string da, Value.string oa]); refine (H2.out w1 A1 c1 (Rd.of_own hown1)).mono ?_; rintro e w2 ⟨A2, c2, rfl, hob2, hb2⟩; have hQ2 := hQ1.below hb2 hQ1.lt; have q20 := hQ2.cell 0; have q21 := hQ2.cell 1; have q22 := hQ2.cell 2; have q23 := hQ2.cell 3; simp at q20 q21 q22 q23; have hbb2 := hb1.trans (hb2.mono hb1.size))
    | (go_at_call_of 53 (Value.agg #[Value.bool vb, Value.slice B ms.length cb, Value.string db, Value.string ob]); refine (H3.out w2 hbb2).mono ?_; rintro e w3 ⟨B1, d1, rfl, hown3, hb3⟩; have hbb3 := hbb2.trans (hb3.mono hbb2.size))
    | (go_at_call_of 52 (Value.agg #[Value.bool vb, Value.slice B1 ms.length d1, Value.string db, Value.string ob]); refine (H4.out w3 B1 d1 (Rd.of_own hown3)).mono ?_; rintro e w4 ⟨B2, d2, rfl, hob4, hb4⟩; have hbb4 := hbb3.trans (hb4.mono hbb3.size); have hob24 := (hob2.below hb3).below hb4)
    | (go_at_call 54; refine (H5.out w4 hbb4 A2 c2 B2 d2 hob24.bigs hob4.bigs).mono ?_; rintro e w5 ⟨rfl, hb5⟩))
  all_goals go_wp2_with fail
  all_goals go_quiet (fail)
  all_goals go_wp2
  all_goals exact bodyPost_ret (v := .tuple #[.int .i64 R, .bool true]) (by simp [results, Tryz.results18, go_sem]) rfl ⟨rfl, below_drewN (hbWd.trans ((hbb4.trans (hb5.mono hbb4.size)).mono hbWd.size)) _⟩
end Go.Proofs.YtgfkdjmoflbmdaaGreatDoor
