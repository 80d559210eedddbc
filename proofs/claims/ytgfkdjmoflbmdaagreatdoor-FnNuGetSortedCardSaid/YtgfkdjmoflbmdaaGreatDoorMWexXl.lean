/- Contract: spec.CompareNumbers. Contracts: likeOrder, SemverCompare. Contracts: short, numbers. Contracts: LikeOK, FewNumbers. Contract: likes. Contracts: zzPlains, told, ZZLikeParse, plains, plainLike, LikeParse (the thin package's). -/
import Derived.Test.YtgfkdjmoflbmdaaGreatDoorMWdxWg
import Derived.Test.YtgfkdjmoflbmdaaGreatDoorMWbxWf
import Derived.Test.YtgfkdjmoflbmdaaGreatDoorMXhxWc
import Derived.Deep.RegionHeld3
namespace Go.Proofs.YtgfkdjmoflbmdaaGreatDoor
open Go.RowKit
open Go.Proofs

theorem NoZ_nil : NoZ ⟨#[]⟩ := fun h => absurd h (by decide)

set_option maxHeartbeats 2000000 in
theorem CompareNumbers_any (A B : Option Addr) (ca cb : Nat) (xs ys : List Nat) (w : World) (hra : Rd w 2 A xs.length (IntC xs)) (hrb : Rd w 2 B ys.length (IntC ys))
    (hla : xs.length ≤ 30000) (hlb : ys.length ≤ 30000) (hma : ∀ n ∈ xs, (Pl.magOf n).length ≤ 30000) (hmb : ∀ n ∈ ys, (Pl.magOf n).length ≤ 30000) :
    Calls Tryz.prog 85 #[.slice A xs.length ca, .slice B ys.length cb] w fun e w' => e = .returned (.int .i64 (Pl.cmpNums xs ys)) ∧ Below w.heap.size w w' := by
  have HMA := Lib.hid hma
  have HMB := Lib.hid hmb
  clear hma hmb
  go_enter Tryz.func85, Tryz.ntmps85
  go_wp2
  go_loopw [5] (fun i wr => ∃ k : Nat, k ≤ xs.length + ys.length ∧ i = .int .i64 k ∧ Pl.cmpNums (xs.drop k) (ys.drop k) = Pl.cmpNums xs ys ∧ Below w.heap.size w wr) (fun i _ => xs.length + ys.length - (intOf i).toNat)
  case atStart => exact ⟨0, Nat.zero_le _, rfl, rfl, Below.refl _ _⟩
  case round =>
    obtain ⟨k, hk, rfl, hcmp, hbel⟩ := hrel
    have HC := Lib.hid hcmp
    clear hcmp
    by_cases hend : xs.length ≤ k ∧ ys.length ≤ k
    · obtain ⟨h1, h2⟩ := hend
      go_wp2
      go_ret
      exact ⟨ret_int (by rw [← HC.out, Pl.cmpNums_end _ _ _ h1 h2]), hbel⟩
    · have hstep := Pl.cmpNums_step xs ys k (by omega)
      have HS := Lib.hid hstep
      clear hstep
      have hra2 := hra.below hbel
      have hrb2 := hrb.below hbel
      by_cases ha : k < xs.length
      · obtain ⟨b1, o1, rfl, hc0, hc1⟩ := hra2.int_at ha
        have hx : xs.getD k 0 = xs[k] := by simp [ha]
        have hmx := HMA.out xs[k] (List.getElem_mem ha)
        obtain ⟨x, hxe⟩ : ∃ x, xs[k] = x := ⟨_, rfl⟩
        rw [hxe] at hc1 hx hmx
        have HX := Lib.hid hx
        clear hx hxe
        obtain ⟨l1, l2, l3, l4⟩ := cell_lts hc0
        by_cases hb : k < ys.length
        · obtain ⟨b2, o2, rfl, hd0, hd1⟩ := hrb2.int_at hb
          have hy : ys.getD k 0 = ys[k] := by simp [hb]
          have hmy := HMB.out ys[k] (List.getElem_mem hb)
          obtain ⟨y, hye⟩ : ∃ y, ys[k] = y := ⟨_, rfl⟩
          rw [hye] at hd1 hy hmy
          have HY := Lib.hid hy
          clear hy hye
          obtain ⟨m1, m2, m3, m4⟩ := cell_lts hd0
          obtain ⟨z, hz⟩ : ∃ z, Pl.ordMag (Pl.magOf x) (Pl.magOf y) = z := ⟨_, rfl⟩
          have HZ := Lib.hid (show z = Pl.cmpN (xs.getD k 0) (ys.getD k 0) from by rw [← hz, HX.out, HY.out, Pl.ordMag_mag])
          by_cases hz0 : z = 0
          · have hz1 : (z != 0) = false := by simp [hz0]
            have HZ0 := Lib.hid hz0
            clear hz0
            go_wp2_with (go_at_call 104; refine (intOrder_any ⟨(Pl.magOf x).toArray⟩ ⟨(Pl.magOf y).toArray⟩ _ hmx hmy (NoZ_mag _) (NoZ_mag _)).mono ?_; rintro e w1 ⟨rfl, hb1⟩)
            go_roundw
            case rel => exact ⟨k + 1, by omega, by go_num, by rw [← HC.out, HS.out, if_neg (by rw [← HZ.out, HZ0.out]; simp)], hbel.trans (((Below.refl w.heap.size _).alloc hbel.size _ |>.alloc (by simp; have := hbel.size; omega) _).trans (hb1.mono (by simp; have := hbel.size; omega)))⟩
            case measure => simp [intOf]; omega
          · have hz1 : (z != 0) = true := by simpa using hz0
            have HZ0 := Lib.hid hz0
            clear hz0
            go_wp2_with (go_at_call 104; refine (intOrder_any ⟨(Pl.magOf x).toArray⟩ ⟨(Pl.magOf y).toArray⟩ _ hmx hmy (NoZ_mag _) (NoZ_mag _)).mono ?_; rintro e w1 ⟨rfl, hb1⟩)
            go_ret
            exact ⟨ret_int (by rw [← HC.out, HS.out, if_pos (by rw [← HZ.out]; exact HZ0.out), ← HZ.out]), hbel.trans (((Below.refl w.heap.size _).alloc hbel.size _ |>.alloc (by simp; have := hbel.size; omega) _).trans (hb1.mono (by simp; have := hbel.size; omega)))⟩
        · have HY := Lib.hid (show ys.getD k 0 = 0 from by simp [hb])
          obtain ⟨z, hz⟩ : ∃ z, Pl.ordMag (Pl.magOf x) ([]) = z := ⟨_, rfl⟩
          have HZ := Lib.hid (show z = Pl.cmpN (xs.getD k 0) (ys.getD k 0) from by rw [← hz, HX.out, HY.out, ← Pl.magOf_zero, Pl.ordMag_mag])
          by_cases hz0 : z = 0
          · have hz1 : (z != 0) = false := by simp [hz0]
            have HZ0 := Lib.hid hz0
            clear hz0
            go_wp2_with (go_at_call 104; refine (intOrder_any ⟨(Pl.magOf x).toArray⟩ ⟨#[]⟩ _ hmx (by decide) (NoZ_mag _) NoZ_nil).mono ?_; rintro e w1 ⟨rfl, hb1⟩)
            go_roundw
            case rel => exact ⟨k + 1, by omega, by go_num, by rw [← HC.out, HS.out, if_neg (by rw [← HZ.out, HZ0.out]; simp)], hbel.trans (((Below.refl w.heap.size _).alloc hbel.size _ |>.alloc (by simp; have := hbel.size; omega) _).trans (hb1.mono (by simp; have := hbel.size; omega)))⟩
            case measure => simp [intOf]; omega
          · have hz1 : (z != 0) = true := by simpa using hz0
            have HZ0 := Lib.hid hz0
            clear hz0
            go_wp2_with (go_at_call 104; refine (intOrder_any ⟨(Pl.magOf x).toArray⟩ ⟨#[]⟩ _ hmx (by decide) (NoZ_mag _) NoZ_nil).mono ?_; rintro e w1 ⟨rfl, hb1⟩)
            go_ret
            exact ⟨ret_int (by rw [← HC.out, HS.out, if_pos (by rw [← HZ.out]; exact HZ0.out), ← HZ.out]), hbel.trans (((Below.refl w.heap.size _).alloc hbel.size _ |>.alloc (by simp; have := hbel.size; omega) _).trans (hb1.mono (by simp; have := hbel.size; omega)))⟩
      · have hb : k < ys.length := by omega
        obtain ⟨b2, o2, rfl, hd0, hd1⟩ := hrb2.int_at hb
        have hy : ys.getD k 0 = ys[k] := by simp [hb]
        have hmy := HMB.out ys[k] (List.getElem_mem hb)
        obtain ⟨y, hye⟩ : ∃ y, ys[k] = y := ⟨_, rfl⟩
        rw [hye] at hd1 hy hmy
        have HY := Lib.hid hy
        clear hy hye
        obtain ⟨m1, m2, m3, m4⟩ := cell_lts hd0
        have HX := Lib.hid (show xs.getD k 0 = 0 from by simp [ha])
        obtain ⟨z, hz⟩ : ∃ z, Pl.ordMag ([]) (Pl.magOf y) = z := ⟨_, rfl⟩
        have HZ := Lib.hid (show z = Pl.cmpN (xs.getD k 0) (ys.getD k 0) from by rw [← hz, HX.out, HY.out, ← Pl.magOf_zero, Pl.ordMag_mag])
        by_cases hz0 : z = 0
        · have hz1 : (z != 0) = false := by simp [hz0]
          have HZ0 := Lib.hid hz0
          clear hz0
          go_wp2_with (go_at_call 104; refine (intOrder_any ⟨#[]⟩ ⟨(Pl.magOf y).toArray⟩ _ (by decide) hmy NoZ_nil (NoZ_mag _)).mono ?_; rintro e w1 ⟨rfl, hb1⟩)
          go_roundw
          case rel => exact ⟨k + 1, by omega, by go_num, by rw [← HC.out, HS.out, if_neg (by rw [← HZ.out, HZ0.out]; simp)], hbel.trans (((Below.refl w.heap.size _).alloc hbel.size _ |>.alloc (by simp; have := hbel.size; omega) _).trans (hb1.mono (by simp; have := hbel.size; omega)))⟩
          case measure => simp [intOf]; omega
        · have hz1 : (z != 0) = true := by simpa using hz0
          have HZ0 := Lib.hid hz0
          clear hz0
          go_wp2_with (go_at_call 104; refine (intOrder_any ⟨#[]⟩ ⟨(Pl.magOf y).toArray⟩ _ (by decide) hmy NoZ_nil (NoZ_mag _)).mono ?_; rintro e w1 ⟨rfl, hb1⟩)
          go_ret
          exact ⟨ret_int (by rw [← HC.out, HS.out, if_pos (by rw [← HZ.out]; exact HZ0.out), ← HZ.out]), hbel.trans (((Below.refl w.heap.size _).alloc hbel.size _ |>.alloc (by simp; have := hbel.size; omega) _).trans (hb1.mono (by simp; have := hbel.size; omega)))⟩
end Go.Proofs.YtgfkdjmoflbmdaaGreatDoor

namespace Go.Proofs.YtgfkdjmoflbmdaaGreatDoor
open Go.RowKit
open Go.Proofs
namespace Pl
def likeOrd (ns ms : List Nat) (a b : Bytes) : Int := if cmpNums ns ms ≠ 0 then cmpNums ns ms else builds a b
/-- numbers that are short enough to be looked at -/
def Fits (ns : List Nat) : Prop := ns.length ≤ 30000 ∧ ∀ n ∈ ns, (magOf n).length ≤ 30000
end Pl

theorem likeOrder_any (va vb : Bool) (A B : Option Addr) (ca cb : Nat) (ns ms : List Nat) (da db : ByteArray) (oa ob : ByteArray) (w : World)
    (hra : Rd w 2 A ns.length (IntC ns)) (hrb : Rd w 2 B ms.length (IntC ms)) (hfa : Pl.Fits ns) (hfb : Pl.Fits ms) (hda : da.size ≤ 30000) (hdb : db.size ≤ 30000) :
    Calls Tryz.prog 46 #[.agg #[.bool va, .slice A ns.length ca, .string da, .string oa], .agg #[.bool vb, .slice B ms.length cb, .string db, .string ob]] w fun e w' => e = .returned (.int .i64 (Pl.likeOrd ns ms da.data.toList db.data.toList)) ∧ Below w.heap.size w w' := by
  obtain ⟨f1, f2⟩ := hfa
  obtain ⟨f3, f4⟩ := hfb
  have F2 := Lib.hid f2
  have F4 := Lib.hid f4
  clear f2 f4
  obtain ⟨z, hz⟩ : ∃ z, Pl.cmpNums ns ms = z := ⟨_, rfl⟩
  have HZ := Lib.hid hz
  clear hz
  obtain ⟨W, hW⟩ : ∃ W, (w.alloc (.cells #[.bool va, .slice A ns.length ca, .string da, .string oa] 27)).alloc (.cells #[.bool vb, .slice B ms.length cb, .string db, .string ob] 27) = W := ⟨_, rfl⟩
  have hba : Blk W w.heap.size 27 #[.bool va, .slice A ns.length ca, .string da, .string oa] := by rw [← hW]; exact (Blk.new _ _ _).alloc _
  have hbb : Blk W (w.heap.size + 1) 27 #[.bool vb, .slice B ms.length cb, .string db, .string ob] := by
    rw [← hW]
    have := Blk.new (w.alloc (.cells #[.bool va, .slice A ns.length ca, .string da, .string oa] 27)) 27 #[.bool vb, .slice B ms.length cb, .string db, .string ob]
    rw [World.size_alloc] at this
    exact this
  have hraW : Rd W 2 A ns.length (IntC ns) := by rw [← hW]; exact (hra.alloc _).alloc _
  have hrbW : Rd W 2 B ms.length (IntC ms) := by rw [← hW]; exact (hrb.alloc _).alloc _
  have hbelW : Below w.heap.size w W := by rw [← hW]; go_grown
  have HC := Lib.hid (CompareNumbers_any A B ca cb ns ms W hraW hrbW f1 f3 F2.out F4.out)
  rw [HZ.out] at HC
  have hmeet : ∀ (e : Ending) (w1 : World), (e = .returned (.int .i64 z) ∧ Below W.heap.size W w1) → e = .returned (.int .i64 z) ∧ w1.cell? ⟨w.heap.size, 2, none⟩ = some (.string da) ∧ w1.cell? ⟨w.heap.size + 1, 2, none⟩ = some (.string db) ∧ Below w.heap.size w w1 := by
    rintro e w1 ⟨rfl, hb⟩
    have h1 := (hba.below hb hba.lt).cell 2
    have h2 := (hbb.below hb hbb.lt).cell 2
    exact ⟨rfl, by simpa using h1, by simpa using h2, hbelW.trans (hb.mono hbelW.size)⟩
  have HM := Lib.hid hmeet
  have HW := Lib.hid hW
  clear hW
  clear hmeet hba hbb hraW hrbW hbelW hra hrb
  by_cases hz0 : z = 0
  · have HR : Hid (Pl.likeOrd ns ms da.data.toList db.data.toList = Pl.builds da.data.toList db.data.toList) := Lib.hid (by rw [Pl.likeOrd, HZ.out, if_neg (by simp [hz0])])
    have hz1 : (z != 0) = false := by simp [hz0]
    clear hz0
    go_enter Tryz.func46, Tryz.ntmps46
    go_wp2_with fail
    rw [HW.out]
    refine HC.out.mono ?_; intro e w1 h; obtain ⟨rfl, hc1, hc2, hb1⟩ := HM.out _ _ h
    go_wp2_with fail
    refine (Builds_any da db _ hda hdb).mono ?_; rintro e w2 ⟨rfl, hb2⟩
    go_wp2_with fail
    go_ret
    exact ⟨ret_int HR.out.symm, hb1.trans (hb2.mono hb1.size)⟩
  · have HR : Hid (Pl.likeOrd ns ms da.data.toList db.data.toList = z) := Lib.hid (by rw [Pl.likeOrd, HZ.out, if_pos hz0])
    have hz1 : (z != 0) = true := by simpa using hz0
    clear hz0
    go_enter Tryz.func46, Tryz.ntmps46
    go_wp2_with fail
    rw [HW.out]
    refine HC.out.mono ?_; intro e w1 h; obtain ⟨rfl, hc1, hc2, hb1⟩ := HM.out _ _ h
    go_wp2_with fail
    go_ret
    exact ⟨ret_int HR.out.symm, hb1⟩

theorem SemverCompare_any (va vb : Bool) (A B : Option Addr) (ca cb : Nat) (ns ms : List Nat) (da db : ByteArray) (oa ob : ByteArray) (w : World)
    (hra : Rd w 2 A ns.length (IntC ns)) (hrb : Rd w 2 B ms.length (IntC ms)) (hfa : Pl.Fits ns) (hfb : Pl.Fits ms) (hda : da.size ≤ 30000) (hdb : db.size ≤ 30000) :
    Calls Tryz.prog 15 #[.agg #[.bool va, .slice A ns.length ca, .string da, .string oa], .agg #[.bool vb, .slice B ms.length cb, .string db, .string ob]] w fun e w' => e = .returned (.tuple #[.int .i64 (Pl.likeOrd ns ms da.data.toList db.data.toList), .bool true]) ∧ Below w.heap.size w w' := by
  obtain ⟨W, hW⟩ : ∃ W, (w.alloc (.cells #[.bool va, .slice A ns.length ca, .string da, .string oa] 27)).alloc (.cells #[.bool vb, .slice B ms.length cb, .string db, .string ob] 27) = W := ⟨_, rfl⟩
  have hraW : Rd W 2 A ns.length (IntC ns) := by rw [← hW]; exact (hra.alloc _).alloc _
  have hrbW : Rd W 2 B ms.length (IntC ms) := by rw [← hW]; exact (hrb.alloc _).alloc _
  have hbelW : Below w.heap.size w W := by rw [← hW]; go_grown
  have HC := Lib.hid (likeOrder_any va vb A B ca cb ns ms da db oa ob W hraW hrbW hfa hfb hda hdb)
  have HW := Lib.hid hW
  clear hW
  go_enter Tryz.func15, Tryz.ntmps15
  go_wp2_with fail
  rw [HW.out]
  refine HC.out.mono ?_; rintro e w1 ⟨rfl, hb1⟩
  go_wp2_with fail
  refine bodyPost_ret (v := .tuple #[.int .i64 (Pl.likeOrd ns ms da.data.toList db.data.toList), .bool true]) (by simp [results, Tryz.results15, go_sem]) rfl ⟨rfl, hbelW.trans (hb1.mono hbelW.size)⟩
end Go.Proofs.YtgfkdjmoflbmdaaGreatDoor

namespace Go.Proofs.YtgfkdjmoflbmdaaGreatDoor
open Go.RowKit
open Go.Proofs
namespace Pl
def shortB (xs : List Bytes) : Bool := xs.all (fun x => decide (x.length ≤ 1500)) && decide (xs.length ≤ 150)
theorem shortB_bad {xs : List Bytes} {k : Nat} (h : k < xs.length) (hk : 1500 < xs[k].length) : shortB xs = false := by
  have : xs.all (fun x => decide (x.length ≤ 1500)) = false := by
    rw [List.all_eq_false]
    exact ⟨xs[k], List.getElem_mem _, by simpa using hk⟩
  rw [shortB, this, Bool.false_and]
theorem shortB_good {xs : List Bytes} (h : ∀ x ∈ xs.take xs.length, x.length ≤ 1500) : shortB xs = decide (xs.length ≤ 150) := by
  rw [List.take_length] at h
  have : xs.all (fun x => decide (x.length ≤ 1500)) = true := by
    rw [List.all_eq_true]
    exact fun x hx => by simpa using h x hx
  rw [shortB, this, Bool.true_and]
def numbersB (ns : List Nat) : Bool := ns.all (fun n => decide ((magOf n).length ≤ 1500)) && decide (ns.length ≤ 150)
theorem numbersB_bad {xs : List Nat} {k : Nat} (h : k < xs.length) (hk : 1500 < (magOf xs[k]).length) : numbersB xs = false := by
  have : xs.all (fun x => decide ((magOf x).length ≤ 1500)) = false := by
    rw [List.all_eq_false]
    exact ⟨xs[k], List.getElem_mem _, by simpa using hk⟩
  rw [numbersB, this, Bool.false_and]
theorem numbersB_good {xs : List Nat} (h : ∀ x ∈ xs.take xs.length, (magOf x).length ≤ 1500) : numbersB xs = decide (xs.length ≤ 150) := by
  rw [List.take_length] at h
  have : xs.all (fun x => decide ((magOf x).length ≤ 1500)) = true := by
    rw [List.all_eq_true]
    exact fun x hx => by simpa using h x hx
  rw [numbersB, this, Bool.true_and]
theorem take_all {α : Type} {P : α → Prop} {xs : List α} {k : Nat} (h : ∀ x ∈ xs.take k, P x) (hk : k < xs.length) (hx : P xs[k]) : ∀ x ∈ xs.take (k + 1), P x := by
  intro x hm
  rw [List.take_succ_eq_append_getElem hk, List.mem_append] at hm
  rcases hm with hm | hm
  · exact h x hm
  · rw [List.mem_singleton] at hm; subst hm; exact hx
end Pl

theorem short_any (A : Option Addr) (c : Nat) (xs : List Pl.Bytes) (w : World) (hr : Rd w 1 A xs.length (xs.map S)) (hl : xs.length ≤ 1000000) (hm : ∀ s ∈ xs, s.length ≤ maxLen) :
    Calls Tryz.prog 29 #[.slice A xs.length c] w fun e w' => e = .returned (.bool (Pl.shortB xs)) ∧ w = w' := by
  have HM := Lib.hid hm
  clear hm
  go_enter Tryz.func29, Tryz.ntmps29
  go_wp2
  go_loopw [7] (fun i wr => ∃ k : Nat, k ≤ xs.length ∧ i = .int .i64 k ∧ (∀ x ∈ xs.take k, x.length ≤ 1500) ∧ w = wr) (fun i _ => xs.length - (intOf i).toNat)
  case atStart => exact ⟨0, Nat.zero_le _, rfl, by simp, rfl⟩
  case round =>
    obtain ⟨k, hk, rfl, hgood, rfl⟩ := hrel
    have HG := Lib.hid hgood
    clear hgood
    by_cases ha : k < xs.length
    · obtain ⟨b1, o1, rfl, hc⟩ := hr.str_at ha
      have hxm := HM.out xs[k] (List.getElem_mem ha)
      obtain ⟨x, hx⟩ : ∃ x, xs[k] = x := ⟨_, rfl⟩
      rw [hx] at hc hxm
      have HX := Lib.hid hx
      clear hx
      unfold maxLen at hxm
      by_cases hlen : 1500 < x.length
      · go_wp2
        go_ret
        exact ⟨ret_bool (by rw [Pl.shortB_bad ha (by rw [HX.out]; exact hlen)]), rfl⟩
      · go_wp2
        go_roundw
        case rel => exact ⟨k + 1, by omega, by go_num, Pl.take_all HG.out ha (by rw [HX.out]; omega), trivial⟩
        case measure => simp [intOf]; omega
    · obtain rfl : k = xs.length := by omega
      have hgd := Pl.shortB_good HG.out
      have HGD := Lib.hid hgd
      clear hgd
      by_cases h150 : (xs.length : Int) ≤ 150
      · go_wp2
        go_ret
        exact ⟨ret_bool (by rw [HGD.out]; simp; omega), rfl⟩
      · go_wp2
        go_ret
        exact ⟨ret_bool (by rw [HGD.out]; simp; omega), rfl⟩

set_option maxHeartbeats 1000000 in
theorem numbers_any (A : Option Addr) (c : Nat) (ns : List Nat) (w : World) (hr : Rd w 2 A ns.length (IntC ns)) (hl : ns.length ≤ 1000000) (hm : ∀ n ∈ ns, (Pl.magOf n).length ≤ 30000) :
    Calls Tryz.prog 44 #[.slice A ns.length c] w fun e w' => e = .returned (.bool (Pl.numbersB ns)) ∧ Below w.heap.size w w' := by
  have HM := Lib.hid hm
  clear hm
  go_enter Tryz.func44, Tryz.ntmps44
  go_wp2
  go_loopw [7] (fun i wr => ∃ k : Nat, k ≤ ns.length ∧ i = .int .i64 k ∧ (∀ x ∈ ns.take k, (Pl.magOf x).length ≤ 1500) ∧ Below w.heap.size w wr) (fun i _ => ns.length - (intOf i).toNat)
  case atStart => exact ⟨0, Nat.zero_le _, rfl, by simp, Below.refl _ _⟩
  case round =>
    obtain ⟨k, hk, rfl, hgood, hbel⟩ := hrel
    have HG := Lib.hid hgood
    clear hgood
    by_cases ha : k < ns.length
    · obtain ⟨b1, o1, rfl, hc0, hc1⟩ := (hr.below hbel).int_at ha
      obtain ⟨l1, l2, l3, l4⟩ := cell_lts hc0
      have hxm := HM.out ns[k] (List.getElem_mem ha)
      obtain ⟨x, hx⟩ : ∃ x, Pl.magOf ns[k] = x := ⟨_, rfl⟩
      have hno := NoZ_mag ns[k]
      rw [hx] at hc1 hxm hno
      have HX := Lib.hid hx
      have HNO := Lib.hid hno
      clear hx hno
      have hBlk : Blk (wr.alloc (.cells #[.bool false, S x] 46)) wr.heap.size 46 #[.bool false, S x] := Blk.new _ _ _
      have HB := Lib.hid hBlk
      clear hBlk
      by_cases hlen : 1500 < x.length
      · go_wp2_with fail
        refine (IntOK_any ⟨x.toArray⟩ _ hxm HNO.out).mono ?_; rintro e w1 ⟨rfl, hb1⟩
        have hcx := (HB.out.below hb1 HB.out.lt).cell 1
        simp at hcx
        go_wp2
        go_ret
        exact ⟨ret_bool (by rw [Pl.numbersB_bad ha (by rw [HX.out]; exact hlen)]), (hbel.alloc hbel.size _).trans (hb1.mono (by simp; have := hbel.size; omega))⟩
      · go_wp2_with fail
        refine (IntOK_any ⟨x.toArray⟩ _ hxm HNO.out).mono ?_; rintro e w1 ⟨rfl, hb1⟩
        have hcx := (HB.out.below hb1 HB.out.lt).cell 1
        simp at hcx
        go_wp2
        go_roundw
        case rel => exact ⟨k + 1, by omega, by go_num, Pl.take_all HG.out ha (by rw [HX.out]; omega), (hbel.alloc hbel.size _).trans (hb1.mono (by simp; have := hbel.size; omega))⟩
        case measure => simp [intOf]; omega
    · obtain rfl : k = ns.length := by omega
      have hgd := Pl.numbersB_good HG.out
      have HGD := Lib.hid hgd
      clear hgd
      by_cases h150 : (ns.length : Int) ≤ 150
      · go_wp2
        go_ret
        exact ⟨ret_bool (by rw [HGD.out]; simp; omega), hbel⟩
      · go_wp2
        go_ret
        exact ⟨ret_bool (by rw [HGD.out]; simp; omega), hbel⟩
end Go.Proofs.YtgfkdjmoflbmdaaGreatDoor

namespace Go.Proofs.YtgfkdjmoflbmdaaGreatDoor
open Go.RowKit
open Go.Proofs
namespace Pl
def headOk : Bytes → Bool
  | [] => true
  | c :: _ => !isDig c && !(c == 46)
def likeOK (b : Bytes) : Bool := buildKnown b && headOk b
theorem likeOK_false {b : Bytes} (h : buildKnown b = false) : likeOK b = false := by rw [likeOK, h]; rfl
theorem likeOK_true {b : Bytes} (h : buildKnown b = true) : likeOK b = headOk b := by rw [likeOK, h]; rfl
end Pl
theorem headOk_nil {s : ByteArray} (h : s.toList = []) : Pl.headOk s.data.toList = true := by
  rw [toList_eq] at h
  rw [h]; rfl
theorem headOk_cons {s : ByteArray} (h0 : 0 < s.size) : Pl.headOk s.data.toList = (!Pl.isDig s[0] && !((s[0].toNat : Int) == 46)) := by
  rw [list_cons s h0]
  show (!Pl.isDig s[0] && !(s[0] == 46)) = _
  congr 2
  rw [Bool.eq_iff_iff]
  simp only [beq_iff_eq]
  rw [← UInt8.toNat_inj, show (46 : UInt8).toNat = 46 from rfl]; omega
/-- the block of a version, known below -/
def LBlk (w wx : World) (v : Bool) (A : Option Addr) (ns : List Nat) (c : Nat) (bd og : ByteArray) : Prop :=
  Blk wx w.heap.size 27 #[.bool v, .slice A ns.length c, .string bd, .string og] ∧ Rd wx 2 A ns.length (IntC ns) ∧ Below w.heap.size w wx
theorem LBlk.cells {w wx : World} {v : Bool} {A : Option Addr} {ns : List Nat} {c : Nat} {bd og : ByteArray} (h : LBlk w wx v A ns c bd og) :
    wx.cell? ⟨w.heap.size, 1, none⟩ = some (.slice A ns.length c) ∧ wx.cell? ⟨w.heap.size, 2, none⟩ = some (.string bd) := ⟨by simpa using h.1.cell 1, by simpa using h.1.cell 2⟩
theorem LBlk.below {w wx w1 : World} {v : Bool} {A : Option Addr} {ns : List Nat} {c : Nat} {bd og : ByteArray} (h : LBlk w wx v A ns c bd og) (hb : Below wx.heap.size wx w1) : LBlk w w1 v A ns c bd og :=
  ⟨h.1.below hb h.1.lt, h.2.1.below hb, h.2.2.trans (hb.mono h.2.2.size)⟩

set_option maxHeartbeats 1000000 in
theorem LikeOK_any (v : Bool) (A : Option Addr) (c : Nat) (ns : List Nat) (bd og : ByteArray) (w : World) (hr : Rd w 2 A ns.length (IntC ns)) (hf : Pl.Fits ns) (hbd : bd.size ≤ 30000) :
    Calls Tryz.prog 61 #[.agg #[.bool v, .slice A ns.length c, .string bd, .string og]] w fun e w' => e = .returned (.bool (Pl.likeOK bd.data.toList)) ∧ Below w.heap.size w w' := by
  obtain ⟨f1, f2⟩ := hf
  have F2 := Lib.hid f2
  clear f2
  go_enter Tryz.func61, Tryz.ntmps61
  go_upto_region 1 with fail
  have hL : LBlk w (w.alloc (.cells #[.bool v, .slice A ns.length c, .string bd, .string og] 27)) v A ns c bd og := ⟨Blk.new _ _ _, hr.alloc _, by go_grown⟩
  have HL := Lib.hid hL
  clear hL hr
  generalize w.alloc (.cells #[.bool v, .slice A ns.length c, .string bd, .string og] 27) = W at HL ⊢
  obtain ⟨hw1, hw2⟩ := HL.out.cells
  obtain ⟨l1, l2, l3, l4⟩ := cell_lts hw1
  go_wp2
  go_loop [3] (fun i => ∃ k : Nat, k ≤ ns.length ∧ i = .int .i64 k) (fun i => ns.length - (intOf i).toNat)
  case atStart => exact ⟨0, Nat.zero_le _, rfl⟩
  case round =>
    obtain ⟨k, hk, rfl⟩ := hrel
    by_cases ha : k < ns.length
    · obtain ⟨b1, o1, rfl, hc0, hc1⟩ := (HL.out.2.1).int_at ha
      go_wp2
      go_round
      case rel => exact ⟨k + 1, by omega, by go_num⟩
      case measure => simp [intOf]; omega
    · obtain rfl : k = ns.length := by omega
      have c1 := Lib.hid (IntsOK_any A c ns W HL.out.2.1 f1 F2.out)
      cases hbk : Pl.buildKnown bd.data.toList with
      | false =>
        have HR := Lib.hid (Pl.likeOK_false hbk)
        have HBK := Lib.hid hbk
        clear hbk
        go_wp2_with fail
        refine c1.out.mono ?_; rintro e w1 ⟨rfl, hb1⟩
        obtain ⟨hx1, hx2⟩ := (HL.out.below hb1).cells
        go_wp2_with fail
        refine (BuildKnown_any bd _ hbd).mono ?_; rintro e w2 ⟨rfl, hb2⟩
        rw [HBK.out]
        go_wp2_with fail
        go_ret
        exact ⟨ret_bool HR.out.symm, (HL.out.below hb1).2.2.trans (hb2.mono (HL.out.below hb1).2.2.size)⟩
      | true =>
        have HR := Lib.hid (Pl.likeOK_true hbk)
        have HBK := Lib.hid hbk
        clear hbk
        by_cases he : bd.toList = []
        · have HH := Lib.hid (headOk_nil he)
          go_wp2_with fail
          refine c1.out.mono ?_; rintro e w1 ⟨rfl, hb1⟩
          obtain ⟨hx1, hx2⟩ := (HL.out.below hb1).cells
          go_wp2_with fail
          refine (BuildKnown_any bd _ hbd).mono ?_; rintro e w2 ⟨rfl, hb2⟩
          obtain ⟨hy1, hy2⟩ := ((HL.out.below hb1).below hb2).cells
          rw [HBK.out]
          go_wp2_with fail
          go_ret
          exact ⟨ret_bool (by rw [HR.out, HH.out]), ((HL.out.below hb1).below hb2).2.2⟩
        · have h0 : 0 < bd.size := size_pos_of he
          have HH := Lib.hid (headOk_cons h0)
          have he1 : bd.toList.isEmpty = false := by simpa using he
          clear he
          cases hd : Pl.isDig bd[0] with
          | true =>
            have HD := Lib.hid hd
            clear hd
            go_wp2_with fail
            refine c1.out.mono ?_; rintro e w1 ⟨rfl, hb1⟩
            obtain ⟨hx1, hx2⟩ := (HL.out.below hb1).cells
            go_wp2_with fail
            refine (BuildKnown_any bd _ hbd).mono ?_; rintro e w2 ⟨rfl, hb2⟩
            obtain ⟨hy1, hy2⟩ := ((HL.out.below hb1).below hb2).cells
            rw [HBK.out]
            go_wp2_with (go_at_call 48; refine (isDigit_byte _ _).mono ?_; rintro e w' ⟨rfl, rfl⟩; rw [HD.out])
            go_ret
            exact ⟨ret_bool (by rw [HR.out, HH.out, HD.out]; rfl), ((HL.out.below hb1).below hb2).2.2⟩
          | false =>
            have HD := Lib.hid hd
            clear hd
            cases hp : ((bd[0].toNat : Int) == 46) with
            | true =>
              go_wp2_with fail
              refine c1.out.mono ?_; rintro e w1 ⟨rfl, hb1⟩
              obtain ⟨hx1, hx2⟩ := (HL.out.below hb1).cells
              go_wp2_with fail
              refine (BuildKnown_any bd _ hbd).mono ?_; rintro e w2 ⟨rfl, hb2⟩
              obtain ⟨hy1, hy2⟩ := ((HL.out.below hb1).below hb2).cells
              rw [HBK.out]
              go_wp2_with (go_at_call 48; refine (isDigit_byte _ _).mono ?_; rintro e w' ⟨rfl, rfl⟩; rw [HD.out])
              go_ret
              exact ⟨ret_bool (by rw [HR.out, HH.out, HD.out, hp]; simp [bne, hp]), ((HL.out.below hb1).below hb2).2.2⟩
            | false =>
              go_wp2_with fail
              refine c1.out.mono ?_; rintro e w1 ⟨rfl, hb1⟩
              obtain ⟨hx1, hx2⟩ := (HL.out.below hb1).cells
              go_wp2_with fail
              refine (BuildKnown_any bd _ hbd).mono ?_; rintro e w2 ⟨rfl, hb2⟩
              obtain ⟨hy1, hy2⟩ := ((HL.out.below hb1).below hb2).cells
              rw [HBK.out]
              go_wp2_with (go_at_call 48; refine (isDigit_byte _ _).mono ?_; rintro e w' ⟨rfl, rfl⟩; rw [HD.out])
              go_ret
              exact ⟨ret_bool (by rw [HR.out, HH.out, HD.out, hp]; simp [bne, hp]), ((HL.out.below hb1).below hb2).2.2⟩

theorem fld27_1 (a b c d : Value) (w : World) : (Instr.field 27 (.agg #[a, b, c, d]) 1).run Tryz.prog w = .ok b w := by kernel_rfl
set_option maxRecDepth 100000 in
theorem FewNumbers_any (s : ByteArray) (m : Int) (w : World) (hs : s.size ≤ 30000) :
    Calls Tryz.prog 60 #[.string s, .int .i64 m] w fun e w' => e = .returned (.bool (decide (((Pl.numsOf s.data.toList).length : Int) ≤ m))) ∧ Below w.heap.size w w' := by
  by_cases h : ((Pl.numsOf s.data.toList).length : Int) ≤ m
  all_goals
    go_enter Tryz.func60, Tryz.ntmps60
    go_wp2_with fail
    refine (LikeParse_any s _ hs).mono ?_; rintro e w1 ⟨A, c, rfl, hown, hb⟩
    have hfd : ∀ w, (Instr.field 27 (.agg #[.bool (Pl.startsV s.data.toList), .slice A (Pl.numsOf s.data.toList).length c, S (Pl.buildOf s.data.toList), .string s]) 1).run Tryz.prog w = .ok (.slice A (Pl.numsOf s.data.toList).length c) w := fun w => fld27_1 _ _ _ _ w
    go_wp2_with fail
    go_ret
    exact ⟨ret_bool (by simp [h]), hb⟩

end Go.Proofs.YtgfkdjmoflbmdaaGreatDoor

namespace Go.Proofs.YtgfkdjmoflbmdaaGreatDoor
open Go.RowKit
open Go.Proofs

/-- a version of the thin package, by its parts -/
structure Lk where
  v : Bool
  A : Option Addr
  ns : List Nat
  c : Nat
  bd : ByteArray
  og : ByteArray
def Lk.cells (l : Lk) : List Value := [.bool l.v, .slice l.A l.ns.length l.c, .string l.bd, .string l.og]
def Lk.Ok (w : World) (l : Lk) : Prop := Rd w 2 l.A l.ns.length (IntC l.ns) ∧ Pl.Fits l.ns ∧ l.bd.size ≤ 30000 ∧ l.og.size ≤ 30000
def Lk.test (l : Lk) : Bool := Pl.shortB [l.bd.data.toList, l.og.data.toList] && (Pl.numbersB l.ns && Pl.likeOK l.bd.data.toList)
def LkC (ls : List Lk) : List Value := ls.flatMap Lk.cells
theorem LkC_get (ls : List Lk) : ∀ k (h : k < ls.length), (LkC ls)[k * 4]? = some (.bool ls[k].v) ∧ (LkC ls)[k * 4 + 1]? = some (.slice ls[k].A ls[k].ns.length ls[k].c) ∧ (LkC ls)[k * 4 + 2]? = some (.string ls[k].bd) ∧ (LkC ls)[k * 4 + 3]? = some (.string ls[k].og) := by
  induction ls with
  | nil => intro k h; simp at h
  | cons n r ih =>
    intro k h
    cases k with
    | zero => simp [LkC, Lk.cells]
    | succ k =>
      have := ih k (by simpa using h)
      have e : LkC (n :: r) = .bool n.v :: .slice n.A n.ns.length n.c :: .string n.bd :: .string n.og :: LkC r := by simp [LkC, Lk.cells]
      rw [e, show (k + 1) * 4 = k * 4 + 1 + 1 + 1 + 1 from by omega]
      simpa using this
theorem Rd.like_at {w : World} {A : Option Addr} {ls : List Lk} (h : Rd w 4 A ls.length (LkC ls)) {k : Nat} (hk : k < ls.length) :
    ∃ b o, A = some ⟨b, o, none⟩ ∧ w.cell? ⟨b, o + k * 4, none⟩ = some (.bool ls[k].v) ∧ w.cell? ⟨b, o + k * 4 + 1, none⟩ = some (.slice ls[k].A ls[k].ns.length ls[k].c) ∧ w.cell? ⟨b, o + k * 4 + 2, none⟩ = some (.string ls[k].bd) ∧ w.cell? ⟨b, o + k * 4 + 3, none⟩ = some (.string ls[k].og) := by
  obtain ⟨b, o, hA, hc⟩ := h.2 (by omega)
  obtain ⟨h1, h2, h3, h4⟩ := LkC_get ls k hk
  exact ⟨b, o, hA, hc _ _ h1, hc _ _ h2, hc _ _ h3, hc _ _ h4⟩
theorem Lk.Ok.below {w w' : World} {l : Lk} (h : l.Ok w) (hb : Below w.heap.size w w') : l.Ok w' := ⟨h.1.below hb, h.2⟩
theorem likes_bad {ls : List Lk} {k : Nat} (h : k < ls.length) (hk : ls[k].test = false) : ls.all Lk.test = false := by
  rw [List.all_eq_false]
  exact ⟨ls[k], List.getElem_mem _, by simp [hk]⟩
theorem likes_good {ls : List Lk} (h : ∀ l ∈ ls.take ls.length, Lk.test l = true) : ls.all Lk.test = true := by
  rw [List.take_length] at h
  exact List.all_eq_true.2 h
/-- behind a call that owns what it makes, a block keeps its cells -/
theorem blk27 {wx : World} {v : Bool} {A : Value} {bd og : ByteArray} {g : Nat} (h : Blk wx g 27 #[.bool v, A, .string bd, .string og]) :
    (wx.cell? ⟨g, 0, none⟩ = some (.bool v) ∧ wx.cell? ⟨g, 1, none⟩ = some A) ∧ wx.cell? ⟨g, 2, none⟩ = some (.string bd) ∧ wx.cell? ⟨g, 3, none⟩ = some (.string og) :=
  ⟨⟨by simpa using h.cell 0, by simpa using h.cell 1⟩, by simpa using h.cell 2, by simpa using h.cell 3⟩

theorem Rd.of_blk {w : World} {g : Nat} {t : TypeId} {cs : Array Value} (h : Blk w g t cs) (size n : Nat) (hs : cs.size = n * size) : Rd w size (some ⟨g, 0, none⟩) n cs.toList := by
  refine ⟨by simpa using hs, fun _ => ⟨g, 0, rfl, fun j u hu => ?_⟩⟩
  rw [Nat.zero_add, h.cell j]
  simpa using hu

set_option maxRecDepth 100000 in
set_option maxHeartbeats 2000000 in
theorem likes_any (A : Option Addr) (c : Nat) (ls : List Lk) (w : World) (hr : Rd w 4 A ls.length (LkC ls)) (hl : ls.length ≤ 1000) (hm : ∀ l ∈ ls, l.Ok w) :
    Calls Tryz.prog 24 #[.slice A ls.length c] w fun e w' => e = .returned (.bool (ls.all Lk.test)) ∧ Below w.heap.size w w' := by
  have HM := Lib.hid hm
  clear hm
  go_enter Tryz.func24, Tryz.ntmps24
  go_wp2
  go_loopw [7] (fun i wr => ∃ k : Nat, k ≤ ls.length ∧ i = .int .i64 k ∧ (∀ l ∈ ls.take k, Lk.test l = true) ∧ Below w.heap.size w wr) (fun i _ => ls.length - (intOf i).toNat)
  case atStart => exact ⟨0, Nat.zero_le _, rfl, by simp, Below.refl _ _⟩
  case round =>
    obtain ⟨k, hk, rfl, hgood, hbel⟩ := hrel
    have HG := Lib.hid hgood
    clear hgood
    by_cases ha : k < ls.length
    · obtain ⟨b1, o1, rfl, hc0, hc1, hc2, hc3⟩ := (hr.below hbel).like_at ha
      obtain ⟨l1, l2, l3, l4⟩ := cell_lts hc0
      have hok := (HM.out ls[k] (List.getElem_mem ha)).below hbel
      obtain ⟨l, hl'⟩ : ∃ l, ls[k] = l := ⟨_, rfl⟩
      rw [hl'] at hc0 hc1 hc2 hc3 hok
      have HL := Lib.hid hl'
      clear hl'
      obtain ⟨v, A2, ns, c2, bd, og⟩ := l
      obtain ⟨hra, hfi, hbd, hog⟩ := hok
      simp only at hc0 hc1 hc2 hc3 hra hfi hbd hog
      obtain ⟨W, hW⟩ : ∃ W, (wr.alloc (.cells #[.bool v, .slice A2 ns.length c2, .string bd, .string og] 27)).alloc (.cells #[.string bd, .string og] 9) = W := ⟨_, rfl⟩
      have hBW : Blk W wr.heap.size 27 #[.bool v, .slice A2 ns.length c2, .string bd, .string og] := by rw [← hW]; exact (Blk.new _ _ _).alloc _
      have hBS : Blk W (wr.heap.size + 1) 9 #[.string bd, .string og] := by
        rw [← hW]
        have := Blk.new (wr.alloc (.cells #[.bool v, .slice A2 ns.length c2, .string bd, .string og] 27)) 9 #[.string bd, .string og]
        rw [World.size_alloc] at this
        exact this
      have hbelW : Below w.heap.size w W := by rw [← hW]; exact (hbel.alloc hbel.size _).alloc (by simp; have := hbel.size; omega) _
      have hraW : Rd W 2 A2 ns.length (IntC ns) := by rw [← hW]; exact (hra.alloc _).alloc _
      have hsh : ∃ sh, Pl.shortB [bd.data.toList, og.data.toList] = sh ∧ Calls Tryz.prog 29 #[Value.slice (some { block := wr.heap.size + 1, off := 0 }) 2 2] W fun e w' => e = .returned (.bool sh) ∧ W = w' :=
        ⟨_, rfl, short_any (some ⟨wr.heap.size + 1, 0, none⟩) 2 [bd.data.toList, og.data.toList] W (Rd.of_blk hBS 1 2 rfl) (by simp) (by simp; unfold maxLen; omega)⟩
      obtain ⟨sh, hsh, hcs⟩ := hsh
      obtain ⟨nb, hnb⟩ : ∃ nb, Pl.numbersB ns = nb := ⟨_, rfl⟩
      obtain ⟨lk, hlk⟩ : ∃ lk, Pl.likeOK bd.data.toList = lk := ⟨_, rfl⟩
      have HT : Hid (ls[k].test = (sh && (nb && lk))) := Lib.hid (by rw [HL.out, ← hsh, ← hnb, ← hlk]; rfl)
      have hcn := numbers_any A2 c2 ns W hraW (Nat.le_trans hfi.1 (by omega)) hfi.2
      have hck := fun W' hr' => LikeOK_any v A2 c2 ns bd og W' hr' hfi hbd
      rw [hnb] at hcn
      rw [hlk] at hck
      have hcells := blk27 hBW
      have HCELLS := Lib.hid hcells
      have hcellsB := fun w1 (hb : Below W.heap.size W w1) => blk27 (hBW.below hb hBW.lt)
      have HCB := Lib.hid hcellsB
      have HRB := Lib.hid (fun w1 (hb : Below W.heap.size W w1) => hraW.below hb)
      have HCS := Lib.hid hcs
      have HCN := Lib.hid hcn
      have HCK := Lib.hid hck
      have HWW := Lib.hid hW
      clear hsh hnb hlk hcs hcn hck hcells hcellsB hW hBW hBS hraW hra hfi
      cases sh with
      | false =>
        go_wp2_with fail
        rw [HWW.out]
        refine HCS.out.mono ?_; rintro e w1 ⟨rfl, rfl⟩
        go_wp2_with fail
        go_ret
        exact ⟨ret_bool (likes_bad ha (by rw [HT.out]; rfl)).symm, hbelW⟩
      | true =>
        cases nb with
        | false =>
          go_wp2_with fail
          rw [HWW.out]
          refine HCS.out.mono ?_; rintro e w1 ⟨rfl, rfl⟩
          obtain ⟨⟨y0, y1⟩, y2, y3⟩ := HCELLS.out
          go_wp2_with fail
          refine HCN.out.mono ?_; rintro e w2 ⟨rfl, hb2⟩
          go_wp2_with fail
          go_ret
          exact ⟨ret_bool (likes_bad ha (by rw [HT.out]; rfl)).symm, hbelW.trans (hb2.mono hbelW.size)⟩
        | true =>
          cases lk with
          | false =>
            go_wp2_with fail
            rw [HWW.out]
            refine HCS.out.mono ?_; rintro e w1 ⟨rfl, rfl⟩
            obtain ⟨⟨y0, y1⟩, y2, y3⟩ := HCELLS.out
            go_wp2_with fail
            refine HCN.out.mono ?_; rintro e w2 ⟨rfl, hb2⟩
            obtain ⟨⟨z0, z1⟩, z2, z3⟩ := HCB.out _ hb2
            have hbel2 := hbelW.trans (hb2.mono hbelW.size)
            go_wp2_with fail
            refine (HCK.out _ (HRB.out _ hb2)).mono ?_; rintro e w3 ⟨rfl, hb3⟩
            go_wp2_with fail
            go_ret
            exact ⟨ret_bool (likes_bad ha (by rw [HT.out]; rfl)).symm, hbel2.trans (hb3.mono hbel2.size)⟩
          | true =>
            go_wp2_with fail
            rw [HWW.out]
            refine HCS.out.mono ?_; rintro e w1 ⟨rfl, rfl⟩
            obtain ⟨⟨y0, y1⟩, y2, y3⟩ := HCELLS.out
            go_wp2_with fail
            refine HCN.out.mono ?_; rintro e w2 ⟨rfl, hb2⟩
            obtain ⟨⟨z0, z1⟩, z2, z3⟩ := HCB.out _ hb2
            have hbel2 := hbelW.trans (hb2.mono hbelW.size)
            go_wp2_with fail
            refine (HCK.out _ (HRB.out _ hb2)).mono ?_; rintro e w3 ⟨rfl, hb3⟩
            go_wp2_with fail
            go_roundw
            case rel => exact ⟨k + 1, by omega, by go_num, Pl.take_all HG.out ha (by rw [HT.out]; rfl), hbel2.trans (hb3.mono hbel2.size)⟩
            case measure => simp [intOf]; omega
    · go_wp2
      go_ret
      obtain rfl : k = ls.length := by omega
      exact ⟨ret_bool (likes_good HG.out).symm, hbel⟩
end Go.Proofs.YtgfkdjmoflbmdaaGreatDoor

namespace Go.Proofs.YtgfkdjmoflbmdaaGreatDoor
open Go.RowKit
open Go.Proofs

/-- append(v, x): x of two cells, laid in a new block just before; at the list of a plain region's operations. -/
theorem wpList_app2 {P : Program} (w : World) {ops : Array Oper} {rest : List Oper} {o : Oper} {a : Act} {Q : Exit → Act → World → Prop} (hgd : o.guard = none) (s x : Operand) (t : TypeId)
    (ho : o.op = .call { callee := .builtin .append, args := #[s, x], argTypes := #[t, t] })
    (base : Nat) (e : TypeId) (i : TypeInfo) (z : Value) (bytes : Nat) (ht : P.underlying t = some (.slice e)) (hi : P.info? e = some i) (hz : i.zero = some z)
    (hsize : i.size = 2) (hby : i.bytes = bytes) (hzs : z.cells.size = 2)
    (v : Value) (n : Nat) (xs : List Value) (hs : a.eval s = v) (hown : w.ownsRow base e 2 v n xs)
    (u1 u2 : Value) (hx : a.eval x = .slice (some ⟨w.heap.size, 0, none⟩) 1 1) (h1 : u1.oneCell' = true) (h2 : u2.oneCell' = true) (hbt : bytes ≤ 64) (hn : n ≤ 1000000) (hbase : base ≤ w.heap.size)
    (h : ∀ g cap w', w'.ownsRow base e 2 (.slice (some ⟨g, 0, none⟩) (n + 1) cap) (n + 1) (xs ++ [u1, u2]) → w.grownBy w' v.ownBlock → (v.ownBlock = some g ∨ w.heap.size ≤ g) → Below base w w' →
      wpList P ops Q rest (a.put o.dst (.slice (some ⟨g, 0, none⟩) (n + 1) cap)) w') : wpList P ops Q (o :: rest) a (w.alloc (.cells #[u1, u2] e)) := by
  have hbytes : (n + 1) * bytes ≤ 140737488355328 :=
    Nat.le_trans (Nat.mul_le_mul (show n + 1 ≤ 1000001 by omega) hbt) (by omega)
  refine wpList_append_lies (w.alloc (.cells #[u1, u2] e)) hgd s x t ho base e i z 2 bytes ht hi hz hsize hby hzs (by omega) v n xs hs (hown.alloc _) ⟨w.heap.size, 0, none⟩ 1 1 [u1, u2] hx rfl
    (World.news_of_block (heap_alloc_new w _)) (by simp [h1, h2]) (by omega) (by unfold maxLen; omega) hbytes (by simp; omega) (w.heap.size + 1) (by simp) ?_
  intro g cap w' hown' hg hat _
  have hg2 : w.grownBy w' v.ownBlock := ⟨hg.os, hg.tape, hg.output, Nat.le_trans (by simp) hg.size, fun k hk hne => (hg.block k (by simp; omega) hne).trans (Below.heap_alloc _ _ _ hk)⟩
  refine h g cap w' hown' hg2 (hat.imp id (by omega)) ?_
  exact (Below.refl base w).grown hg2 hbase (fun k hk => (hown.lt k hk).1)
theorem IntC_snoc (ns : List Nat) (k : Nat) (h : k < ns.length) : IntC (ns.take k) ++ [.bool false, S (Pl.magOf ns[k])] = IntC (ns.take (k + 1)) := by
  rw [List.take_succ_eq_append_getElem h, IntC, IntC, List.flatMap_append]; rfl
theorem info118 : (Tryz.prog.info? 118).map (fun i => (i.zero, i.size, i.bytes)) = some (some (.agg #[.bool false, .string ⟨#[]⟩]), 2, 24) := by kernel_rfl
/-- an own row of numbers comes back -/
def PlainsBack (t : TypeId) (w : World) (ns : List Nat) (e : Ending) (w' : World) : Prop :=
  ∃ A c, e = .returned (.slice A ns.length c) ∧ w'.ownsRow w.heap.size t 2 (.slice A ns.length c) ns.length (IntC ns) ∧ Below w.heap.size w w'

set_option maxRecDepth 100000 in
set_option maxHeartbeats 1000000 in
theorem zzPlains_any (A : Option Addr) (c : Nat) (ns : List Nat) (w : World) (hB : Bigs w A ns) (hl : ns.length ≤ 40000) (hw : ∀ n ∈ ns, (Pl.digs M n).length ≤ 100000) :
    Calls Tryz.prog 109 #[.slice A ns.length c] w (PlainsBack 118 w ns) := by
  obtain ⟨i0, hi, hz0, hz1, hz2⟩ := info_parts info118
  have HW := Lib.hid hw
  clear hw
  go_enter Tryz.func109, Tryz.ntmps109
  go_wp2
  go_loopw [3, 8] (fun v iv wr => ∃ k : Nat, k ≤ ns.length ∧ iv = .int .i64 (k : Int) ∧ wr.ownsRow w.heap.size 118 2 v k (IntC (ns.take k)) ∧ Below w.heap.size w wr) (fun _ iv _ => ns.length - (intOf iv).toNat)
  case atStart => exact ⟨0, Nat.zero_le _, rfl, World.ownsRow_nil _ _ _ _, Below.refl _ _⟩
  case round =>
    obtain ⟨k, hk, rfl, hown, hbel⟩ := hrel
    by_cases hlt : k < ns.length
    · obtain ⟨b, o, Z, B, rfl, hc, hI⟩ := (hB.below hbel).at hlt
      have hwk := HW.out _ (List.getElem_mem hlt)
      have hsn := IntC_snoc ns k hlt
      obtain ⟨N, hN⟩ : ∃ N, ns[k] = N := ⟨_, rfl⟩
      rw [hN] at hI hwk hsn
      have HSN := Lib.hid hsn
      clear hN hsn
      have HI := Lib.hid hI
      clear hI
      go_wp2_with fail
      refine (zzPlain_any Z B N _ HI.out hwk).mono ?_; rintro e w1 ⟨rfl, hb1⟩
      have hown1 := own_below hown hb1
      have hbel1 := hbel.trans (hb1.mono hbel.size)
      go_wp2_with (at_builtin; refine wpList_app2 _ rfl (.tmp 12) (.tmp 15) 60 rfl w.heap.size 118 i0 _ 24 Tryz.underlying60 hi hz0 hz1 hz2 rfl _ _ _ rfl hown1 _ _ rfl rfl rfl (by omega) (by omega) hbel1.size ?_; intro g cap w2 hown2 hg2 hat2 hb2; clear hg2 hat2)
      go_roundw
      case rel => exact ⟨k + 1, by omega, by go_num, own_cast hown2 rfl HSN.out, hbel1.trans hb2⟩
      case measure => simp [intOf]; omega
    · obtain rfl : k = ns.length := by omega
      rw [List.take_length] at hown
      obtain ⟨A', c', rfl⟩ := own_form hown
      go_wp2
      go_ret
      exact ⟨A', c', rfl, hown, hbel⟩

theorem int_at2 {w : World} {t : TypeId} {B : Nat} {A : Option Addr} {c : Nat} {ns : List Nat} (h : w.ownsRow B t 2 (.slice A ns.length c) ns.length (IntC ns)) : Rd w 2 A ns.length (IntC ns) := Rd.of_own h
set_option maxRecDepth 100000 in
set_option maxHeartbeats 1000000 in
theorem plains_any (A : Option Addr) (c : Nat) (ns : List Nat) (w : World) (hr : Rd w 2 A ns.length (IntC ns)) (hl : ns.length ≤ 40000) :
    Calls Tryz.prog 90 #[.slice A ns.length c] w (PlainsBack 46 w ns) := by
  obtain ⟨i0, hi, hz0, hz1, hz2⟩ := info_parts info46
  go_enter Tryz.func90, Tryz.ntmps90
  go_wp2
  go_loopw [3, 8] (fun v iv wr => ∃ k : Nat, k ≤ ns.length ∧ iv = .int .i64 (k : Int) ∧ wr.ownsRow w.heap.size 46 2 v k (IntC (ns.take k)) ∧ Below w.heap.size w wr) (fun _ iv _ => ns.length - (intOf iv).toNat)
  case atStart => exact ⟨0, Nat.zero_le _, rfl, World.ownsRow_nil _ _ _ _, Below.refl _ _⟩
  case round =>
    obtain ⟨k, hk, rfl, hown, hbel⟩ := hrel
    by_cases hlt : k < ns.length
    · obtain ⟨b, o, rfl, hc0, hc1⟩ := (hr.below hbel).int_at hlt
      obtain ⟨l1, l2, l3, l4⟩ := cell_lts hc0
      have hsn := IntC_snoc ns k hlt
      obtain ⟨x, hx⟩ : ∃ x, Pl.magOf ns[k] = x := ⟨_, rfl⟩
      rw [hx] at hc1 hsn
      have HSN := Lib.hid hsn
      clear hx hsn
      have hown1 := hown.alloc (.cells #[.bool false, S x] 118)
      have hbel1 := hbel.alloc hbel.size (.cells #[.bool false, S x] 118)
      have hs1 : w.heap.size ≤ (wr.alloc (.cells #[.bool false, S x] 118)).heap.size := hbel1.size
      go_wp2_with (at_builtin; refine wpList_app2 _ rfl (.tmp 12) (.tmp 14) 25 rfl w.heap.size 46 i0 _ 24 Tryz.underlying25 hi hz0 hz1 hz2 rfl _ _ _ rfl hown1 _ _ (show Value.slice (some ⟨wr.heap.size + 1, 0, none⟩) 1 1 = _ by rw [World.size_alloc]) rfl rfl (by omega) (by omega) hs1 ?_; intro g cap w2 hown2 hg2 hat2 hb2; clear hg2 hat2)
      go_roundw
      case rel => exact ⟨k + 1, by omega, by go_num, own_cast hown2 rfl HSN.out, hbel1.trans hb2⟩
      case measure => simp [intOf]; omega
    · obtain rfl : k = ns.length := by omega
      rw [List.take_length] at hown
      obtain ⟨A', c', rfl⟩ := own_form hown
      go_wp2
      go_ret
      exact ⟨A', c', rfl, hown, hbel⟩
end Go.Proofs.YtgfkdjmoflbmdaaGreatDoor
