/- Walk: FnNuGetPage. -/
import Derived.Test.YtgfkdjmoflbmdaaGreatDoorMOd
import Derived.Test.YtgfkdjmoflbmdaaGreatDoorMNlxNd
import Derived.Test.YtgfkdjmoflbmdaaGreatDoorMXuxZb
namespace Go.Proofs.YtgfkdjmoflbmdaaGreatDoor
open Go.RowKit
open Go.Proofs

theorem page_ready {s : ByteArray} (h : Pl.pageB (Pl.lower s.data.toList) 1 4 = true) (hs : s.size ≤ 1500) : Ready s ∧ ((Pl.numsOf s.data.toList).length : Int) ≤ 4 := by
  obtain ⟨h1, _, h3, h4, h5, h6, h7⟩ := Pl.page_parts h
  obtain ⟨_, ⟨c, r, d2, d3⟩, _⟩ := Pl.digs_core h7
  obtain ⟨rest, hr, _⟩ := Pl.page_shape (Pl.lower s.data.toList)
  have h0 := Pl.unlower_v h5 ⟨c, r ++ rest, by rw [hr]; show Pl.hyCore (Pl.beforePlus (Pl.lower s.data.toList)) ++ rest = _; rw [d2]; rfl, d3⟩
  obtain ⟨n1, n2⟩ := Pl.numsOf_lower h5 h0
  rw [n2, Pl.buildKnown, Bool.and_eq_true, Pl.idsKnown_lower] at h4
  refine ⟨⟨by omega, Pl.ascii_unlower h3, by rw [Pl.buildKnown, Bool.and_eq_true]; exact ⟨Pl.ascii_unlower h4.1, h4.2⟩⟩, ?_⟩
  rw [← n1, h1, List.length_map]; omega
theorem short2p (a b : Pl.Bytes) : Pl.shortB [a, b] = (decide (a.length ≤ 1500) && decide (b.length ≤ 1500)) := by simp [Pl.shortB]
set_option maxRecDepth 100000 in
set_option maxHeartbeats 4000000 in
theorem nugetPage_walk (a b : ByteArray) (pe pn pi : Addr) (w : World) (ha : a.size ≤ maxLen) (hb : b.size ≤ maxLen) (hV : PkgVars w pe pn pi) (_hT : VTabs w) :
    Calls Tryz.prog 8 #[.string a, .string b] w fun e w' => e = .returned (.bool true) ∧ Below w.heap.size w w' := by
  unfold maxLen at ha hb
  rcases Nat.lt_or_ge 2147483647 a.size with h1 | h1
  · have h1z : (2147483647 : Int) < (a.size : Int) := by omega
    go_enter Tryz.func8, Tryz.ntmps8
    go_wp2
    go_ret
    exact ⟨rfl, Below.refl _ _⟩
  have h1z : ¬ (2147483647 : Int) < (a.size : Int) := by omega
  rcases Nat.lt_or_ge 2147483647 b.size with h2 | h2
  · have h2z : (2147483647 : Int) < (b.size : Int) := by omega
    go_enter Tryz.func8, Tryz.ntmps8
    go_wp2
    go_ret
    exact ⟨rfl, Below.refl _ _⟩
  have h2z : ¬ (2147483647 : Int) < (b.size : Int) := by omega
  obtain ⟨W, hW⟩ : ∃ W, w.alloc (.cells #[.string a, .string b] 9) = W := ⟨_, rfl⟩
  have hbW : Below w.heap.size w W := by rw [← hW]; exact (Below.refl _ _).alloc (Nat.le_refl _) _
  have hBS : Blk W w.heap.size 9 #[.string a, .string b] := by rw [← hW]; exact Blk.new _ _ _
  have HS := Lib.hid (short_any (some ⟨w.heap.size, 0, none⟩) 2 [a.data.toList, b.data.toList] W (Rd.of_blk hBS 1 2 rfl) (by simp) (by simp; unfold maxLen; omega))
  rw [short2p, len_list, len_list] at HS
  have HW := Lib.hid hW
  clear hW
  by_cases hall : a.size ≤ 1500 ∧ b.size ≤ 1500
  · obtain ⟨sa, sb⟩ := hall
    rw [show (decide (a.size ≤ 1500) && decide (b.size ≤ 1500)) = true from by simp [sa, sb]] at HS
    have HP := Lib.hid (fun W => Precedence_any a b W sa sb)
    cases hp : (Pl.pageB (Pl.lower a.data.toList) 1 4 && Pl.pageB (Pl.lower b.data.toList) 1 4) with
    | false =>
      have HQ := Lib.hid (show ∀ W : World, Calls Tryz.prog 33 #[.string a, .string b, .int .i64 1, .int .i64 4, .bool true] W fun e w' => e = .returned (.tuple #[.int .i64 0, .bool false]) ∧ Below W.heap.size W w' from
        fun W => (HP.out W).mono fun e w' h => by
          obtain ⟨h | h, hb⟩ := h
          · exact ⟨h.2, hb⟩
          · rw [hp] at h; cases h.1)
      clear HP hp
      go_enter Tryz.func8, Tryz.ntmps8
      go_wp2_with fail
      rw [HW.out]
      refine HS.out.mono ?_; rintro e w1 ⟨rfl, rfl⟩
      go_wp2_with fail
      refine (HQ.out _).mono ?_; rintro e w2 ⟨rfl, hb2⟩
      have hbb2 := hbW.trans (hb2.mono hbW.size)
      go_wp2
      go_ret
      exact ⟨rfl, hbb2⟩
    | true =>
      rw [Bool.and_eq_true] at hp
      obtain ⟨ra, la⟩ := page_ready hp.1 sa
      obtain ⟨rb, lb⟩ := page_ready hp.2 sb
      have hN := Pl.page_nuget hp.1 hp.2
      have hT2 := Lib.hid (fun (w' : World) (h : Below w.heap.size w w') => NuGetText_any a b pe pn pi w' (hV.below h) ra rb la lb)
      rw [← hN] at hT2
      obtain ⟨R, hR⟩ : ∃ R, Pl.prec (Pl.lower a.data.toList) (Pl.lower b.data.toList) = R := ⟨_, rfl⟩
      rw [hR] at hT2
      have HQ := Lib.hid (show ∀ W : World, Calls Tryz.prog 33 #[.string a, .string b, .int .i64 1, .int .i64 4, .bool true] W fun e w' => e = .returned (.tuple #[.int .i64 R, .bool true]) ∧ Below W.heap.size W w' from
        fun W => (HP.out W).mono fun e w' h => by
          obtain ⟨h | h, hb⟩ := h
          · rw [hp.1, hp.2] at h; cases h.1
          · rw [hR] at h; exact ⟨h.2, hb⟩)
      clear HP hp hN hR
      go_enter Tryz.func8, Tryz.ntmps8
      go_wp2_with fail
      rw [HW.out]
      refine HS.out.mono ?_; rintro e w1 ⟨rfl, rfl⟩
      go_wp2_with fail
      refine (HQ.out _).mono ?_; rintro e w2 ⟨rfl, hb2⟩
      have hbb2 := hbW.trans (hb2.mono hbW.size)
      go_wp2_with fail
      refine (hT2.out w2 hbb2).mono ?_; rintro e w3 ⟨rfl, hb3⟩
      have hbb3 := hbb2.trans (hb3.mono hbb2.size)
      go_wp2
      go_ret
      exact ⟨ret_bool (by simp), hbb3⟩
  · rw [show (decide (a.size ≤ 1500) && decide (b.size ≤ 1500)) = false from by
      cases e : (decide (a.size ≤ 1500) && decide (b.size ≤ 1500)) with
      | false => rfl
      | true => simp at e; exact absurd e hall] at HS
    go_enter Tryz.func8, Tryz.ntmps8
    go_wp2_with fail
    rw [HW.out]
    refine HS.out.mono ?_; rintro e w1 ⟨rfl, rfl⟩
    go_wp2
    go_ret
    exact ⟨rfl, hbW⟩
end Go.Proofs.YtgfkdjmoflbmdaaGreatDoor
