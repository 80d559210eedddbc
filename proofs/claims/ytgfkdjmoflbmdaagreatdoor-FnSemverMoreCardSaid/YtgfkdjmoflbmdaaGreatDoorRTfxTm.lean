/- Contracts; Contracts. -/
import Derived.Test.YtgfkdjmoflbmdaaGreatDoorRSuxTe
import Derived.Test.YtgfkdjmoflbmdaaGreatDoorRTk
import Derived.Test.YtgfkdjmoflbmdaaGreatDoorRXw
namespace Go.Proofs.YtgfkdjmoflbmdaaGreatDoor
open Go.RowKit
open Go.Proofs
structure ReadyK (m : Nat) (s : ByteArray) : Prop where
  size : s.size ≤ 1500
  asc : Pl.ascii s.data.toList = true
  known : Pl.buildKnown (Pl.keptB m s.data.toList) = true
theorem ReadyK.build {m : Nat} {s : ByteArray} (h : ReadyK m s) : (⟨(Pl.keptB m s.data.toList).toArray⟩ : ByteArray).size ≤ 30000 := by
  rw [S_size]
  have h1 := Pl.keptB_len m s.data.toList
  rw [len_list] at h1
  have := h.size; omega
theorem ReadyK.ascB {m : Nat} {s : ByteArray} (h : ReadyK m s) : Pl.ascii (Pl.keptB m s.data.toList) = true := by
  have := h.known
  rw [Pl.buildKnown, Bool.and_eq_true] at this
  exact this.1
theorem ReadyK.small {m : Nat} {s : ByteArray} (h : ReadyK m s) : Small (Pl.keptN m s.data.toList) := by
  obtain ⟨h1, h2⟩ := nums_small (s := s) (by have := h.size; omega)
  refine ⟨Nat.le_trans (List.length_take_le' _ _) h1, fun n hn => h2 n (List.mem_of_mem_take hn)⟩
set_option maxRecDepth 100000 in
theorem ParseSemverK_any (s : ByteArray) (pe pn pi : Addr) (w : World) (hs : s.size ≤ 1500) (hV : PkgVars w pe pn pi) (hBV : BigVars w) (hasc : Pl.ascii s.data.toList = true) :
    Calls Tryz.prog 57 #[.string s] w (KeptBack w 3 s) := by
  obtain ⟨W, hW⟩ : ∃ W, w.alloc (.cells #[.bool false, .slice none 0 0, .string ⟨#[]⟩, .string ⟨#[]⟩] 58) = W := ⟨_, rfl⟩
  have hbW : Below w.heap.size w W := by rw [← hW]; exact (Below.refl _ _).alloc (Nat.le_refl _) _
  have hRW : Blk W w.heap.size 58 #[.bool false, .slice none 0 0, .string ⟨#[]⟩, .string ⟨#[]⟩] := by rw [← hW]; exact Blk.new _ _ _
  have HC := Lib.hid (parseKept_any s 3 pe pn pi W hs (hV.below hbW) (hBV.below hbW) hasc (by omega))
  have HW := Lib.hid hW
  clear hW hBV
  go_enter Tryz.func57, Tryz.ntmps57
  go_wp2_with fail
  rw [HW.out]
  refine HC.out.mono ?_; rintro e w1 ⟨A, c, rfl, hob, hb1⟩
  have hR1 := hRW.below hb1 hRW.lt
  have d0 := hR1.cell 0
  have d1 := hR1.cell 1
  have d2 := hR1.cell 2
  have d3 := hR1.cell 3
  have e0 := hR1.frozen 0
  have e1 := hR1.frozen 1
  have e2 := hR1.frozen 2
  have e3 := hR1.frozen 3
  simp at d0 d1 d2 d3
  go_wp2
  refine bodyPost_ret (v := .agg #[.bool (Pl.startsV s.data.toList), .slice A (Pl.keptN 3 s.data.toList).length c, S (Pl.keptB 3 s.data.toList), .string s]) (by simp [results, Tryz.results57, go_sem, d0, d1, d2, d3]) rfl ⟨A, c, rfl, ?_, ?_⟩
  · exact OwnBigs.fourT (OwnBigs.lower hob hbW.size) hR1 (by decide) (by decide) (by decide)
  · have hb := hbW.trans (hb1.mono hbW.size)
    exact (((hb.setCell (Nat.le_refl _) _).setCell (Nat.le_refl _) _).setCell (Nat.le_refl _) _).setCell (Nat.le_refl _) _
set_option maxRecDepth 100000 in
set_option maxHeartbeats 1000000 in
theorem CompareStrK_any (va : Bool) (A : Option Addr) (ca : Nat) (ns : List Nat) (da oa s : ByteArray) (pe pn pi : Addr) (w : World) (hA : Bigs w A ns) (hna : Small ns)
    (hda : da.size ≤ 30000) (hV : PkgVars w pe pn pi) (hBV : BigVars w) (hka : Pl.buildKnown da.data.toList = true) (hs : ReadyK 3 s) :
    Calls Tryz.prog 58 #[VV va A ns.length ca da oa, .string s] w fun e w' => e = .returned (.tuple #[.int .i64 (Pl.likeOrd ns (Pl.keptN 3 s.data.toList) da.data.toList (Pl.keptB 3 s.data.toList)), .nilIface]) ∧ Below w.heap.size w w' := by
  obtain ⟨W, hW⟩ : ∃ W, w.alloc (.cells #[.bool va, .slice A ns.length ca, .string da, .string oa] 58) = W := ⟨_, rfl⟩
  have hbW : Below w.heap.size w W := by rw [← hW]; exact (Below.refl _ _).alloc (Nat.le_refl _) _
  have hP : Blk W w.heap.size 58 #[.bool va, .slice A ns.length ca, .string da, .string oa] := by rw [← hW]; exact Blk.new _ _ _
  have hPd : Blk W.drew w.heap.size 58 #[.bool va, .slice A ns.length ca, .string da, .string oa] := hP
  have hbWd : Below w.heap.size w W.drew := hbW.drew
  have HPS := Lib.hid (ParseSemverK_any s pe pn pi W.drew hs.size (hV.below hbWd) (hBV.below hbWd) hs.asc)
  have p0 := hP.cell 0
  have p1 := hP.cell 1
  have p2 := hP.cell 2
  have p3 := hP.cell 3
  simp at p0 p1 p2 p3
  have HC := Lib.hid (fun (w1 : World) (h : Below W.drew.heap.size W.drew w1) B c (hB : Bigs w1 B (Pl.keptN 3 s.data.toList)) => compare_any va (Pl.startsV s.data.toList) A B ca c ns (Pl.keptN 3 s.data.toList) da ⟨(Pl.keptB 3 s.data.toList).toArray⟩ oa s pe pn pi w1
    ((hA.below hbWd).below h) hB hna (hs.small) hda hs.build ((hV.below hbWd).below h) hka hs.known)
  have HW := Lib.hid hW
  obtain ⟨R, hR⟩ : ∃ R, Pl.likeOrd ns (Pl.keptN 3 s.data.toList) da.data.toList (Pl.keptB 3 s.data.toList) = R := ⟨_, rfl⟩
  rw [hR] at HC ⊢
  clear hW hA hna hka hs hR hBV
  go_enter Tryz.func58, Tryz.ntmps58
  go_wp2_with fail
  rw [HW.out]
  go_region_with (first
    | (go_at_call 57; refine HPS.out.mono ?_; rintro e w1 ⟨B, c, rfl, hob, hb1⟩; have hP1 := hPd.below hb1 hPd.lt; have q0 := hP1.cell 0; have q1 := hP1.cell 1; have q2 := hP1.cell 2; have q3 := hP1.cell 3; simp at q0 q1 q2 q3)
    | (go_at_call 89; refine (HC.out w1 hb1 B c hob.bigs).mono ?_; rintro e w2 ⟨rfl, hb2⟩))
  all_goals go_wp2_with fail
  all_goals exact bodyPost_ret (v := .tuple #[.int .i64 R, .nilIface]) (by simp [results, Tryz.results58, go_sem]) rfl ⟨rfl, hbWd.trans ((hb1.mono hbWd.size).trans (hb2.mono (Nat.le_trans hbWd.size hb1.size)))⟩
set_option maxRecDepth 100000 in
theorem SemverTextK_any (a b : ByteArray) (pe pn pi : Addr) (w : World) (hV : PkgVars w pe pn pi) (hBV : BigVars w) (ha : ReadyK 3 a) (hb : ReadyK 3 b) :
    Calls Tryz.prog 20 #[.string a, .string b] w fun e w' => e = .returned (.tuple #[.int .i64 (Pl.likeOrd (Pl.keptN 3 a.data.toList) (Pl.keptN 3 b.data.toList) (Pl.keptB 3 a.data.toList) (Pl.keptB 3 b.data.toList)), .bool true]) ∧ Below w.heap.size w w' := by
  have HP := Lib.hid (ParseSemverK_any a pe pn pi w ha.size hV hBV ha.asc)
  have HC := Lib.hid (fun (w1 : World) (h : Below w.heap.size w w1) A c (hA : Bigs w1 A (Pl.keptN 3 a.data.toList)) => CompareStrK_any (Pl.startsV a.data.toList) A c (Pl.keptN 3 a.data.toList) ⟨(Pl.keptB 3 a.data.toList).toArray⟩ a b pe pn pi w1 hA (ha.small) ha.build (hV.below h) (hBV.below h) ha.known hb)
  obtain ⟨R, hR⟩ : ∃ R, Pl.likeOrd (Pl.keptN 3 a.data.toList) (Pl.keptN 3 b.data.toList) (Pl.keptB 3 a.data.toList) (Pl.keptB 3 b.data.toList) = R := ⟨_, rfl⟩
  simp only at HC
  rw [hR] at HC ⊢
  clear hR ha hb hBV
  go_enter Tryz.func20, Tryz.ntmps20
  go_wp2_with fail
  refine HP.out.mono ?_; rintro e w1 ⟨A, c, rfl, hob, hb1⟩
  go_wp2_with fail
  refine (HC.out w1 hb1 A c hob.bigs).mono ?_; rintro e w2 ⟨rfl, hb2⟩
  go_wp2_with fail
  go_quiet (fail)
  go_wp2
  exact bodyPost_ret (v := .tuple #[.int .i64 R, .bool true]) (by simp [results, Tryz.results20, go_sem]) rfl ⟨rfl, below_drewN (hb1.trans (hb2.mono hb1.size)) _⟩
def MoreE (s : ByteArray) (m : Nat) (e : Ending) : Prop := ∃ b, e = .returned (.bool b) ∧ (b = true → s.size ≤ 1500 ∧ Pl.ascii s.data.toList = true ∧ Pl.buildKnown (Pl.keptB m s.data.toList) = true)
theorem MoreE.no {s : ByteArray} {m : Nat} : MoreE s m (.returned (.bool false)) := ⟨false, rfl, fun h => by cases h⟩
theorem nums_mag {s : ByteArray} (hs : s.size ≤ 1500) : ∀ n ∈ Pl.numsOf s.data.toList, (Pl.magOf n).length ≤ 2000 := by
  intro n hn
  obtain ⟨p, rfl, hp, hd⟩ := numsOf_mem hn
  have h2 := coreOf_len s.data.toList
  rw [len_list] at h2
  have h3 := Pl.natOf_lt p hd
  have h4 : (10 : Nat) ^ p.length ≤ 256 ^ p.length := Nat.pow_le_pow_left (by omega) _
  have := Pl.magOf_len _ p.length (Nat.lt_of_lt_of_le h3 h4)
  omega
theorem kept_small {s : ByteArray} {m : Nat} (hs : s.size ≤ 1500) : (Pl.keptB m s.data.toList).length ≤ 1501 ∧ (Pl.tailB ((Pl.numsOf s.data.toList).drop m)).length ≤ 1501 ∧ (Pl.numsOf s.data.toList).length ≤ 1501 ∧ (Pl.buildOf s.data.toList).length ≤ 1500 := by
  have h1 := Pl.keptB_len m s.data.toList
  have h2 := Pl.tail_len s.data.toList m
  have h3 := coreOf_len s.data.toList
  have h4 := numsOf_len s.data.toList
  have h5 := buildOf_len s.data.toList
  rw [len_list] at h1 h3 h4 h5
  omega
set_option maxRecDepth 100000 in
set_option maxHeartbeats 2000000 in
theorem more_any (s : ByteArray) (m : Nat) (w : World) (hs : s.size ≤ 2147483647) (hm : m ≤ 100) (hT : VTabs w) : Calls Tryz.prog 14 #[.string s, .int .i64 (m : Int)] w fun e w' => MoreE s m e ∧ Below w.heap.size w w' := by
  obtain ⟨W, hW⟩ : ∃ W, w.alloc (.cells #[.string s] 9) = W := ⟨_, rfl⟩
  have hbW : Below w.heap.size w W := by rw [← hW]; exact (Below.refl _ _).alloc (Nat.le_refl _) _
  have hBS : Blk W w.heap.size 9 #[.string s] := by rw [← hW]; exact Blk.new _ _ _
  have HS := Lib.hid (short_any (some ⟨w.heap.size, 0, none⟩) 1 [s.data.toList] W (Rd.of_blk hBS 1 1 rfl) (by simp) (by simp; unfold maxLen; omega))
  rw [short1, len_list] at HS
  have hTW := hT.below hbW
  have HW := Lib.hid hW
  clear hW hT hBS
  by_cases h1 : s.size ≤ 1500
  · rw [show decide (s.size ≤ 1500) = true from decide_eq_true h1] at HS
    have HK := Lib.hid (LikeKnown_any s W (by omega) hTW)
    have HA := Lib.hid (fun w => Ascii_any s w (by unfold maxLen; omega))
    obtain ⟨ab, has⟩ : ∃ ab, Pl.ascii s.data.toList = ab := ⟨_, rfl⟩
    rw [has] at HA
    have HAS := Lib.hid has
    clear has hTW
    go_enter Tryz.func14, Tryz.ntmps14
    go_wp2_with fail
    rw [HW.out]
    refine HS.out.mono ?_; rintro e w1 ⟨rfl, rfl⟩
    go_wp2_with fail
    refine HK.out.mono ?_; rintro e w2 ⟨⟨b, rfl⟩, hb2⟩
    have hbb2 := hbW.trans (hb2.mono hbW.size)
    cases b with
    | false =>
      go_wp2
      go_ret
      exact ⟨MoreE.no, hbb2⟩
    | true =>
      go_wp2_with fail
      refine (HA.out _).mono ?_; rintro e w3 ⟨rfl, rfl⟩
      cases ab with
      | false =>
        go_wp2
        go_ret
        exact ⟨MoreE.no, hbb2⟩
      | true =>
        go_wp2_with fail
        refine (LikeParse_any s w2 (by omega)).mono ?_; rintro e w4 ⟨A, c, rfl, hO, hb4⟩
        obtain ⟨n, hn⟩ : ∃ n, (Pl.numsOf s.data.toList).length = n := ⟨_, rfl⟩
        obtain ⟨sv, hsv⟩ : ∃ sv, Pl.startsV s.data.toList = sv := ⟨_, rfl⟩
        obtain ⟨bd, hbd⟩ : ∃ bd, Pl.buildOf s.data.toList = bd := ⟨_, rfl⟩
        have hbb4 := hbb2.trans (hb4.mono hbb2.size)
        obtain ⟨k1, k2, k3, k4⟩ := kept_small (m := m) h1
        have hmag := nums_mag h1
        rw [hn, hsv, hbd]
        rw [hn] at hO k3
        rw [hbd] at k4
        obtain ⟨X, hX⟩ : ∃ X, w4.alloc (.cells #[.bool sv, .slice A n c, S bd, .string s] 27) = X := ⟨_, rfl⟩
        have hbX : Below w4.heap.size w4 X := by rw [← hX]; exact (Below.refl _ _).alloc (Nat.le_refl _) _
        have hBX : Blk X w4.heap.size 27 #[.bool sv, .slice A n c, S bd, .string s] := by rw [← hX]; exact Blk.new _ _ _
        have x0 := hBX.cell 0
        have x1 := hBX.cell 1
        have x2 := hBX.cell 2
        have x3 := hBX.cell 3
        simp at x0 x1 x2 x3
        rw [← hX] at x0 x1 x2 x3
        have hOX := own_below hO hbX
        have hbbX := hbb4.trans (hbX.mono hbb4.size)
        have hRX : Rd X 2 A (Pl.numsOf s.data.toList).length (IntC (Pl.numsOf s.data.toList)) := by rw [hn]; exact Rd.of_own hOX
        have hNU := numbers_any A c (Pl.numsOf s.data.toList) X hRX (by omega) (fun x hx => by have := hmag x hx; omega)
        rw [hn] at hNU
        have HNU := Lib.hid hNU
        have HKP := Lib.hid (fun (W5 : World) (hb : Below X.heap.size X W5) => kept_any sv A n c m _ (Pl.numsOf s.data.toList) ⟨bd.toArray⟩ s W5 (own_below hOX hb) hn hm (by omega) hmag (by rw [S_size]; omega) (by omega))
        have HBK := Lib.hid (fun (W5 : World) => BuildKnown_any ⟨(Pl.keptB m s.data.toList).toArray⟩ W5 (by rw [S_size]; omega))
        have hkb : bd ++ Pl.tailB ((Pl.numsOf s.data.toList).drop m) = Pl.keptB m s.data.toList := by rw [← hbd]; rfl
        rw [show (⟨bd.toArray⟩ : ByteArray).data.toList = bd from rfl, hkb] at HKP
        obtain ⟨kb, hkbe⟩ : ∃ kb, Pl.keptB m s.data.toList = kb := ⟨_, rfl⟩
        rw [hkbe] at HKP HBK
        have hfl : ∀ W5 : World, (Instr.field 27 (.agg #[.bool sv, .slice A (min m n) c, S kb, .string s]) 2).run Tryz.prog W5 = .ok (S kb) W5 := fun W5 => by kernel_rfl
        have HX := Lib.hid (And.intro hX (And.intro hbbX (And.intro hkbe hbX)))
        clear hn hsv hbd hO hbb4 k1 k2 k3 k4 hmag hX hbX hBX hOX hbbX hRX hNU hkb hkbe
        by_cases h40 : n ≤ 40
        · have h40z : (n : Int) ≤ 40 := by omega
          have hP4 : w4.heap.size < X.heap.size := by rw [← HX.out.1]; simp
          rw [HX.out.1] at x0 x1 x2 x3
          go_wp2_with fail
          rw [HX.out.1]
          refine HNU.out.mono ?_; rintro e w5 ⟨rfl, hb5⟩
          obtain ⟨nb, hnb⟩ : ∃ nb, Pl.numbersB (Pl.numsOf s.data.toList) = nb := ⟨_, rfl⟩
          rw [hnb]
          obtain ⟨kc, _⟩ := bcell hb5
          have y0 := (kc _ 0 hP4).trans x0
          have y1 := (kc _ 1 hP4).trans x1
          have y2 := (kc _ 2 hP4).trans x2
          have y3 := (kc _ 3 hP4).trans x3
          have HB5 := Lib.hid (HX.out.2.1.trans (hb5.mono HX.out.2.1.size))
          have HKQ := Lib.hid (HKP.out w5 hb5)
          clear kc hb5 hnb x0 x1 x2 x3
          cases nb with
          | false =>
            go_wp2
            go_ret
            exact ⟨MoreE.no, HB5.out⟩
          | true =>
            go_wp2_with fail
            refine HKQ.out.mono ?_; rintro e w6 ⟨rfl, hb6⟩
            have HB6 := Lib.hid (HB5.out.trans (hb6.mono HB5.out.size))
            clear hb6
            go_wp2_with fail
            refine (HBK.out _).mono ?_; rintro e w7 ⟨rfl, hb7⟩
            obtain ⟨kn, hkn⟩ : ∃ kn, Pl.buildKnown kb = kn := ⟨_, rfl⟩
            simp only at hb7 ⊢
            rw [hkn]
            have HF := Lib.hid (And.intro hkn (HB6.out.trans (hb7.mono HB6.out.size)))
            clear hkn hb7
            go_wp2
            go_ret
            exact ⟨⟨kn, rfl, fun h => ⟨h1, HAS.out, by rw [HX.out.2.2.1, HF.out.1]; exact h⟩⟩, HF.out.2⟩
        · have h40z : ¬ (n : Int) ≤ 40 := by omega
          go_wp2_with fail
          go_ret
          exact ⟨MoreE.no, by rw [HX.out.1]; exact HX.out.2.1⟩
  · rw [show decide (s.size ≤ 1500) = false from decide_eq_false h1] at HS
    go_enter Tryz.func14, Tryz.ntmps14
    go_wp2_with fail
    rw [HW.out]
    refine HS.out.mono ?_; rintro e w1 ⟨rfl, rfl⟩
    go_wp2
    go_ret
    exact ⟨MoreE.no, hbW⟩
theorem kept_fits {s : ByteArray} {m : Nat} (hs : s.size ≤ 15000) : Pl.Fits (Pl.keptN m s.data.toList) := by
  obtain ⟨h1, h2⟩ := nums_fits hs
  exact ⟨Nat.le_trans (List.length_take_le' _ _) h1, fun n hn => h2 n (List.mem_of_mem_take hn)⟩
set_option maxRecDepth 100000 in
set_option maxHeartbeats 1000000 in
theorem specSemverText_any (a b : ByteArray) (w : World) (ha : a.size ≤ 1500) (hb : b.size ≤ 1500) :
    Calls Tryz.prog 21 #[.string a, .string b] w fun e w' => e = .returned (.tuple #[.int .i64 (Pl.semM 3 a.data.toList b.data.toList), .bool true]) ∧ Below w.heap.size w w' := by
  have H1 := Lib.hid (textParse_any a 3 w ha (by omega))
  have H2 := Lib.hid (fun W => textParse_any b 3 W hb (by omega))
  have HC := Lib.hid (fun (W : World) A c B d (h1 : Rd W 2 A (Pl.keptN 3 a.data.toList).length (IntC (Pl.keptN 3 a.data.toList))) (h2 : Rd W 2 B (Pl.keptN 3 b.data.toList).length (IntC (Pl.keptN 3 b.data.toList))) =>
    SemverCompare_any (Pl.startsV a.data.toList) (Pl.startsV b.data.toList) A B c d (Pl.keptN 3 a.data.toList) (Pl.keptN 3 b.data.toList) ⟨(Pl.keptB 3 a.data.toList).toArray⟩ ⟨(Pl.keptB 3 b.data.toList).toArray⟩ a b W h1 h2 (kept_fits (by omega)) (kept_fits (by omega)) (by have := (kept_small (m := 3) ha).1; rw [S_size]; omega) (by have := (kept_small (m := 3) hb).1; rw [S_size]; omega))
  obtain ⟨R, hR⟩ : ∃ R, Pl.semM 3 a.data.toList b.data.toList = R := ⟨_, rfl⟩
  have hR2 : Pl.likeOrd (Pl.keptN 3 a.data.toList) (Pl.keptN 3 b.data.toList) (Pl.keptB 3 a.data.toList) (Pl.keptB 3 b.data.toList) = R := hR
  simp only at HC
  rw [hR2] at HC
  rw [hR]
  clear hR hR2
  go_enter Tryz.func21, Tryz.ntmps21
  go_wp2_with fail
  refine H1.out.mono ?_; rintro e w1 ⟨A, c, rfl, hA, hb1⟩
  go_wp2_with fail
  refine (H2.out w1).mono ?_; rintro e w2 ⟨B, d, rfl, hB, hb2⟩
  have hA2 := hA.below hb2
  have hbb2 := hb1.trans (hb2.mono hb1.size)
  go_wp2_with fail
  refine (HC.out w2 A c B d hA2 hB).mono ?_; rintro e w3 ⟨rfl, hb3⟩
  go_wp2
  exact bodyPost_ret (v := .tuple #[.int .i64 R, .bool true]) (by simp [results, Tryz.results21, go_sem]) rfl ⟨rfl, hbb2.trans (hb3.mono hbb2.size)⟩
theorem keptText_any (s : ByteArray) (m base : Nat) (lv : Bool) (A : Option Addr) (c : Nat) (w : World) (hO : w.ownsRow base 46 2 (.slice A (Pl.numsOf s.data.toList).length c) (Pl.numsOf s.data.toList).length (IntC (Pl.numsOf s.data.toList))) (hs : s.size ≤ 1500) (hm : m ≤ 100) :
    Calls Tryz.prog 16 #[.agg #[.bool lv, .slice A (Pl.numsOf s.data.toList).length c, S (Pl.buildOf s.data.toList), .string s], .int .i64 (m : Int)] w fun e w' => e = .returned (.agg #[.bool lv, .slice A (Pl.keptN m s.data.toList).length c, S (Pl.keptB m s.data.toList), .string s]) ∧
      Rd w' 2 A (Pl.keptN m s.data.toList).length (IntC (Pl.keptN m s.data.toList)) ∧ Below w.heap.size w w' := by
  obtain ⟨k1, k2, k3, k4⟩ := kept_small (m := m) hs
  refine (kept_any lv A _ c m base (Pl.numsOf s.data.toList) ⟨(Pl.buildOf s.data.toList).toArray⟩ s w hO rfl hm (by omega) (nums_mag hs) (by rw [S_size]; omega) (by omega)).mono ?_
  rintro e w' ⟨rfl, hb⟩
  have hl : (Pl.keptN m s.data.toList).length = min m (Pl.numsOf s.data.toList).length := by unfold Pl.keptN; rw [List.length_take]
  exact ⟨by rw [hl]; rfl, (own_take2 hO rfl).below hb, hb⟩
theorem more_ready {s : ByteArray} {m : Nat} (h : s.size ≤ 1500 ∧ Pl.ascii s.data.toList = true ∧ Pl.buildKnown (Pl.keptB m s.data.toList) = true) : ReadyK m s := ⟨h.1, h.2.1, h.2.2⟩
theorem kept_like {w : World} {s : ByteArray} {m : Nat} {A : Option Addr} (hr : ReadyK m s) (h : Rd w 2 A (Pl.keptN m s.data.toList).length (IntC (Pl.keptN m s.data.toList))) : LikeIn w A (Pl.keptN m s.data.toList) ⟨(Pl.keptB m s.data.toList).toArray⟩ :=
  ⟨h, kept_fits (by have := hr.size; omega), hr.small, hr.build, hr.known⟩
set_option maxRecDepth 100000 in
set_option maxHeartbeats 8000000 in
theorem semverMore_walk (a b : ByteArray) (pe pn pi : Addr) (w : World) (ha : a.size ≤ maxLen) (hb : b.size ≤ maxLen) (hV : PkgVars w pe pn pi) (hBV : BigVars w) (hT : VTabs w) :
    Calls Tryz.prog 3 #[.string a, .string b] w fun e w' => e = .returned (.bool true) ∧ Below w.heap.size w w' := by
  unfold maxLen at ha hb
  by_cases h1 : a.size ≤ 2147483647
  · by_cases h2 : b.size ≤ 2147483647
    · have h1z : ¬ (2147483647 : Int) < (a.size : Int) := by omega
      have h2z : ¬ (2147483647 : Int) < (b.size : Int) := by omega
      go_enter Tryz.func3, Tryz.ntmps3
      go_wp2_with fail
      refine (more_any a 3 w h1 (by omega) hT).mono ?_; rintro e w1 ⟨⟨fa, rfl, hfa⟩, hb1⟩
      cases fa with
      | false =>
        go_wp2
        go_ret
        exact ⟨rfl, hb1⟩
      | true =>
        have HRA := Lib.hid (more_ready (hfa rfl))
        clear hfa
        go_wp2_with fail
        refine (more_any b 3 w1 h2 (by omega) (hT.below hb1)).mono ?_; rintro e w2 ⟨⟨fb, rfl, hfb⟩, hb2⟩
        have hbb2 := hb1.trans (hb2.mono hb1.size)
        cases fb with
        | false =>
          go_wp2
          go_ret
          exact ⟨rfl, hbb2⟩
        | true =>
          have HRB := Lib.hid (more_ready (hfb rfl))
          clear hfb
          have hsa := HRA.out.size
          have hsb := HRB.out.size
          have hord := Pl.semM_ord 3
          have htu := hord.turned a.data.toList b.data.toList
          have hth := hord.three b.data.toList a.data.toList
          obtain ⟨R, hR⟩ : ∃ R, Pl.semM 3 a.data.toList b.data.toList = R := ⟨_, rfl⟩
          obtain ⟨R2, hR2⟩ : ∃ R, Pl.semM 3 b.data.toList a.data.toList = R := ⟨_, rfl⟩
          rw [hR, hR2] at htu
          rw [hR2] at hth
          have hTU := Lib.hid (fun W => turned_any R R2 W (by omega))
          rw [htu] at hTU
          have hC := Lib.hid (fun (W : World) A c B d (h1 : Rd W 2 A (Pl.keptN 3 a.data.toList).length (IntC (Pl.keptN 3 a.data.toList))) (h2 : Rd W 2 B (Pl.keptN 3 b.data.toList).length (IntC (Pl.keptN 3 b.data.toList))) =>
            SemverCompare_any (Pl.startsV a.data.toList) (Pl.startsV b.data.toList) A B c d (Pl.keptN 3 a.data.toList) (Pl.keptN 3 b.data.toList) ⟨(Pl.keptB 3 a.data.toList).toArray⟩ ⟨(Pl.keptB 3 b.data.toList).toArray⟩ a b W h1 h2 (kept_fits (by omega)) (kept_fits (by omega)) HRA.out.build HRB.out.build)
          have hI := Lib.hid (fun (W : World) (h : Below w.heap.size w W) A c B d (h1 : LikeIn W A (Pl.keptN 3 a.data.toList) ⟨(Pl.keptB 3 a.data.toList).toArray⟩) (h2 : LikeIn W B (Pl.keptN 3 b.data.toList) ⟨(Pl.keptB 3 b.data.toList).toArray⟩) =>
            implSemver_any (Pl.startsV a.data.toList) (Pl.startsV b.data.toList) A B c d (Pl.keptN 3 a.data.toList) (Pl.keptN 3 b.data.toList) ⟨(Pl.keptB 3 a.data.toList).toArray⟩ ⟨(Pl.keptB 3 b.data.toList).toArray⟩ a b pe pn pi W h1 h2 (hV.below h))
          have hX1 := Lib.hid (fun (W : World) (h : Below w.heap.size w W) => SemverTextK_any a b pe pn pi W (hV.below h) (hBV.below h) HRA.out HRB.out)
          have hX2 := Lib.hid (fun (W : World) (h : Below w.heap.size w W) => SemverTextK_any b a pe pn pi W (hV.below h) (hBV.below h) HRB.out HRA.out)
          have hSP := Lib.hid (fun (W : World) => specSemverText_any a b W hsa hsb)
          have hRl : Pl.likeOrd (Pl.keptN 3 a.data.toList) (Pl.keptN 3 b.data.toList) (Pl.keptB 3 a.data.toList) (Pl.keptB 3 b.data.toList) = R := hR
          have hRl2 : Pl.likeOrd (Pl.keptN 3 b.data.toList) (Pl.keptN 3 a.data.toList) (Pl.keptB 3 b.data.toList) (Pl.keptB 3 a.data.toList) = R2 := hR2
          simp only at hC hI
          rw [hRl] at hC hI hX1
          rw [hRl2] at hX2
          rw [hR] at hSP
          clear hR hR2 hRl hRl2 hord htu hth
          go_wp2_with fail
          refine (LikeParse_any a w2 (by omega)).mono ?_; rintro e w3 ⟨A1, c1, rfl, hO1, hb3⟩
          have hbb3 := hbb2.trans (hb3.mono hbb2.size)
          go_wp2_with fail
          refine (keptText_any a 3 _ _ A1 c1 w3 hO1 hsa (by omega)).mono ?_; rintro e w4 ⟨rfl, hD1, hb4⟩
          have hbb4 := hbb3.trans (hb4.mono hbb3.size)
          go_wp2_with fail
          refine (LikeParse_any b w4 (by omega)).mono ?_; rintro e w5 ⟨A2, c2, rfl, hO2, hb5⟩
          have hbb5 := hbb4.trans (hb5.mono hbb4.size)
          have hD1b := hD1.below hb5
          go_wp2_with fail
          refine (keptText_any b 3 _ _ A2 c2 w5 hO2 hsb (by omega)).mono ?_; rintro e w6 ⟨rfl, hD2, hb6⟩
          have hbb6 := hbb5.trans (hb6.mono hbb5.size)
          go_wp2_with fail
          refine (hC.out w6 A1 c1 A2 c2 (hD1b.below hb6) hD2).mono ?_; rintro e w7 ⟨rfl, hb7⟩
          have hbb7 := hbb6.trans (hb7.mono hbb6.size)
          go_wp2_with fail
          refine (implLikeParse_any a pe pn pi w7 (by omega) (hV.below hbb7) HRA.out.asc).mono ?_; rintro e w8 ⟨A3, c3, rfl, hO3, hb8⟩
          have hbb8 := hbb7.trans (hb8.mono hbb7.size)
          go_wp2_with fail
          refine (keptText_any a 3 _ _ A3 c3 w8 hO3 hsa (by omega)).mono ?_; rintro e w9 ⟨rfl, hD3, hb9⟩
          have hbb9 := hbb8.trans (hb9.mono hbb8.size)
          go_wp2_with fail
          refine (implLikeParse_any b pe pn pi w9 (by omega) (hV.below hbb9) HRB.out.asc).mono ?_; rintro e wA ⟨A4, c4, rfl, hO4, hbA⟩
          have hbbA := hbb9.trans (hbA.mono hbb9.size)
          have hD3b := hD3.below hbA
          go_wp2_with fail
          refine (keptText_any b 3 _ _ A4 c4 wA hO4 hsb (by omega)).mono ?_; rintro e wB ⟨rfl, hD4, hbB⟩
          have hbbB := hbbA.trans (hbB.mono hbbA.size)
          go_wp2_with fail
          refine (hI.out wB hbbB A3 c3 A4 c4 (kept_like HRA.out (hD3b.below hbB)) (kept_like HRB.out hD4)).mono ?_; rintro e wC ⟨rfl, hbC⟩
          have hbbC := hbbB.trans (hbC.mono hbbB.size)
          go_wp2_with fail
          refine (hX1.out wC hbbC).mono ?_; rintro e wD ⟨rfl, hbD⟩
          have hbbD := hbbC.trans (hbD.mono hbbC.size)
          go_wp2_with fail
          refine (hX2.out wD hbbD).mono ?_; rintro e wE ⟨rfl, hbE⟩
          have hbbE := hbbD.trans (hbE.mono hbbD.size)
          go_wp2_with fail
          refine (hSP.out wE).mono ?_; rintro e wF ⟨rfl, hbF⟩
          have hbbF := hbbE.trans (hbF.mono hbbE.size)
          go_wp2_with fail
          refine (hTU.out wF).mono ?_; rintro e wG ⟨rfl, rfl⟩
          go_wp2
          go_ret
          exact ⟨rfl, hbbF⟩
    · have h1z : ¬ (2147483647 : Int) < (a.size : Int) := by omega
      have h2z : (2147483647 : Int) < (b.size : Int) := by omega
      go_enter Tryz.func3, Tryz.ntmps3
      go_wp2
      go_ret
      exact ⟨rfl, Below.refl _ _⟩
  · have h1z : (2147483647 : Int) < (a.size : Int) := by omega
    go_enter Tryz.func3, Tryz.ntmps3
    go_wp2
    go_ret
    exact ⟨rfl, Below.refl _ _⟩
end Go.Proofs.YtgfkdjmoflbmdaaGreatDoor
