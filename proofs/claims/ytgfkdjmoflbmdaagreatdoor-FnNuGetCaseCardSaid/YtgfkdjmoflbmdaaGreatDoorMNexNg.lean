/- Contract: dotted. Plain laws and helpers of FnNuGetCase. Walk: FnNuGetCase. -/
import Derived.Test.YtgfkdjmoflbmdaaGreatDoorMHixHj
import Derived.Test.YtgfkdjmoflbmdaaGreatDoorMNlxNd
namespace Go.Proofs.YtgfkdjmoflbmdaaGreatDoor
open Go.RowKit
open Go.Proofs

theorem wordB_iff (c : UInt8) : Pl.wordB c = true ↔ ((48 : Int) ≤ (c.toNat : Int) ∧ (c.toNat : Int) ≤ 57) ∨ ((97 : Int) ≤ (c.toNat : Int) ∧ (c.toNat : Int) ≤ 122) ∨ ((65 : Int) ≤ (c.toNat : Int) ∧ (c.toNat : Int) ≤ 90) := by
  simp only [Pl.wordB, Pl.isDig, Bool.or_eq_true, Bool.and_eq_true, decide_eq_true_eq]; omega
set_option maxRecDepth 100000 in
set_option maxHeartbeats 4000000 in
theorem dotted_any (s : ByteArray) (w : World) (hs : s.size ≤ 30000) :
    Calls Tryz.prog 31 #[.string s] w fun e w' => e = .returned (.bool (Pl.dottedB s.data.toList)) ∧ w = w' := by
  obtain ⟨r, hr⟩ : ∃ r, Pl.dottedB s.data.toList = r := ⟨_, rfl⟩
  rw [hr]
  have HR := Lib.hid hr
  clear hr
  go_enter Tryz.func31, Tryz.ntmps31
  go_wp2
  go_loop [3, 4] (fun ov iv => ∃ (k : Nat) (o : Bool), k ≤ s.size ∧ ov = .bool o ∧ iv = .int .i64 (k : Int) ∧ Pl.dotScan (s.data.toList.take k) true = some o) (fun _ iv => s.size - (intOf iv).toNat)
  case atStart => exact ⟨0, true, Nat.zero_le _, rfl, rfl, rfl⟩
  case round =>
    obtain ⟨k, o, hk, rfl, rfl, hscan⟩ := hrel
    have HS := Lib.hid hscan
    clear hscan
    by_cases hlt : k < s.size
    · have hck := get_list s k hlt
      have hdi := wordB_iff s[k]
      have hstep := Pl.dotScan_take HS.out hck
      have hbad := fun h1 h2 => Pl.dottedB_bad HS.out hck h1 h2
      have h46 : ((s[k].toNat : Int) == 46) = true ↔ s[k] = 46 := by
        rw [beq_iff_eq, ← UInt8.toNat_inj, show (46 : UInt8).toNat = 46 from rfl]; omega
      obtain ⟨c, hc⟩ : ∃ c, s[k] = c := ⟨_, rfl⟩
      rw [hc] at hdi hstep hbad h46
      have HDI := Lib.hid hdi
      have HST := Lib.hid hstep
      have HBAD := Lib.hid hbad
      have H46 := Lib.hid h46
      have HC := Lib.hid hc
      have hc256 := UInt8.toNat_lt c
      obtain ⟨x, hx⟩ : ∃ x : Nat, c.toNat = x := ⟨_, rfl⟩
      have hsx : s[k].toNat = x := by rw [hc, hx]
      rw [hx] at hc256 HDI H46
      clear hck hdi hstep hbad h46 hc hx
      rcases Classical.em (((48 : Int) ≤ (x : Int) ∧ (x : Int) ≤ 57) ∨ ((97 : Int) ≤ (x : Int) ∧ (x : Int) ≤ 122) ∨ ((65 : Int) ≤ (x : Int) ∧ (x : Int) ≤ 90)) with hd | hd
      · have HW := Lib.hid (HDI.out.2 hd)
        rcases hd with ⟨hd1, hd2⟩ | ⟨hd1, hd2⟩ | ⟨hd1, hd2⟩
        · go_wp2
          go_round
          case rel => exact ⟨k + 1, false, by omega, rfl, by go_num, by rw [HST.out, if_pos HW.out]⟩
          case measure => simp [intOf]; omega
        · have hd3 : ¬ (x : Int) ≤ 57 := by omega
          have hd4 : (48 : Int) ≤ (x : Int) := by omega
          go_wp2
          go_round
          case rel => exact ⟨k + 1, false, by omega, rfl, by go_num, by rw [HST.out, if_pos HW.out]⟩
          case measure => simp [intOf]; omega
        · have hd3 : ¬ (x : Int) ≤ 57 := by omega
          have hd4 : (48 : Int) ≤ (x : Int) := by omega
          have hd5 : ¬ (97 : Int) ≤ (x : Int) := by omega
          go_wp2
          go_round
          case rel => exact ⟨k + 1, false, by omega, rfl, by go_num, by rw [HST.out, if_pos HW.out]⟩
          case measure => simp [intOf]; omega
      · have hnd : Pl.wordB c = false := by
          cases e : Pl.wordB c with
          | false => rfl
          | true => exact absurd (HDI.out.1 e) hd
        have HND := Lib.hid hnd
        clear hnd
        cases h46 : ((x : Int) == 46) with
        | true =>
          have hx46 : (x : Int) = 46 := by simpa using h46
          have hc46 := H46.out.1 h46
          have HC46 := Lib.hid hc46
          clear hc46 hd
          have hx46n : x = 46 := by omega
          subst hx46n
          cases o with
          | false =>
            go_wp2
            go_round
            case rel => exact ⟨k + 1, true, by omega, rfl, by go_num, by rw [HST.out, if_neg (by rw [HND.out]; decide), if_pos ⟨HC46.out, rfl⟩]⟩
            case measure => simp [intOf]; omega
          | true =>
            go_wp2
            go_ret
            exact ⟨ret_bool (by rw [← HR.out, HBAD.out HND.out (fun h => by cases h.2)]), rfl⟩
        | false =>
          have hb := HBAD.out HND.out (fun h => by have := H46.out.2 h.1; rw [h46] at this; cases this)
          have HB := Lib.hid hb
          clear hb
          have hd' : (x : Int) < 48 ∨ (57 < (x : Int) ∧ (x : Int) < 65) ∨ (90 < (x : Int) ∧ (x : Int) < 97) ∨ 122 < (x : Int) := by omega
          clear hd
          rcases hd' with h1 | ⟨h1, h2⟩ | ⟨h1, h2⟩ | h1
          · have g1 : ¬ (48 : Int) ≤ (x : Int) := by omega
            have g2 : ¬ (97 : Int) ≤ (x : Int) := by omega
            have g3 : ¬ (65 : Int) ≤ (x : Int) := by omega
            go_wp2
            go_ret
            exact ⟨ret_bool (by rw [← HR.out, HB.out]), rfl⟩
          · have g1 : (48 : Int) ≤ (x : Int) := by omega
            have g0 : ¬ (x : Int) ≤ 57 := by omega
            have g2 : ¬ (97 : Int) ≤ (x : Int) := by omega
            have g3 : ¬ (65 : Int) ≤ (x : Int) := by omega
            go_wp2
            go_ret
            exact ⟨ret_bool (by rw [← HR.out, HB.out]), rfl⟩
          · have g1 : (48 : Int) ≤ (x : Int) := by omega
            have g0 : ¬ (x : Int) ≤ 57 := by omega
            have g2 : ¬ (97 : Int) ≤ (x : Int) := by omega
            have g3 : (65 : Int) ≤ (x : Int) := by omega
            have g4 : ¬ (x : Int) ≤ 90 := by omega
            go_wp2
            go_ret
            exact ⟨ret_bool (by rw [← HR.out, HB.out]), rfl⟩
          · have g1 : (48 : Int) ≤ (x : Int) := by omega
            have g0 : ¬ (x : Int) ≤ 57 := by omega
            have g2 : (97 : Int) ≤ (x : Int) := by omega
            have g5 : ¬ (x : Int) ≤ 122 := by omega
            have g3 : (65 : Int) ≤ (x : Int) := by omega
            have g4 : ¬ (x : Int) ≤ 90 := by omega
            go_wp2
            go_ret
            exact ⟨ret_bool (by rw [← HR.out, HB.out]), rfl⟩
    · obtain rfl : k = s.size := by omega
      have hend := Pl.dottedB_end (by rw [len_list]; exact HS.out)
      have HE := Lib.hid hend
      clear hend
      go_wp2
      go_ret
      exact ⟨ret_bool (by rw [← HR.out, HE.out]), rfl⟩
end Go.Proofs.YtgfkdjmoflbmdaaGreatDoor

namespace Go.Proofs.YtgfkdjmoflbmdaaGreatDoor
open Go.RowKit
open Go.Proofs

theorem Pl.wordB_upp {c : UInt8} (h : (Pl.wordB c || c == 46) = true) : (Pl.wordB (Pl.uppB c) || Pl.uppB c == 46) = true := by
  have hu := Pl.uppB_nat c
  simp only [Pl.wordB, Pl.isDig, Bool.or_eq_true, Bool.and_eq_true, decide_eq_true_eq, beq_iff_eq] at h ⊢
  rw [← UInt8.toNat_inj] at h ⊢
  rw [hu]
  have : (46 : UInt8).toNat = 46 := rfl
  rw [this] at h ⊢
  split <;> omega
theorem Pl.word_upper {x : Pl.Bytes} (h : x.all (fun c => Pl.wordB c || c == 46) = true) : (Pl.upper x).all (fun c => Pl.wordB c || c == 46) = true := by
  rw [List.all_eq_true] at h ⊢
  intro c hc
  rw [Pl.upper, List.mem_map] at hc
  obtain ⟨d, hd, rfl⟩ := hc
  exact Pl.wordB_upp (h d hd)
/-- a text, a hyphen, a text -/
def joinH (a d : ByteArray) : ByteArray := a ++ ⟨#[45]⟩ ++ d
theorem joinH_data (a d : ByteArray) : (joinH a d).data.toList = a.data.toList ++ 45 :: d.data.toList := by simp [joinH]
theorem joinH_size (a d : ByteArray) : (joinH a d).size = a.size + 1 + d.size := by rw [← len_list, joinH_data, List.length_append, List.length_cons, len_list, len_list]; omega
/-- what is read of numbers, a hyphen and a word -/
theorem joinH_parts {a d : ByteArray} {m : Nat} (ha : Pl.numberedB a.data.toList m = true) :
    Pl.numsOf (joinH a d).data.toList = Pl.numsIn (Pl.splitB 46 a.data.toList) ∧ Pl.buildOf (joinH a d).data.toList = 45 :: d.data.toList ∧ (Pl.numsOf (joinH a d).data.toList).length ≤ m := by
  have h := Pl.numbered_parts (t := 45 :: d.data.toList) ha (Or.inr ⟨45, _, rfl, by decide⟩)
  rw [joinH_data]
  refine ⟨h.1, h.2.1, ?_⟩
  rw [h.1]
  exact Nat.le_trans (Pl.numsIn_len _) (Pl.numbered_says ha).2.1
theorem joinH_ready {a d : ByteArray} {m : Nat} (ha : Pl.numberedB a.data.toList m = true) (hd : d.data.toList.all (fun c => Pl.wordB c || c == 46) = true) (h1 : a.size ≤ 1500) (h2 : d.size ≤ 1500) : Ready (joinH a d) := by
  obtain ⟨k1, k2, k3⟩ := joinH_parts (d := d) ha
  refine ⟨by rw [joinH_size]; omega, ?_, by rw [k2]; exact Pl.buildKnown_word hd⟩
  rw [joinH_data, Pl.ascii, List.all_eq_true]
  intro c hc
  rw [decide_eq_true_eq]
  rcases List.mem_append.1 hc with hc | hc
  · exact Pl.core_ascii (Pl.numbered_says ha).1 c hc
  · rcases List.mem_cons.1 hc with hc | hc
    · subst hc; decide
    · exact (Pl.wordB_ascii (List.all_eq_true.1 hd c hc)).1
theorem Pl.lower_hy (x : Pl.Bytes) : Pl.lower (45 :: Pl.upper x) = Pl.lower (45 :: x) := by rw [Pl.lower_cons, Pl.lower_cons, Pl.lower_upper]
/-- the order of two joined texts -/
theorem join_ord {a x y : ByteArray} {m : Nat} (ha : Pl.numberedB a.data.toList m = true) :
    Pl.nugetOrd (Pl.numsOf (joinH a x).data.toList) (Pl.numsOf (joinH a y).data.toList) (Pl.buildOf (joinH a x).data.toList) (Pl.buildOf (joinH a y).data.toList) = Pl.builds (Pl.lower (45 :: x.data.toList)) (Pl.lower (45 :: y.data.toList)) := by
  rw [(joinH_parts (d := x) ha).1, (joinH_parts (d := x) ha).2.1, (joinH_parts (d := y) ha).1, (joinH_parts (d := y) ha).2.1, Pl.nugetOrd, Pl.cmpNums_ord.self]
  simp
end Go.Proofs.YtgfkdjmoflbmdaaGreatDoor

namespace Go.Proofs.YtgfkdjmoflbmdaaGreatDoor
open Go.RowKit
open Go.Proofs

theorem short3 (a b c : Pl.Bytes) : Pl.shortB [a, b, c] = (decide (a.length ≤ 1500) && (decide (b.length ≤ 1500) && decide (c.length ≤ 1500))) := by simp [Pl.shortB]
theorem encode_byte {c : UInt8} (h : c.toNat ≤ 127) : Utf8.encode ((c.toNat : Int)) = ⟨#[c]⟩ := by
  have h1 : Utf8.valid (c.toNat : Int) = true := by simp [Utf8.valid]; omega
  have h2 : ((c.toNat : Int)).toNat = c.toNat := by omega
  unfold Utf8.encode
  simp only [h1, if_true, h2]
  rw [if_pos (by omega)]
  simp
set_option maxRecDepth 100000 in
set_option maxHeartbeats 4000000 in
theorem nugetCase_walk (a x y : ByteArray) (pe pn pi : Addr) (w : World) (ha : a.size ≤ maxLen) (hx : x.size ≤ maxLen) (hy : y.size ≤ maxLen) (hV : PkgVars w pe pn pi) (_hT : VTabs w) :
    Calls Tryz.prog 7 #[.string a, .string x, .string y] w fun e w' => e = .returned (.bool true) ∧ Below w.heap.size w w' := by
  unfold maxLen at ha hx hy
  rcases Nat.lt_or_ge 2147483647 a.size with h1 | h1
  · have h1z : (2147483647 : Int) < (a.size : Int) := by omega
    go_enter Tryz.func7, Tryz.ntmps7
    go_wp2
    go_ret
    exact ⟨rfl, Below.refl _ _⟩
  have h1z : ¬ (2147483647 : Int) < (a.size : Int) := by omega
  rcases Nat.lt_or_ge 2147483647 x.size with h2 | h2
  · have h2z : (2147483647 : Int) < (x.size : Int) := by omega
    go_enter Tryz.func7, Tryz.ntmps7
    go_wp2
    go_ret
    exact ⟨rfl, Below.refl _ _⟩
  have h2z : ¬ (2147483647 : Int) < (x.size : Int) := by omega
  rcases Nat.lt_or_ge 2147483647 y.size with h3 | h3
  · have h3z : (2147483647 : Int) < (y.size : Int) := by omega
    go_enter Tryz.func7, Tryz.ntmps7
    go_wp2
    go_ret
    exact ⟨rfl, Below.refl _ _⟩
  have h3z : ¬ (2147483647 : Int) < (y.size : Int) := by omega
  obtain ⟨W, hW⟩ : ∃ W, w.alloc (.cells #[.string a, .string x, .string y] 9) = W := ⟨_, rfl⟩
  have hbW : Below w.heap.size w W := by rw [← hW]; exact (Below.refl _ _).alloc (Nat.le_refl _) _
  have hBS : Blk W w.heap.size 9 #[.string a, .string x, .string y] := by rw [← hW]; exact Blk.new _ _ _
  have HS := Lib.hid (short_any (some ⟨w.heap.size, 0, none⟩) 3 [a.data.toList, x.data.toList, y.data.toList] W (Rd.of_blk hBS 1 3 rfl) (by simp) (by simp; unfold maxLen; omega))
  rw [short3, len_list, len_list, len_list] at HS
  have HW := Lib.hid hW
  clear hW
  rcases Classical.em (¬ (a.size ≤ 1500 ∧ x.size ≤ 1500 ∧ y.size ≤ 1500)) with hall | hall
  · rw [show (decide (a.size ≤ 1500) && (decide (x.size ≤ 1500) && decide (y.size ≤ 1500))) = false from by
      cases e : (decide (a.size ≤ 1500) && (decide (x.size ≤ 1500) && decide (y.size ≤ 1500))) with
      | false => rfl
      | true => simp at e; exact absurd e hall] at HS
    go_enter Tryz.func7, Tryz.ntmps7
    go_wp2_with fail
    rw [HW.out]
    refine HS.out.mono ?_; rintro e w1 ⟨rfl, rfl⟩
    go_wp2
    go_ret
    exact ⟨rfl, hbW⟩
  obtain ⟨sa, sx, sy⟩ := Classical.not_not.1 hall
  clear hall
  rw [show (decide (a.size ≤ 1500) && (decide (x.size ≤ 1500) && decide (y.size ≤ 1500))) = true from by simp [sa, sx, sy]] at HS
  have NA := Lib.hid (fun w => numbered_any a 4 w (by omega) (by omega))
  have NX := Lib.hid (fun w => dotted_any x w (by omega))
  have NY := Lib.hid (fun w => dotted_any y w (by omega))
  obtain ⟨na, hna⟩ : ∃ z, Pl.numberedB a.data.toList 4 = z := ⟨_, rfl⟩
  obtain ⟨nx, hnx⟩ : ∃ z, Pl.dottedB x.data.toList = z := ⟨_, rfl⟩
  obtain ⟨ny, hny⟩ : ∃ z, Pl.dottedB y.data.toList = z := ⟨_, rfl⟩
  rw [hna] at NA
  rw [hnx] at NX
  rw [hny] at NY
  have HNA := Lib.hid hna
  have HNX := Lib.hid hnx
  have HNY := Lib.hid hny
  clear hna hnx hny
  have HJX := Lib.hid (show a ++ ⟨#[45]⟩ ++ x = joinH a x from rfl)
  have HJY := Lib.hid (show a ++ ⟨#[45]⟩ ++ y = joinH a y from rfl)
  have HJ := Lib.hid (fun d => show a ++ ⟨#[45]⟩ ++ d = joinH a d from rfl)
  have hjx := joinH_size a x
  have hjy := joinH_size a y
  go_enter Tryz.func7, Tryz.ntmps7
  go_wp2_with fail
  rw [HW.out]
  refine HS.out.mono ?_; rintro e w1 ⟨rfl, rfl⟩
  go_wp2_with fail
  refine (NA.out _).mono ?_; rintro e w1 ⟨rfl, rfl⟩
  cases na with
  | false => go_wp2; go_ret; exact ⟨rfl, hbW⟩
  | true =>
  go_wp2_with fail
  refine (NX.out _).mono ?_; rintro e w1 ⟨rfl, rfl⟩
  cases nx with
  | false => go_wp2; go_ret; exact ⟨rfl, hbW⟩
  | true =>
  go_wp2_with fail
  refine (NY.out _).mono ?_; rintro e w1 ⟨rfl, rfl⟩
  cases ny with
  | false => go_wp2; go_ret; exact ⟨rfl, hbW⟩
  | true =>
  have hwx := (Pl.dotted_says HNX.out).1
  have HWX := Lib.hid hwx
  clear hwx
  go_wp2_with fail
  go_loopw [7, 8] (fun gv iv wr => ∃ (k : Nat) (g : ByteArray), k ≤ x.size ∧ gv = .string g ∧ iv = .int .i64 (k : Int) ∧ g.data.toList = Pl.upper (x.data.toList.take k) ∧ wr = W) (fun _ iv _ => x.size - (intOf iv).toNat)
  case atStart => exact ⟨0, ⟨#[]⟩, Nat.zero_le _, rfl, rfl, rfl, rfl⟩
  case round =>
    obtain ⟨k, g, hk, rfl, rfl, hg, rfl⟩ := hrel
    have HG := Lib.hid hg
    have hgs : g.size ≤ k := by rw [← len_list, hg, Pl.upper_len]; exact List.length_take_le _ _
    clear hg
    by_cases hlt : k < x.size
    · have hck := get_list x k hlt
      have hc127 : x[k].toNat ≤ 127 := (Pl.wordB_ascii (List.all_eq_true.1 HWX.out _ (List.mem_of_getElem? hck))).1
      have hnext : Pl.upper (x.data.toList.take (k + 1)) = Pl.upper (x.data.toList.take k) ++ [Pl.uppB x[k]] := by
        rw [Pl.take_at hck, Pl.upper, List.map_append]; rfl
      have hupp := Pl.uppB_nat x[k]
      obtain ⟨c, hc⟩ : ∃ c, x[k] = c := ⟨_, rfl⟩
      rw [hc] at hc127 hnext hupp
      obtain ⟨u, hu⟩ : ∃ u, Pl.uppB c = u := ⟨_, rfl⟩
      rw [hu] at hnext hupp
      have hu127 : u.toNat ≤ 127 := by rw [hupp]; split <;> omega
      have HE := Lib.hid (encode_byte hu127)
      have HNEXT := Lib.hid hnext
      obtain ⟨n, hn⟩ : ∃ n : Nat, c.toNat = n := ⟨_, rfl⟩
      have hsn : x[k].toNat = n := by rw [hc, hn]
      rw [hn] at hc127 hupp
      clear hck hnext hc hu hn
      by_cases hd1 : (97 : Int) ≤ (n : Int)
      · by_cases hd2 : (n : Int) ≤ 122
        · rw [if_pos (by omega)] at hupp
          have he : ((n : Int) - 32) = (u.toNat : Int) := by omega
          clear hupp
          have hE := HE.out
          go_wp2
          go_roundw
          case rel => exact ⟨k + 1, g ++ ⟨#[u]⟩, by omega, rfl, by go_num, by rw [HNEXT.out, ← HG.out]; simp, trivial⟩
          case measure => simp [intOf]; omega
        · rw [if_neg (by omega)] at hupp
          subst hupp
          have hE := HE.out
          go_wp2
          go_roundw
          case rel => exact ⟨k + 1, g ++ ⟨#[u]⟩, by omega, rfl, by go_num, by rw [HNEXT.out, ← HG.out]; simp, trivial⟩
          case measure => simp [intOf]; omega
      · rw [if_neg (by omega)] at hupp
        subst hupp
        have hE := HE.out
        go_wp2
        go_roundw
        case rel => exact ⟨k + 1, g ++ ⟨#[u]⟩, by omega, rfl, by go_num, by rw [HNEXT.out, ← HG.out]; simp, trivial⟩
        case measure => simp [intOf]; omega
    · obtain rfl : k = x.size := by omega
      have hgx : g.data.toList = Pl.upper x.data.toList := by rw [HG.out, List.take_of_length_le (by rw [len_list]; exact Nat.le_refl _)]
      have hjg := joinH_size a g
      have hgl := joinH_data a g
      have hwg : g.data.toList.all (fun c => Pl.wordB c || c == 46) = true := by rw [hgx]; exact Pl.word_upper HWX.out
      have rx := joinH_ready (d := x) HNA.out HWX.out sa sx
      have rg := joinH_ready (d := g) HNA.out hwg sa (by omega)
      have ry := joinH_ready (d := y) HNA.out (Pl.dotted_says HNY.out).1 sa sy
      have lx := (joinH_parts (d := x) HNA.out).2.2
      have lg := (joinH_parts (d := g) HNA.out).2.2
      have ly := (joinH_parts (d := y) HNA.out).2.2
      have H1 := Lib.hid (fun (w' : World) (h : Below w.heap.size w w') => NuGetText_any (joinH a x) (joinH a g) pe pn pi w' (hV.below h) rx rg (by omega) (by omega))
      have H2 := Lib.hid (fun (w' : World) (h : Below w.heap.size w w') => NuGetText_any (joinH a x) (joinH a y) pe pn pi w' (hV.below h) rx ry (by omega) (by omega))
      have H3 := Lib.hid (fun (w' : World) (h : Below w.heap.size w w') => NuGetText_any (joinH a g) (joinH a y) pe pn pi w' (hV.below h) rg ry (by omega) (by omega))
      rw [join_ord HNA.out, hgx, Pl.lower_hy, Pl.builds_ord.self] at H1
      rw [join_ord HNA.out] at H2
      rw [join_ord HNA.out, hgx, Pl.lower_hy] at H3
      obtain ⟨R, hR⟩ : ∃ R, Pl.builds (Pl.lower (45 :: x.data.toList)) (Pl.lower (45 :: y.data.toList)) = R := ⟨_, rfl⟩
      rw [hR] at H2 H3
      clear hR rx rg ry lx lg ly hgx hwg hgl
      go_wp2_with fail
      rw [HJX.out, HJ.out]
      refine (H1.out _ hbW).mono ?_; rintro e w6 ⟨rfl, hb6⟩
      have hbb6 := hbW.trans (hb6.mono hbW.size)
      go_wp2_with fail
      rw [HJX.out, HJY.out]
      refine (H2.out w6 hbb6).mono ?_; rintro e w7 ⟨rfl, hb7⟩
      have hbb7 := hbb6.trans (hb7.mono hbb6.size)
      go_wp2_with fail
      rw [HJ.out, HJY.out]
      refine (H3.out w7 hbb7).mono ?_; rintro e w8 ⟨rfl, hb8⟩
      have hbb8 := hbb7.trans (hb8.mono hbb7.size)
      go_wp2
      go_ret
      exact ⟨ret_bool (by simp), hbb8⟩
end Go.Proofs.YtgfkdjmoflbmdaaGreatDoor
