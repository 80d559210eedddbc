/- Contracts; Contracts; Contracts. -/
import Derived.Test.YtgfkdjmoflbmdaaGreatDoorRWtxPlH
import Derived.Lib.EndianBits
import Derived.Laws.BitsAllLaws
namespace Go.Proofs.YtgfkdjmoflbmdaaGreatDoor
open Go.RowKit
open Go.Proofs
theorem idents_len' (s : ByteArray) (hs : s.size ≤ 30000) : (Pl.idents s.data.toList).length ≤ 40000 := by
  have := Pl.idents_len s.data.toList
  rw [len_list] at this; omega
theorem idents_mem' (s : ByteArray) (hs : s.size ≤ 30000) : ∀ p ∈ Pl.idents s.data.toList, p.length ≤ 30000 := by
  intro p hp
  have := Pl.idents_mem s.data.toList p hp
  rw [len_list] at this; omega
theorem BuildKnown_any (s : ByteArray) (w : World) (hs : s.size ≤ 30000) :
    Calls Tryz.prog 45 #[.string s] w fun e w' => e = .returned (.bool (Pl.buildKnown s.data.toList)) ∧ Below w.heap.size w w' := by
  by_cases ha : Pl.ascii s.data.toList = true
  · have hl := idents_len' s hs
    have hm := idents_mem' s hs
    have HL := Lib.hid hl
    have HM := Lib.hid hm
    clear hl hm
    go_enter Tryz.func45, Tryz.ntmps45
    go_wp2_with (first
      | (go_at_call 43; refine (Ascii_any _ _ (by unfold maxLen; omega)).mono ?_; rintro e w' ⟨rfl, rfl⟩)
      | (go_at_call 84; refine (likeIdentifiers_any _ _ hs).mono ?_; rintro e w1 ⟨A, c, rfl, hown, hb⟩)
      | (go_at_call 83; refine (IdentifiersKnown_any _ _ _ _ (Rd.of_own hown) HL.out HM.out).mono ?_; rintro e w' ⟨rfl, rfl⟩))
    go_ret
    exact ⟨ret_bool (by simp [Pl.buildKnown, ha]), hb⟩
  · have ha1 : Pl.ascii s.data.toList = false := by simpa using ha
    clear ha
    go_enter Tryz.func45, Tryz.ntmps45
    go_wp2_with (first
      | (go_at_call 43; refine (Ascii_any _ _ (by unfold maxLen; omega)).mono ?_; rintro e w' ⟨rfl, rfl⟩))
    go_ret
    exact ⟨ret_bool (by simp [Pl.buildKnown, ha1]), Below.refl _ _⟩
set_option maxHeartbeats 2000000 in
theorem Identifiers_any (A B : Option Addr) (ca cb : Nat) (xs ys : List Pl.Bytes) (w : World) (hra : Rd w 1 A xs.length (xs.map S)) (hrb : Rd w 1 B ys.length (ys.map S))
    (hla : xs.length ≤ 40000) (_hlb : ys.length ≤ 40000) (hma : ∀ s ∈ xs, s.length ≤ 30000) (hmb : ∀ s ∈ ys, s.length ≤ 30000) :
    Calls Tryz.prog 105 #[.slice A xs.length ca, .slice B ys.length cb] w fun e w' => e = .returned (.int .i64 (Pl.identsCmp xs ys)) ∧ Below w.heap.size w w' := by
  have HMA := Lib.hid hma
  have HMB := Lib.hid hmb
  clear hma hmb
  go_enter Tryz.func105, Tryz.ntmps105
  go_wp2
  go_loopw [5] (fun i wr => ∃ k : Nat, k ≤ xs.length ∧ k ≤ ys.length ∧ i = .int .i64 k ∧ Pl.identsCmp (xs.drop k) (ys.drop k) = Pl.identsCmp xs ys ∧ Below w.heap.size w wr) (fun i _ => xs.length - (intOf i).toNat)
  case atStart => exact ⟨0, Nat.zero_le _, Nat.zero_le _, rfl, rfl, Below.refl _ _⟩
  case round =>
    obtain ⟨k, hka, hkb, rfl, hcmp, hbel⟩ := hrel
    have HC := Lib.hid hcmp
    clear hcmp
    by_cases ha : k < xs.length
    · by_cases hb : k < ys.length
      · obtain ⟨b1, o1, rfl, hc⟩ := (hra.below hbel).str_at ha
        obtain ⟨b2, o2, rfl, hd⟩ := (hrb.below hbel).str_at hb
        have hs1 := HMA.out xs[k] (List.getElem_mem ha)
        have hs2 := HMB.out ys[k] (List.getElem_mem hb)
        have hstep := Pl.identsCmp_step xs ys k ha hb
        obtain ⟨x, hx⟩ : ∃ x, xs[k] = x := ⟨_, rfl⟩
        obtain ⟨y, hy⟩ : ∃ y, ys[k] = y := ⟨_, rfl⟩
        rw [hx] at hc hs1 hstep
        rw [hy] at hd hs2 hstep
        have HS := Lib.hid hstep
        clear hstep hx hy
        obtain ⟨z, hz⟩ : ∃ z, Pl.idOne x y = z := ⟨_, rfl⟩
        have hcall : ∀ W : World, Calls Tryz.prog 74 #[S x, S y] W fun e w' => e = .returned (.int .i64 z) ∧ W = w' := by
          intro W
          rw [← hz]
          exact pageOne_any ⟨x.toArray⟩ ⟨y.toArray⟩ W (by unfold maxLen; rw [S_size]; omega) (by unfold maxLen; rw [S_size]; omega)
        rw [hz] at HS
        clear hz
        have HCALL := Lib.hid hcall
        clear hcall
        by_cases hz0 : z = 0
        · have hz1 : (z != 0) = false := by simp [hz0]
          have HZ0 := Lib.hid hz0
          clear hz0
          go_wp2
          go_quiet ((go_at_call 74; exact quiet_left (HCALL.out _)))
          go_wp2
          go_roundw
          case rel => exact ⟨k + 1, by omega, by omega, by go_num, by rw [← HC.out, HS.out, if_neg (by rw [HZ0.out]; simp)], below_drewN hbel _⟩
          case measure => simp [intOf]; omega
        · have hz1 : (z != 0) = true := by simpa using hz0
          have HZ0 := Lib.hid hz0
          clear hz0
          go_wp2
          go_quiet ((go_at_call 74; exact quiet_left (HCALL.out _)))
          go_wp2
          go_ret
          exact ⟨ret_int (by rw [← HC.out, HS.out, if_pos HZ0.out]), below_drewN hbel _⟩
      · go_wp2_with (go_at_call 73; refine (orderInts_any _ _ _).mono ?_; rintro e w' ⟨rfl, rfl⟩)
        go_ret
        exact ⟨ret_int (by rw [← HC.out, Pl.identsCmp_end _ _ _ (Or.inr (by omega)) hka hkb]), hbel⟩
    · go_wp2_with (go_at_call 73; refine (orderInts_any _ _ _).mono ?_; rintro e w' ⟨rfl, rfl⟩)
      go_ret
      exact ⟨ret_int (by rw [← HC.out, Pl.identsCmp_end _ _ _ (Or.inl (by omega)) hka hkb]), hbel⟩
theorem Builds_any (a b : ByteArray) (w : World) (ha : a.size ≤ 30000) (hb : b.size ≤ 30000) :
    Calls Tryz.prog 86 #[.string a, .string b] w fun e w' => e = .returned (.int .i64 (Pl.builds a.data.toList b.data.toList)) ∧ Below w.heap.size w w' := by
  have hla := idents_len' a ha
  have hma := idents_mem' a ha
  have hlb := idents_len' b hb
  have hmb := idents_mem' b hb
  have HMA := Lib.hid hma
  have HMB := Lib.hid hmb
  clear hma hmb
  obtain ⟨X, hX⟩ : ∃ X, Pl.idents a.data.toList = X := ⟨_, rfl⟩
  obtain ⟨Y, hY⟩ : ∃ Y, Pl.idents b.data.toList = Y := ⟨_, rfl⟩
  obtain ⟨R, hR⟩ : ∃ R, Pl.builds a.data.toList b.data.toList = R := ⟨_, rfl⟩
  rw [hR]
  have HR := Lib.hid hR
  clear hR
  have cX := likeIdentifiers_any a
  have cY := likeIdentifiers_any b
  have HX := Lib.hid hX
  have HY := Lib.hid hY
  rw [hX] at HMA hla cX
  rw [hY] at HMB hlb cY
  have CX := Lib.hid cX
  have CY := Lib.hid cY
  clear hX hY cX cY
  by_cases hx0 : X.length = 0
  · obtain rfl : X = [] := List.eq_nil_of_length_eq_zero hx0
    clear hx0
    by_cases hy0 : Y.length = 0
    · obtain rfl : Y = [] := List.eq_nil_of_length_eq_zero hy0
      clear hy0
      go_enter Tryz.func86, Tryz.ntmps86
      go_wp2_with fail
      refine (CX.out _ ha).mono ?_; rintro e w1 ⟨A, ca, rfl, hown1, hb1⟩
      go_wp2_with fail
      refine (CY.out _ hb).mono ?_; rintro e w2 ⟨B, cb, rfl, hown2, hb2⟩
      go_wp2_with fail
      all_goals
        refine (orderInts_any _ _ _).mono ?_; rintro e w3 ⟨rfl, rfl⟩
        go_wp2_with fail
        go_ret
        refine ⟨ret_int ?_, hb1.trans (hb2.mono hb1.size)⟩
        rw [← HR.out, Pl.builds, HX.out, HY.out, if_pos (.inl rfl)]
        congr 1 <;> (try simp only [List.length_nil]) <;> omega
    · have hy1 : 1 ≤ Y.length := by omega
      clear hy0
      go_enter Tryz.func86, Tryz.ntmps86
      go_wp2_with fail
      refine (CX.out _ ha).mono ?_; rintro e w1 ⟨A, ca, rfl, hown1, hb1⟩
      go_wp2_with fail
      refine (CY.out _ hb).mono ?_; rintro e w2 ⟨B, cb, rfl, hown2, hb2⟩
      go_wp2_with fail
      all_goals
        refine (orderInts_any _ _ _).mono ?_; rintro e w3 ⟨rfl, rfl⟩
        go_wp2_with fail
        go_ret
        refine ⟨ret_int ?_, hb1.trans (hb2.mono hb1.size)⟩
        rw [← HR.out, Pl.builds, HX.out, HY.out, if_pos (.inl rfl)]
        congr 1 <;> (try simp only [List.length_nil]) <;> omega
  · by_cases hy0 : Y.length = 0
    · obtain rfl : Y = [] := List.eq_nil_of_length_eq_zero hy0
      have hx1 : ((X.length : Int) == 0) = false := by rw [beq_eq_false_iff_ne]; omega
      have hx2 : 1 ≤ X.length := by omega
      clear hx0 hy0
      go_enter Tryz.func86, Tryz.ntmps86
      go_wp2_with fail
      refine (CX.out _ ha).mono ?_; rintro e w1 ⟨A, ca, rfl, hown1, hb1⟩
      go_wp2_with fail
      refine (CY.out _ hb).mono ?_; rintro e w2 ⟨B, cb, rfl, hown2, hb2⟩
      go_wp2_with fail
      all_goals
        refine (orderInts_any _ _ _).mono ?_; rintro e w3 ⟨rfl, rfl⟩
        go_wp2_with fail
        go_ret
        refine ⟨ret_int ?_, hb1.trans (hb2.mono hb1.size)⟩
        rw [← HR.out, Pl.builds, HX.out, HY.out, if_pos (.inr rfl)]
        congr 1 <;> (try simp only [List.length_nil]) <;> omega
    · have hx1 : ((X.length : Int) == 0) = false := by rw [beq_eq_false_iff_ne]; omega
      have hy1 : ((Y.length : Int) == 0) = false := by rw [beq_eq_false_iff_ne]; omega
      go_enter Tryz.func86, Tryz.ntmps86
      go_wp2_with fail
      refine (CX.out _ ha).mono ?_; rintro e w1 ⟨A, ca, rfl, hown1, hb1⟩
      go_wp2_with fail
      refine (CY.out _ hb).mono ?_; rintro e w2 ⟨B, cb, rfl, hown2, hb2⟩
      go_wp2_with fail
      refine (Identifiers_any _ _ _ _ X Y _ ((Rd.of_own hown1).below hb2) (Rd.of_own hown2) hla hlb HMA.out HMB.out).mono ?_; rintro e w3 ⟨rfl, hb3⟩
      go_wp2_with fail
      go_ret
      refine ⟨ret_int ?_, (hb1.trans (hb2.mono hb1.size)).trans (hb3.mono (Nat.le_trans hb1.size hb2.size))⟩
      rw [← HR.out, Pl.builds, HX.out, HY.out, if_neg (by omega)]
def headIs (c : UInt8) (l : List UInt8) : Bool := l[0]? == some c
def trimC (c : UInt8) : List UInt8 → List UInt8
  | [] => []
  | d :: r => if d = c then r else d :: r
theorem headIs_at {s : ByteArray} (c : UInt8) (h0 : 0 < s.size) : headIs c s.data.toList = decide (s[0] = c) := by
  rw [headIs, get_list s 0 h0]
  by_cases h : s[0] = c
  · simp [h]
  · simp [h]
theorem trimC_at {s : ByteArray} (c : UInt8) (h0 : 0 < s.size) : trimC c s.data.toList = if s[0] = c then (s.extract 1 s.size).data.toList else s.data.toList := by
  rw [list_cons s h0]
  rfl
theorem nil_of_size {s : ByteArray} (h : ¬ 0 < s.size) : s.data.toList = [] := List.eq_nil_of_length_eq_zero (by rw [len_list]; omega)
theorem take_one {s : ByteArray} (h0 : 0 < s.size) : s.extract 0 1 = one s[0] := ext_one (k := 0) h0
theorem hasPrefix_any (s : ByteArray) (c : UInt8) (w : World) (hs : s.size ≤ 100000) :
    Calls Tryz.prog 127 #[.string s, .string (one c)] w fun e w' => e = .returned (.bool (headIs c s.data.toList)) ∧ w = w' := by
  have h1s : (one c).size = 1 := rfl
  by_cases h0 : 0 < s.size
  · have hh := headIs_at c h0
    have ht := take_one h0
    have h0z : (1 : Int) ≤ (s.size : Int) := by omega
    by_cases he : s[0] = c
    · have hx : s.extract 0 1 = one c := by rw [ht, he]
      have HH := Lib.hid (hh.trans (decide_eq_true he))
      obtain ⟨sub, hsub⟩ : ∃ sub, one c = sub := ⟨_, rfl⟩
      rw [hsub] at h1s hx ⊢
      clear hsub hh ht he
      go_enter Tryz.func127, Tryz.ntmps127
      go_wp2
      go_ret
      exact ⟨ret_bool HH.out.symm, rfl⟩
    · have HH := Lib.hid (hh.trans (decide_eq_false he))
      obtain ⟨sub2, hx⟩ : ∃ sub2, s.extract 0 1 = sub2 := ⟨_, rfl⟩
      obtain ⟨sub, hsub⟩ : ∃ sub, one c = sub := ⟨_, rfl⟩
      have hne : (sub2.toList == sub.toList) = false := by
        rw [beq_eq_false_iff_ne]
        intro e
        apply he
        rw [← hx, ht, ← hsub, toList_eq, toList_eq] at e
        simpa [one] using e
      rw [hsub] at h1s ⊢
      clear hsub hh ht he
      go_enter Tryz.func127, Tryz.ntmps127
      go_wp2
      go_ret
      exact ⟨ret_bool HH.out.symm, rfl⟩
  · have hl := nil_of_size h0
    have HH := Lib.hid (show headIs c s.data.toList = false by rw [hl]; rfl)
    have h0z : ¬ (1 : Int) ≤ (s.size : Int) := by omega
    have h0n : s.size = 0 := by omega
    obtain ⟨sub, hsub⟩ : ∃ sub, one c = sub := ⟨_, rfl⟩
    rw [hsub] at h1s ⊢
    clear hsub hl
    go_enter Tryz.func127, Tryz.ntmps127
    go_wp2
    go_ret
    exact ⟨ret_bool HH.out.symm, rfl⟩
theorem HasPrefix_any (s : ByteArray) (c : UInt8) (w : World) (hs : s.size ≤ 100000) :
    Calls Tryz.prog 110 #[.string s, .string (one c)] w fun e w' => e = .returned (.bool (headIs c s.data.toList)) ∧ w = w' := by
  have HC := Lib.hid (hasPrefix_any s c w hs)
  go_enter Tryz.func110, Tryz.ntmps110
  go_wp2_with fail
  refine HC.out.mono ?_; rintro e w' ⟨rfl, rfl⟩
  go_wp2
  go_ret
  exact ⟨rfl, rfl⟩
theorem trimPrefix_any (s : ByteArray) (c : UInt8) (w : World) (hs : s.size ≤ 100000) :
    Calls Tryz.prog 128 #[.string s, .string (one c)] w fun e w' => e = .returned (S (trimC c s.data.toList)) ∧ w = w' := by
  have HC := Lib.hid (hasPrefix_any s c w hs)
  have h1s : (one c).size = 1 := rfl
  cases hh : headIs c s.data.toList with
  | true =>
    have h0 : 0 < s.size := by
      rcases Nat.eq_zero_or_pos s.size with h | h
      · rw [nil_of_size (by omega)] at hh; cases hh
      · exact h
    have he : s[0] = c := by rw [headIs_at c h0] at hh; simpa using hh
    have ht : S (trimC c s.data.toList) = .string (s.extract 1 s.size) := by rw [trimC_at c h0, if_pos he]
    have HT := Lib.hid ht
    rw [hh] at HC
    clear hh he ht
    have h0z : (1 : Int) ≤ (s.size : Int) := by omega
    go_enter Tryz.func128, Tryz.ntmps128
    go_wp2_with fail
    refine HC.out.mono ?_; rintro e w' ⟨rfl, rfl⟩
    go_wp2
    go_ret
    exact ⟨by rw [HT.out]; rfl, rfl⟩
  | false =>
    have ht : S (trimC c s.data.toList) = .string s := by
      by_cases h0 : 0 < s.size
      · have he : ¬ s[0] = c := by rw [headIs_at c h0] at hh; simpa using hh
        rw [trimC_at c h0, if_neg he]
      · rw [nil_of_size h0, string_S, nil_of_size h0]; rfl
    have HT := Lib.hid ht
    rw [hh] at HC
    clear hh ht
    go_enter Tryz.func128, Tryz.ntmps128
    go_wp2_with fail
    refine HC.out.mono ?_; rintro e w' ⟨rfl, rfl⟩
    go_wp2
    go_ret
    exact ⟨by rw [HT.out]; rfl, rfl⟩
theorem TrimPrefix_any (s : ByteArray) (c : UInt8) (w : World) (hs : s.size ≤ 100000) :
    Calls Tryz.prog 111 #[.string s, .string (one c)] w fun e w' => e = .returned (S (trimC c s.data.toList)) ∧ w = w' := by
  have HC := Lib.hid (trimPrefix_any s c w hs)
  go_enter Tryz.func111, Tryz.ntmps111
  go_wp2_with fail
  refine HC.out.mono ?_; rintro e w' ⟨rfl, rfl⟩
  go_wp2
  go_ret
  exact ⟨rfl, rfl⟩
theorem split_head (l : List UInt8) : (Pl.splitB 43 l)[0]? = some (Pl.beforePlus l) := by
  unfold Pl.beforePlus
  cases h : Pl.idxOf 43 l with
  | none => rw [Pl.splitB_none 43 l (Pl.idxOf_no h)]; rfl
  | some k =>
    obtain ⟨h1, h2, h3⟩ := Pl.idxOf_some h
    rw [Pl.splitB_hit 43 k l h2 h3]; rfl
set_option maxRecDepth 100000 in
theorem removeBuild_any (s : ByteArray) (w : World) (hs : s.size ≤ 30000) :
    Calls Tryz.prog 123 #[.string s] w fun e w' => e = .returned (S (Pl.beforePlus s.data.toList)) ∧ Below w.heap.size w w' := by
  have HC := Lib.hid (zzSplit_any s 43 w hs)
  have hh := split_head s.data.toList
  obtain ⟨R, hR⟩ : ∃ R, Pl.splitB 43 s.data.toList = R := ⟨_, rfl⟩
  rw [hR] at HC hh
  have HH := Lib.hid hh
  have hl : 0 < R.length := by
    rcases Nat.eq_zero_or_pos R.length with h | h
    · rw [List.eq_nil_of_length_eq_zero h] at hh; cases hh
    · exact h
  clear hR hh
  go_enter Tryz.func123, Tryz.ntmps123
  go_wp2_with fail
  refine HC.out.mono ?_; rintro e w1 ⟨A, cp, rfl, hown, hb⟩
  obtain ⟨b, o, rfl, hc⟩ := (Rd.of_own hown).str_at hl
  have hx : R[0] = Pl.beforePlus s.data.toList := by
    have := HH.out
    rw [List.getElem?_eq_getElem hl] at this
    exact Option.some.inj this
  rw [hx] at hc
  simp at hc
  have hlz : (0 : Int) < (R.length : Int) := by omega
  clear HC hx
  go_wp2
  go_ret
  exact ⟨rfl, hb⟩
def ByAt (w : World) (b o : Nat) (xs : List Nat) : Prop := ∀ j (h : j < xs.length), w.cell? ⟨b, o + j, none⟩ = some (.int .u8 ((xs[j] : Nat) : Int))
set_option maxRecDepth 100000 in
set_option maxHeartbeats 1000000 in
theorem be32_any (b o n c x0 x1 x2 x3 : Nat) (W : World) (h4 : 4 ≤ n) (h0 : x0 < 256) (h1 : x1 < 256) (h2 : x2 < 256) (h3 : x3 < 256) (c0 : W.cell? ⟨b, o, none⟩ = some (.int .u8 (x0 : Int))) (c1 : W.cell? ⟨b, o + 1, none⟩ = some (.int .u8 (x1 : Int))) (c2 : W.cell? ⟨b, o + 2, none⟩ = some (.int .u8 (x2 : Int))) (c3 : W.cell? ⟨b, o + 3, none⟩ = some (.int .u8 (x3 : Int))) :
    Calls Tryz.prog 188 #[.slice (some ⟨b, o, none⟩) n c] W fun e w' => e = .returned (.int .u32 ((x3 + 256 * x2 + 65536 * x1 + 16777216 * x0 : Nat) : Int)) ∧ ∃ q, w' = W.drewN q := by
  have i0 : (0 : Int) < (n : Int) := by omega
  have i1 : (1 : Int) < (n : Int) := by omega
  have i2 : (2 : Int) < (n : Int) := by omega
  have i3 : (3 : Int) < (n : Int) := by omega
  have p0 : 0 < n := by omega
  have p1 : 1 < n := by omega
  have p2 : 2 < n := by omega
  have p3 : 3 < n := by omega
  go_enter Tryz.func188, Tryz.ntmps188
  go_wp2_with fail
  go_quiet (fail)
  go_wp2
  go_ret
  refine ⟨ret_int ?_, _, rfl⟩
  rw [u32_or8 (x3 : Int) ((x2 : Int) * 256) (by omega) (by omega) (by omega) (by omega) (by omega), u32_or16 ((x3 : Int) + (x2 : Int) * 256) ((x1 : Int) * 65536) (by omega) (by omega) (by omega) (by omega) (by omega), u32_or24 ((x3 : Int) + (x2 : Int) * 256 + (x1 : Int) * 65536) ((x0 : Int) * 16777216) (by omega) (by omega) (by omega) (by omega) (by omega)]
  omega
theorem quiet_of_draws {P : Program} {f : FuncId} {args : Array Value} {v : Value} (w : World) (n : Nat) (h : Calls P f args (w.drewN n) fun e w' => e = .returned v ∧ ∃ q, w' = (w.drewN n).drewN q) :
    Calls P f args (w.drewN n) fun e w'' => e = .returned v ∧ ∃ m, w'' = w.drewN m :=
  h.mono fun _ _ ⟨he, q, hq⟩ => ⟨he, n + q, by rw [hq, World.drewN_drewN]⟩
theorem ByAt.at0 {w : World} {b o : Nat} {x : Nat} {xs : List Nat} (h : ByAt w b o (x :: xs)) : w.cell? ⟨b, o, none⟩ = some (.int .u8 (x : Int)) := h 0 (by simp)
theorem ByAt.tail {w : World} {b o : Nat} {x : Nat} {xs : List Nat} (h : ByAt w b o (x :: xs)) : ByAt w b (o + 1) xs := fun j hj => by
  have := h (j + 1) (by simpa using hj)
  rw [show o + 1 + j = o + (j + 1) from by omega]
  simpa using this
def be4 (x0 x1 x2 x3 : Nat) : Nat := x3 + 256 * x2 + 65536 * x1 + 16777216 * x0
theorem be4_lt {x0 x1 x2 x3 : Nat} (h0 : x0 < 256) (h1 : x1 < 256) (h2 : x2 < 256) (h3 : x3 < 256) : be4 x0 x1 x2 x3 < 4294967296 := by unfold be4; omega
theorem u64_or32_high (y x : Int) (hy₀ : 0 ≤ y) (hy : y < 4294967296) (hx₀ : 0 ≤ x) (hx : x % 4294967296 = 0) (hx₁ : x < 18446744073709551616) : bits .or .u64 x y = x + y :=
  bits_join .u64 64 (by decide) wraps_u64 32 x y hx₀ hx hx₁ hy₀ hy (by omega)
set_option maxRecDepth 100000 in
set_option maxHeartbeats 1000000 in
theorem be64_any (b o n c x0 x1 x2 x3 x4 x5 x6 x7 : Nat) (W : World) (h8 : 8 ≤ n) (hnc : n ≤ c) (h0 : x0 < 256) (h1 : x1 < 256) (h2 : x2 < 256) (h3 : x3 < 256) (h4 : x4 < 256) (h5 : x5 < 256) (h6 : x6 < 256) (h7 : x7 < 256) (hc : ByAt W b o [x0, x1, x2, x3, x4, x5, x6, x7]) :
    Calls Tryz.prog 187 #[.slice (some ⟨b, o, none⟩) n c] W fun e w' => e = .returned (.int .u64 ((be4 x4 x5 x6 x7 + 4294967296 * be4 x0 x1 x2 x3 : Nat) : Int)) ∧ ∃ q, w' = W.drewN q := by
  have e0 := hc.at0
  have e1 := hc.tail.at0
  have e2 := hc.tail.tail.at0
  have e3 := hc.tail.tail.tail.at0
  have e4 := hc.tail.tail.tail.tail.at0
  have e5 := hc.tail.tail.tail.tail.tail.at0
  have e6 := hc.tail.tail.tail.tail.tail.tail.at0
  have e7 := hc.tail.tail.tail.tail.tail.tail.tail.at0
  have l1 := be4_lt h0 h1 h2 h3
  have l2 := be4_lt h4 h5 h6 h7
  have A1 := Lib.hid (fun k => be32_any b o n c x0 x1 x2 x3 (W.drewN k) (by omega) h0 h1 h2 h3 e0 e1 e2 e3)
  have A2 := Lib.hid (fun k => be32_any b (o + 4) (n - 4) (c - 4) x4 x5 x6 x7 (W.drewN k) (by omega) h4 h5 h6 h7 e4 e5 e6 e7)
  rw [show x3 + 256 * x2 + 65536 * x1 + 16777216 * x0 = be4 x0 x1 x2 x3 from rfl] at A1
  rw [show x7 + 256 * x6 + 65536 * x5 + 16777216 * x4 = be4 x4 x5 x6 x7 from rfl] at A2
  obtain ⟨hi, hhi⟩ : ∃ hi, be4 x0 x1 x2 x3 = hi := ⟨_, rfl⟩
  obtain ⟨lo, hlo⟩ : ∃ lo, be4 x4 x5 x6 x7 = lo := ⟨_, rfl⟩
  rw [hhi] at l1 A1 ⊢
  rw [hlo] at l2 A2 ⊢
  have i7 : (7 : Int) < (n : Int) := by omega
  have p7 : 7 < n := by omega
  have i4 : (4 : Int) ≤ (n : Int) := by omega
  have p4 : 4 ≤ n := by omega
  have e7' : W.cell? ⟨b, o + 7, none⟩ = some (.int .u8 (x7 : Int)) := e7
  clear hhi hlo e0 e1 e2 e3 e4 e5 e6 e7
  go_enter Tryz.func187, Tryz.ntmps187
  go_wp2_with fail
  go_quiet ((first | (go_at_call_of 188 (Value.slice (some ⟨b, o, none⟩) n c); exact quiet_of_draws W _ (A1.out _)) | (go_at_call 188; exact quiet_of_draws W _ (A2.out _))))
  go_wp2
  go_ret
  refine ⟨ret_int ?_, _, rfl⟩
  rw [u64_or32_high (lo : Int) ((hi : Int) * 4294967296) (by omega) (by omega) (by omega) (by omega) (by omega)]
  omega
theorem beWord_any (b o n c : Nat) (ys : List Nat) (W : World) (h8 : 8 ≤ n) (hnc : n ≤ c) (hy : ys.length = 8) (hlt : ∀ y ∈ ys, y < 256) (hc : ByAt W b o ys.reverse) :
    Calls Tryz.prog 169 #[.slice (some ⟨b, o, none⟩) n c] W fun e w' => e = .returned (.int .u64 ((Pl.val 256 ys : Nat) : Int)) ∧ ∃ q, w' = W.drewN q := by
  match ys, hy with
  | [y0, y1, y2, y3, y4, y5, y6, y7], _ =>
    have hm : ∀ y ∈ [y0, y1, y2, y3, y4, y5, y6, y7], y < 256 := hlt
    have HB := Lib.hid (be64_any b o n c y7 y6 y5 y4 y3 y2 y1 y0 W h8 hnc (hm _ (by simp)) (hm _ (by simp)) (hm _ (by simp)) (hm _ (by simp)) (hm _ (by simp)) (hm _ (by simp)) (hm _ (by simp)) (hm _ (by simp)) hc)
    have hv : Pl.val 256 [y0, y1, y2, y3, y4, y5, y6, y7] = be4 y3 y2 y1 y0 + 4294967296 * be4 y7 y6 y5 y4 := by
      simp only [Pl.val, be4]; omega
    rw [← hv] at HB
    obtain ⟨v, hv2⟩ : ∃ v, Pl.val 256 [y0, y1, y2, y3, y4, y5, y6, y7] = v := ⟨_, rfl⟩
    rw [hv2] at HB ⊢
    clear hm hlt hv hv2 hc
    go_enter Tryz.func169, Tryz.ntmps169
    go_wp2_with (go_at_call 187; refine HB.out.mono ?_; rintro e w1 ⟨rfl, q, rfl⟩)
    go_ret
    exact ⟨rfl, q, rfl⟩
theorem info5 : (Tryz.prog.info? 5).map (fun i => (i.zero, i.size, i.bytes)) = some (some (.int .u8 0), 1, 1) := by kernel_rfl
theorem intOf_step (s : ByteArray) (k : Nat) (hlt : k < s.size) (d : Nat) (hd : (d : Int) = (s[k].toNat : Int) - 48) (hd9 : d ≤ 9) (ds : List Nat) (hds : Pl.digs 256 (Pl.natAcc 0 (s.data.toList.take k)) = ds) :
    Pl.digs 256 (Pl.natAcc 0 (s.data.toList.take (k + 1))) = Pl.withCarry (Pl.mul10 d ds) := by
  subst hds
  rw [Pl.mul10_digs _ _ hd9, List.take_succ_eq_append_getElem (by rw [len_list]; exact hlt), Pl.natAcc_snoc]
  have hg := get_list s k hlt
  rw [List.getElem?_eq_getElem (by rw [len_list]; exact hlt)] at hg
  simp only [Option.some.injEq] at hg
  rw [hg]
  congr 1; omega
theorem digs_size (s : ByteArray) (k : Nat) (hd : s.data.toList.all Pl.isDig = true) : (Pl.digs 256 (Pl.natAcc 0 (s.data.toList.take k))).length ≤ s.size := by
  have h1 : (s.data.toList.take k).all Pl.isDig = true := by
    rw [List.all_eq_true] at hd ⊢
    exact fun x hx => hd x (List.mem_of_mem_take hx)
  have h2 := Pl.natOf_lt _ h1
  have h3 := Pl.pow10_lt (s.data.toList.take k).length
  have h4 := Pl.digs_len_le (b := 256) (n := Pl.natOf (s.data.toList.take k)) (m := (s.data.toList.take k).length) (by omega) (by omega)
  have h5 : (s.data.toList.take k).length ≤ s.size := by rw [List.length_take, len_list]; omega
  exact Nat.le_trans h4 h5
theorem B8_set (a : List Nat) (x y : Nat) (r : List Nat) : (B8 (a ++ x :: r)).set a.length (.int .u8 (y : Int)) = B8 (a ++ y :: r) := by
  simp [B8]
theorem rev_set (m k x : Nat) (R : List Nat) (hk : k < m) : (B8 (List.replicate (m - k) 0 ++ R)).set (m - 1 - k) (.int .u8 (x : Int)) = B8 (List.replicate (m - (k + 1)) 0 ++ x :: R) := by
  have e : List.replicate (m - k) 0 = List.replicate (m - (k + 1)) 0 ++ [0] := by
    rw [show m - k = (m - (k + 1)) + 1 from by omega, List.replicate_succ']
  rw [e, List.append_assoc]
  have := B8_set (List.replicate (m - (k + 1)) 0) 0 x R
  rw [List.length_replicate, show m - (k + 1) = m - 1 - k from by omega] at this
  rw [show m - (k + 1) = m - 1 - k from by omega]
  exact this
theorem int_nat (k : IntKind) {a b : Int} (h : a = b) : Value.int k a = Value.int k b := by rw [h]
set_option maxHeartbeats 1000000 in
set_option maxRecDepth 100000 in
theorem intOf_any (s : ByteArray) (w : World) (hs : s.size ≤ 30000) (hd : s.data.toList.all Pl.isDig = true) :
    Calls Tryz.prog 51 #[.string s] w fun e w' => e = .returned (.agg #[.bool false, S (Pl.magOf (Pl.natOf s.data.toList))]) ∧ Below w.heap.size w w' := by
  obtain ⟨i0, hi, hz0, hz1, hz2⟩ := info_parts info5
  have HD := Lib.hid hd
  clear hd
  go_enter Tryz.func51, Tryz.ntmps51
  go_wp2
  go_loopw [3, 4] (fun v i wr => ∃ k : Nat, k ≤ s.size ∧ i = .int .i64 k ∧ wr.ownsRow (w.heap.size + 1) 5 1 v (Pl.digs 256 (Pl.natAcc 0 (s.data.toList.take k))).length (B8 (Pl.digs 256 (Pl.natAcc 0 (s.data.toList.take k)))) ∧ Blk wr w.heap.size 46 #[.bool false, .string ⟨#[]⟩] ∧ Below w.heap.size w wr) (fun _ i _ => s.size - (intOf i).toNat)
  case atStart => exact ⟨0, Nat.zero_le _, rfl, by simp [Pl.natAcc, Pl.digs_zero, B8]; exact World.ownsRow_nil _ _ _ _, Blk.new _ _ _, (Below.refl _ _).alloc (Nat.le_refl _) _⟩
  case round =>
    obtain ⟨k, hk, rfl, hown, hblk, hbel⟩ := hrel
    obtain ⟨A, c, rfl⟩ := own_form hown
    by_cases hlt : k < s.size
    · have hdig : Pl.isDig s[k] = true := List.all_eq_true.1 HD.out _ (List.mem_of_getElem? (get_list s k hlt))
      have hb : (48 : Int) ≤ (s[k].toNat : Int) ∧ (s[k].toNat : Int) ≤ 57 := by simp [Pl.isDig] at hdig; omega
      obtain ⟨hb1, hb2⟩ := hb
      clear hdig
      obtain ⟨d, hd⟩ : ∃ d : Nat, (d : Int) = (s[k].toNat : Int) - 48 := ⟨s[k].toNat - 48, by omega⟩
      have hd9 : d ≤ 9 := by omega
      obtain ⟨ds, hds⟩ : ∃ ds, Pl.digs 256 (Pl.natAcc 0 (s.data.toList.take k)) = ds := ⟨_, rfl⟩
      have hlds : ∀ x ∈ ds, x < 256 := by rw [← hds]; exact Pl.digs_lt 256 _ (by omega)
      rw [hds] at hown ⊢
      have hdl : ds.length ≤ s.size := by rw [← hds]; exact digs_size s k HD.out
      have HDS := Lib.hid hds
      clear hds
      have HLD := Lib.hid hlds
      clear hlds
      have HDD := Lib.hid hd
      clear hd
      obtain ⟨wo, rfl⟩ : ∃ wo : World, wo = wr := ⟨_, rfl⟩
      go_wp2
      go_loopw [5, 6] (fun cv jv wr => ∃ (j cc : Nat) (done : List Nat), j ≤ ds.length ∧ jv = .int .i64 (j : Int) ∧ cv = .int .i64 (cc : Int) ∧ cc ≤ 9 ∧ done.length = j ∧ wr.ownsRow (w.heap.size + 1) 5 1 (.slice A ds.length c) ds.length (B8 (done ++ ds.drop j)) ∧ done ++ (Pl.mul10 cc (ds.drop j)).1 = (Pl.mul10 d ds).1 ∧ (Pl.mul10 cc (ds.drop j)).2 = (Pl.mul10 d ds).2 ∧ Blk wr w.heap.size 46 #[.bool false, .string ⟨#[]⟩] ∧ Below w.heap.size w wr) (fun _ jv _ => ds.length - (intOf jv).toNat)
      case atStart => exact ⟨0, d, [], Nat.zero_le _, rfl, by rw [HDD.out], hd9, rfl, by simpa using hown, by simp, by simp, hblk, hbel⟩
      case round =>
        obtain ⟨j, cc, done, hj, rfl, rfl, hcc, hdone, hown, h1, h2, hblk, hbel⟩ := hrel
        have H1 := Lib.hid h1
        have H2 := Lib.hid h2
        have HDN := Lib.hid hdone
        clear h1 h2 hdone
        by_cases hjl : j < ds.length
        · obtain ⟨g, cap, hv, hbase, hglt⟩ := hown.form (by omega)
          injection hv with hA hn hc
          subst hA
          subst hc
          clear hn
          have hx : ds[j] ≤ 255 := by have := HLD.out ds[j] (List.getElem_mem hjl); omega
          have hcell : wr.cell? ⟨g, j, none⟩ = some (.int .u8 ((ds[j] : Nat) : Int)) := by
            rw [hown.cellAt j (by omega), B8_get _ _ (by simp; have := HDN.out; omega)]
            congr 3
            rw [List.getElem_append_right (by have := HDN.out; omega)]
            have := HDN.out
            simp [this]
          have hfro : wr.frozen? ⟨g, j, none⟩ = false := hown.frozenAt j
          obtain ⟨x, hxe⟩ : ∃ x, ds[j] = x := ⟨_, rfl⟩
          rw [hxe] at hx hcell
          have HX := Lib.hid hxe
          clear hxe
          go_wp2
          go_roundw
          case rel =>
            have hdn := HDN.out
            have hdrop : ds.drop j = x :: ds.drop (j + 1) := by rw [← HX.out]; exact List.drop_eq_getElem_cons hjl
            have e1 := H1.out
            have e2 := H2.out
            rw [hdrop, Pl.mul10_cons] at e1 e2
            refine ⟨j + 1, (cc + 10 * x) / 256, done ++ [(cc + 10 * x) % 256], by omega, by go_num, int_nat _ (by omega), by omega, by simp [hdn], ?_, by simpa using e1, e2, hblk.far (by simp; omega) _, hbel.setCell (by simp; omega) _⟩
            have hst := (hown.stored j (.int .u8 (((cc : Int) + 10 * (x : Int)) % 256))).1
            refine own_cast hst rfl ?_
            rw [hdrop, show (((cc : Int) + 10 * (x : Int)) % 256) = (((cc + 10 * x) % 256 : Nat) : Int) from by omega]
            subst hdn
            rw [B8_set]
            simp
          case measure => simp [intOf]; omega
        · obtain rfl : j = ds.length := by omega
          have e1 : done = (Pl.mul10 d ds).1 := by have := H1.out; simpa [Pl.mul10] using this
          have e2 : cc = (Pl.mul10 d ds).2 := by have := H2.out; simpa [Pl.mul10] using this
          rw [List.drop_length, List.append_nil] at hown
          have hst := intOf_step s k hlt d HDD.out hd9 ds HDS.out
          have HST := Lib.hid hst
          have HE1 := Lib.hid e1
          have HE2 := Lib.hid e2
          clear hst e1 e2
          by_cases hc0 : 0 < cc
          · have hc1 : (0 : Int) < (cc : Int) := by omega
            go_wp2_with (at_builtin; refine wpList_app1 _ rfl (.tmp 44) (.tmp 47) 91 rfl (w.heap.size + 1) 5 i0 _ 1 Tryz.underlying91 hi hz0 hz1 hz2 rfl _ _ _ rfl hown _ rfl rfl (by omega) (by omega) (Nat.le_trans hblk.lt (Nat.le_refl _)) ?_; intro g1 cap1 w1 hown1 hg1 hat1 hb1)
            go_roundw
            case rel =>
              refine ⟨k + 1, by omega, by go_num, own_cast hown1 ?_ ?_, hblk.grown hg1 ?_, hbel.trans (hb1.mono (by omega))⟩
              · rw [HST.out, Pl.withCarry, if_pos (by rw [← HE2.out]; exact hc0), List.length_append, Pl.mul10_len]; rfl
              · rw [HST.out, Pl.withCarry, if_pos (by rw [← HE2.out]; exact hc0), ← HE1.out, ← HE2.out]; simp [B8]
              · exact (own_blk_ne hown hblk (by decide)).symm
            case measure => simp [intOf]; omega
          · have hc1 : ¬ (0 : Int) < (cc : Int) := by omega
            go_wp2
            go_roundw
            case rel =>
              refine ⟨k + 1, by omega, by go_num, own_cast hown ?_ ?_, hblk, hbel⟩
              · rw [HST.out, Pl.withCarry, if_neg (by rw [← HE2.out]; exact hc0), Pl.mul10_len]
              · rw [HST.out, Pl.withCarry, if_neg (by rw [← HE2.out]; exact hc0), ← HE1.out]
            case measure => simp [intOf]; omega
    · obtain rfl : k = s.size := by omega
      rw [List.take_of_length_le (by rw [len_list]; omega)] at hown ⊢
      have hdl := digs_size s s.size HD.out
      rw [List.take_of_length_le (by rw [len_list]; omega)] at hdl
      obtain ⟨ds, hds⟩ : ∃ ds, Pl.digs 256 (Pl.natAcc 0 s.data.toList) = ds := ⟨_, rfl⟩
      rw [hds] at hown hdl ⊢
      have HDS := Lib.hid hds
      clear hds
      go_wp2_with (at_make; go_must (refine wpList_make_full _ rfl _ _ _ rfl (w.heap.size + 1) 5 i0 _ 1 Tryz.underlying91 hi hz0 hz1 .i64 .i64 _ _ ds.length rfl rfl rfl rfl (by rw [hz2]; omega) (by unfold maxLen; omega) (Nat.le_trans hblk.lt (Nat.le_refl _)) ?_); intro w1 hown1 hg1)
      have hown2 := hown.kept hg1 (by cases (Value.slice A ds.length c).ownBlock <;> simp)
      have hblk2 := hblk.grown hg1 (by simp)
      have hbel2 : Below w.heap.size w w1 := hbel.grown hg1 (by have := hblk.lt; omega) (by simp)
      have hg0 : w.heap.size < wr.heap.size := hblk.lt
      have hsz1 : wr.heap.size < w1.heap.size := by
        obtain ⟨_, h | ⟨g', cap', cur', hv, _, hh, _⟩⟩ := hown1
        · simp at h
        · injection hv with hv; injection hv with hv; injection hv with hv
          subst hv
          exact (Array.getElem?_eq_some_iff.1 hh).1
      have hmag : ∀ j, j < ds.length → ∃ g, A = some ⟨g, 0, none⟩ ∧ g ≠ wr.heap.size ∧ w1.cell? ⟨g, j, none⟩ = some (.int .u8 ((ds[j]! : Nat) : Int)) := by
        intro j hj
        obtain ⟨g, cap, hv, _, hglt⟩ := hown.form (by omega)
        injection hv with hA hn hc
        subst hA
        subst hc
        refine ⟨g, rfl, by omega, ?_⟩
        rw [hown2.cellAt j (by omega), B8_get _ _ hj, getElem!_pos ds j hj]
      have HM := Lib.hid hmag
      clear hmag
      obtain ⟨g0, hg0e⟩ : ∃ g0, wr.heap.size = g0 := ⟨_, rfl⟩
      rw [hg0e] at hown1 hg0 hsz1 HM ⊢
      clear hg0e hg1 hblk hbel hown hown2
      have hstart : B8 (List.replicate (ds.length - 0) 0 ++ (ds.take 0).reverse) = (madeCells (Value.cells (.int .u8 0)) (ds.length * 1)).toList := by
        rw [Nat.mul_one, show Value.cells (.int .u8 0) = #[Value.int .u8 0] from rfl, toList_madeCells_one]
        simp [B8]
      rw [← hstart] at hown1
      clear hstart
      go_loopw [8] (fun kv wx => ∃ j : Nat, j ≤ ds.length ∧ kv = .int .i64 (j : Int) ∧ wx.ownsRow (w.heap.size + 1) 5 1 (.slice (some ⟨g0, 0, none⟩) ds.length ds.length) ds.length (B8 (List.replicate (ds.length - j) 0 ++ (ds.take j).reverse)) ∧ w1.grownBy wx (some g0)) (fun kv _ => ds.length - (intOf kv).toNat)
      case atStart => exact ⟨0, Nat.zero_le _, rfl, hown1, World.grownBy.refl _ _⟩
      case round =>
        obtain ⟨j, hj, rfl, hownx, hgx⟩ := hrel
        by_cases hjl : j < ds.length
        · obtain ⟨g, rfl, hgne, hcell⟩ := HM.out j hjl
          have hcx : wr.cell? ⟨g, j, none⟩ = some (.int .u8 ((ds[j]! : Nat) : Int)) := hgx.cell hcell (by simpa using hgne)
          have hx : ds[j]! ≤ 255 := by rw [getElem!_pos ds j hjl]; have := Pl.digs_lt 256 (Pl.natAcc 0 s.data.toList) (by omega) ds[j] (by rw [HDS.out]; exact List.getElem_mem hjl); omega
          obtain ⟨x, hxe⟩ : ∃ x, ds[j]! = x := ⟨_, rfl⟩
          rw [hxe] at hx hcx
          have HX := Lib.hid hxe
          clear hxe hcell
          have hold : ∃ u, wr.cell? ⟨g0, ds.length - 1 - j, none⟩ = some u := by
            rw [hownx.cellAt (ds.length - 1 - j) (by omega)]
            have : ds.length - 1 - j < (B8 (List.replicate (ds.length - j) 0 ++ (ds.take j).reverse)).length := by rw [B8_len]; simp; omega
            exact ⟨_, List.getElem?_eq_getElem this⟩
          obtain ⟨u, hu⟩ := hold
          have hfro : wr.frozen? ⟨g0, ds.length - 1 - j, none⟩ = false := hownx.frozenAt _
          go_wp2
          go_roundw
          case rel =>
            have hst := hownx.stored (ds.length - 1 - j) (.int .u8 (x : Int))
            refine ⟨j + 1, by omega, by go_num, own_cast hst.1 rfl ?_, hgx.trans hst.2⟩
            rw [rev_set ds.length j x _ hjl, List.take_succ_eq_append_getElem hjl, List.reverse_append]
            have hxx := HX.out
            rw [getElem!_pos ds j hjl] at hxx
            rw [hxx]; rfl
          case measure => simp [intOf]; omega
        · obtain rfl : j = ds.length := by omega
          have hblk3 := hblk2.grown hgx (by simp; omega)
          have hc0 := hblk3.cell 0
          have hc1 := hblk3.cell 1
          have hf0 := hblk3.frozen 0
          have hf1 := hblk3.frozen 1
          simp at hc0 hc1
          rw [List.take_of_length_le (Nat.le_refl _), Nat.sub_self, List.replicate_zero, List.nil_append] at hownx
          have hrd : Rd wr 1 (some ⟨g0, 0, none⟩) ds.length (B8 ds.reverse) := Rd.of_own hownx
          go_wp2_with (refine wpList_conv_S (o := ⟨some 70, .convert 91 9 (.tmp 69), _, _, _, _⟩) wr rfl (.tmp 69) 91 9 5 rfl Tryz.underlying91 Tryz.underlying5 Tryz.underlying9 (some ⟨g0, 0, none⟩) ds.length ds.length ds.reverse rfl hrd ?_)
          have hblk4 := (hblk3.set_ 0 (.bool false)).set_ 1 (.string ⟨(List.map UInt8.ofNat ds).reverse.toArray⟩)
          have hd0 := hblk4.cell 0
          have hd1 := hblk4.cell 1
          simp at hd0 hd1
          refine bodyPost_ret (v := .agg #[.bool false, .string ⟨(List.map UInt8.ofNat ds).reverse.toArray⟩]) (by simp [results, Tryz.results51, go_sem, hd0, hd1]) rfl ⟨?_, ?_⟩
          · rw [Pl.magOf, Pl.natOf, HDS.out, List.map_reverse]
          · exact ((hbel2.trans ((Below.refl w.heap.size w1).grown hgx (by omega) (by simp; omega))).setCell (by simp) _).setCell (by simp) _
end Go.Proofs.YtgfkdjmoflbmdaaGreatDoor
