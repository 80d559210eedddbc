/- Contracts: zzIndex, zzSplit (at one byte). Contracts: HasPrefix, TrimPrefix (at one byte), removeBuildMetadata. -/
import Derived.Test.YtgfkdjmoflbmdaaGreatDoorMWbxWf
namespace Go.Proofs.YtgfkdjmoflbmdaaGreatDoor
open Go.RowKit
open Go.Proofs

def one (c : UInt8) : ByteArray := ⟨#[c]⟩
theorem one_size (c : UInt8) : (one c).size = 1 := rfl
theorem ext_one {s : ByteArray} {k : Nat} (h : k < s.size) : s.extract k (k + 1) = one s[k] := by
  have h1 : (s.extract k (k + 1)).data.toList = [s[k]] := by
    rw [Lib.extract_data, List.drop_eq_getElem_cons (by rw [len_list]; exact h)]
    have := get_list s k h
    rw [List.getElem?_eq_getElem (by rw [len_list]; exact h)] at this
    simp only [Option.some.injEq] at this
    rw [this]
    simp
  have h2 : (s.extract k (k + 1)).data = #[s[k]] := by
    apply Array.toList_inj.1
    simpa using h1
  cases hx : s.extract k (k + 1) with
  | mk d => rw [hx] at h2; simp at h2; rw [h2]; rfl

theorem zzIndex_any (s : ByteArray) (c : UInt8) (w : World) (hs : s.size ≤ 100000) :
    Calls Tryz.prog 134 #[.string s, .string (one c)] w fun e w' => e = .returned (.int .i64 (idxI c s.data.toList)) ∧ w = w' := by
  have h1s : (one c).size = 1 := rfl
  obtain ⟨sub, hsub⟩ : ∃ sub, one c = sub := ⟨_, rfl⟩
  rw [hsub] at h1s ⊢
  have HSUB := Lib.hid hsub
  clear hsub
  go_enter Tryz.func134, Tryz.ntmps134
  go_wp2
  go_loop [5] (fun i => ∃ k : Nat, k ≤ s.size ∧ i = .int .i64 k ∧ ∀ j, j < k → s.data.toList[j]? ≠ some c) (fun i => s.size - (intOf i).toNat)
  case atStart => exact ⟨0, Nat.zero_le _, rfl, fun j hj => by omega⟩
  case round =>
    obtain ⟨k, hk, rfl, ha⟩ := hrel
    have HA := Lib.hid ha
    clear ha
    by_cases hlt : k < s.size
    · by_cases he : s[k] = c
      · have hx : s.extract k (k + 1) = sub := by rw [ext_one hlt, he, HSUB.out]
        go_wp2
        go_ret
        refine ⟨ret_int ?_, rfl⟩
        rw [idxI, idxOf_lt (by rw [get_list s k hlt, he]) HA.out]
      · obtain ⟨sub2, hx⟩ : ∃ sub2, s.extract k (k + 1) = sub2 := ⟨_, rfl⟩
        have hne : (sub2.toList == sub.toList) = false := by
          rw [beq_eq_false_iff_ne]
          intro e
          apply he
          rw [← hx, ext_one hlt, ← HSUB.out, toList_eq, toList_eq] at e
          simpa [one] using e
        go_wp2
        go_round
        case rel =>
          refine ⟨k + 1, by omega, by go_num, fun j hj => ?_⟩
          by_cases e : j = k
          · subst e
            rw [get_list s j hlt]
            intro h
            exact he (by simpa using h)
          · exact HA.out j (by omega)
        case measure => simp [intOf]; omega
    · go_wp2
      go_ret
      refine ⟨ret_int ?_, rfl⟩
      rw [idxI, idxOf_none (fun j hj => HA.out j (by rw [len_list] at hj; omega))]

def szV : Value → Nat
  | .string t => t.size
  | _ => 0
theorem szV_s (t : ByteArray) : szV (.string t) = t.size := rfl

set_option maxRecDepth 100000 in
theorem zzSplit_any (s : ByteArray) (c : UInt8) (w : World) (hs : s.size ≤ 30000) :
    Calls Tryz.prog 125 #[.string s, .string (one c)] w fun e w' => ∃ A cp, e = .returned (.slice A (Pl.splitB c s.data.toList).length cp) ∧ w'.ownsRow w.heap.size 9 1 (.slice A (Pl.splitB c s.data.toList).length cp) (Pl.splitB c s.data.toList).length ((Pl.splitB c s.data.toList).map S) ∧ Below w.heap.size w w' := by
  obtain ⟨i0, hi, hz0, hz1, hz2⟩ := info_parts info9
  have hcnt := Pl.splitB_length c s.data.toList
  rw [len_list] at hcnt
  obtain ⟨R, hR⟩ : ∃ R, Pl.splitB c s.data.toList = R := ⟨_, rfl⟩
  rw [hR] at hcnt ⊢
  have HR := Lib.hid hR
  clear hR
  have HI := Lib.hid (fun (t : ByteArray) (W : World) (h : t.size ≤ 100000) => zzIndex_any t c W h)
  have h1s : (one c).size = 1 := rfl
  obtain ⟨sub, hsub⟩ : ∃ sub, one c = sub := ⟨_, rfl⟩
  rw [hsub] at h1s HI ⊢
  clear hsub
  go_enter Tryz.func125, Tryz.ntmps125
  go_wp2
  go_loopw [0, 5] (fun tv v wr => ∃ (t : ByteArray) (ps : List Pl.Bytes), tv = .string t ∧ t.size ≤ s.size ∧ ps ++ Pl.splitB c t.data.toList = R ∧ wr.ownsRow w.heap.size 9 1 v ps.length (ps.map S) ∧ Below w.heap.size w wr) (fun tv _ _ => szV tv)
  case atStart => exact ⟨s, [], rfl, Nat.le_refl _, by simpa using HR.out, World.ownsRow_nil _ _ _ _, Below.refl _ _⟩
  case round =>
    obtain ⟨t, ps, rfl, hts, hsp, hown, hbel⟩ := hrel
    have hpl : ps.length ≤ 40000 := by
      have := congrArg List.length hsp
      rw [List.length_append] at this; omega
    have HSP := Lib.hid hsp
    clear hsp
    cases hk : Pl.idxOf c t.data.toList with
    | none =>
      have hi1 : idxI c t.data.toList = -1 := by rw [idxI, hk]
      have hspl : Pl.splitB c t.data.toList = [t.data.toList] := by
        exact Pl.splitB_none c _ (Pl.idxOf_no hk)
      have HS := Lib.hid hspl
      have HI1 := Lib.hid hi1
      clear hspl hi1
      go_wp2_with (first | (go_at_call 134; refine (HI.out t _ (by omega)).mono ?_; rintro e w' ⟨rfl, rfl⟩; rw [HI1.out]) | (at_builtin; refine wpList_app1 _ rfl (.tmp 42) (.tmp 44) 38 rfl w.heap.size 9 i0 _ 16 Tryz.underlying38 hi hz0 hz1 hz2 rfl _ _ _ rfl hown _ rfl rfl (by omega) (by omega) hbel.size ?_; intro g cap w1 hown1 hg1 hat1 hb1; clear hg1 hat1))
      go_ret
      have e : R = ps ++ [t.data.toList] := by rw [← HSP.out, HS.out]
      subst e
      have hl : (ps ++ [t.data.toList]).length = ps.length + 1 := by simp
      rw [hl]
      exact ⟨some ⟨g, 0, none⟩, cap, rfl, own_cast hown1 rfl (by simp), hbel.trans hb1⟩
    | some k =>
      obtain ⟨hk1, hk2, hk3⟩ := Pl.idxOf_some hk
      rw [len_list] at hk1
      have hi1 : idxI c t.data.toList = (k : Int) := by rw [idxI, hk]
      have hspl := Pl.splitB_hit c k t.data.toList hk2 hk3
      have HS := Lib.hid hspl
      have HI1 := Lib.hid hi1
      clear hspl hi1 hk hk2 hk3
      go_wp2_with (first | (go_at_call 134; refine (HI.out t _ (by omega)).mono ?_; rintro e w' ⟨rfl, rfl⟩; rw [HI1.out]) | (at_builtin; refine wpList_app1 _ rfl (.tmp 46) (.tmp 50) 38 rfl w.heap.size 9 i0 _ 16 Tryz.underlying38 hi hz0 hz1 hz2 rfl _ _ _ rfl hown _ rfl rfl (by omega) (by omega) hbel.size ?_; intro g cap w1 hown1 hg1 hat1 hb1; clear hg1 hat1))
      go_roundw
      case rel =>
        refine ⟨t.extract (k + 1) t.size, ps ++ [t.data.toList.take k], rfl, by rw [ByteArray.size_extract]; omega, ?_, own_cast hown1 (by simp) (by rw [ext_S]; simp), hbel.trans hb1⟩
        have e : (t.extract (k + 1) t.size).data.toList = t.data.toList.drop (k + 1) := by rw [Lib.extract_data, List.take_of_length_le (by rw [List.length_drop, len_list]; exact Nat.le_refl _)]
        rw [← HSP.out, HS.out, List.append_assoc, e]
        rfl
      case measure => simp only [szV_s, ByteArray.size_extract]; omega
end Go.Proofs.YtgfkdjmoflbmdaaGreatDoor

namespace Go.Proofs.YtgfkdjmoflbmdaaGreatDoor
open Go.RowKit
open Go.Proofs

def headIs (c : UInt8) (l : List UInt8) : Bool := l[0]? == some c
def trimC (c : UInt8) : List UInt8 → List UInt8
  | [] => []
  | d :: r => if d = c then r else d :: r
theorem headIs_nil (c : UInt8) : headIs c [] = false := rfl
theorem headIs_at {s : ByteArray} (c : UInt8) (h0 : 0 < s.size) : headIs c s.data.toList = decide (s[0] = c) := by
  rw [headIs, get_list s 0 h0]
  by_cases h : s[0] = c
  · simp [h]
  · simp [h]
theorem trimC_at {s : ByteArray} (c : UInt8) (h0 : 0 < s.size) : trimC c s.data.toList = if s[0] = c then (s.extract 1 s.size).data.toList else s.data.toList := by
  rw [list_cons s h0]
  rfl
theorem nil_of_size {s : ByteArray} (h : ¬ 0 < s.size) : s.data.toList = [] := List.eq_nil_of_length_eq_zero (by rw [len_list]; omega)
theorem take_one {s : ByteArray} (h0 : 0 < s.size) : s.extract 0 1 = one s[0] := ext_one (k := 0) h0

theorem hasPrefix_any (s : ByteArray) (c : UInt8) (w : World) (hs : s.size ≤ 100000) :
    Calls Tryz.prog 127 #[.string s, .string (one c)] w fun e w' => e = .returned (.bool (headIs c s.data.toList)) ∧ w = w' := by
  have h1s : (one c).size = 1 := rfl
  by_cases h0 : 0 < s.size
  · have hh := headIs_at c h0
    have ht := take_one h0
    have h0z : (1 : Int) ≤ (s.size : Int) := by omega
    by_cases he : s[0] = c
    · have hx : s.extract 0 1 = one c := by rw [ht, he]
      have HH := Lib.hid (hh.trans (decide_eq_true he))
      obtain ⟨sub, hsub⟩ : ∃ sub, one c = sub := ⟨_, rfl⟩
      rw [hsub] at h1s hx ⊢
      clear hsub hh ht he
      go_enter Tryz.func127, Tryz.ntmps127
      go_wp2
      go_ret
      exact ⟨ret_bool HH.out.symm, rfl⟩
    · have HH := Lib.hid (hh.trans (decide_eq_false he))
      obtain ⟨sub2, hx⟩ : ∃ sub2, s.extract 0 1 = sub2 := ⟨_, rfl⟩
      obtain ⟨sub, hsub⟩ : ∃ sub, one c = sub := ⟨_, rfl⟩
      have hne : (sub2.toList == sub.toList) = false := by
        rw [beq_eq_false_iff_ne]
        intro e
        apply he
        rw [← hx, ht, ← hsub, toList_eq, toList_eq] at e
        simpa [one] using e
      rw [hsub] at h1s ⊢
      clear hsub hh ht he
      go_enter Tryz.func127, Tryz.ntmps127
      go_wp2
      go_ret
      exact ⟨ret_bool HH.out.symm, rfl⟩
  · have hl := nil_of_size h0
    have HH := Lib.hid (show headIs c s.data.toList = false by rw [hl]; rfl)
    have h0z : ¬ (1 : Int) ≤ (s.size : Int) := by omega
    have h0n : s.size = 0 := by omega
    obtain ⟨sub, hsub⟩ : ∃ sub, one c = sub := ⟨_, rfl⟩
    rw [hsub] at h1s ⊢
    clear hsub hl
    go_enter Tryz.func127, Tryz.ntmps127
    go_wp2
    go_ret
    exact ⟨ret_bool HH.out.symm, rfl⟩

theorem HasPrefix_any (s : ByteArray) (c : UInt8) (w : World) (hs : s.size ≤ 100000) :
    Calls Tryz.prog 110 #[.string s, .string (one c)] w fun e w' => e = .returned (.bool (headIs c s.data.toList)) ∧ w = w' := by
  have HC := Lib.hid (hasPrefix_any s c w hs)
  go_enter Tryz.func110, Tryz.ntmps110
  go_wp2_with fail
  refine HC.out.mono ?_; rintro e w' ⟨rfl, rfl⟩
  go_wp2
  go_ret
  exact ⟨rfl, rfl⟩

theorem trimPrefix_any (s : ByteArray) (c : UInt8) (w : World) (hs : s.size ≤ 100000) :
    Calls Tryz.prog 128 #[.string s, .string (one c)] w fun e w' => e = .returned (S (trimC c s.data.toList)) ∧ w = w' := by
  have HC := Lib.hid (hasPrefix_any s c w hs)
  have h1s : (one c).size = 1 := rfl
  cases hh : headIs c s.data.toList with
  | true =>
    have h0 : 0 < s.size := by
      rcases Nat.eq_zero_or_pos s.size with h | h
      · rw [nil_of_size (by omega)] at hh; cases hh
      · exact h
    have he : s[0] = c := by rw [headIs_at c h0] at hh; simpa using hh
    have ht : S (trimC c s.data.toList) = .string (s.extract 1 s.size) := by rw [trimC_at c h0, if_pos he]
    have HT := Lib.hid ht
    rw [hh] at HC
    clear hh he ht
    have h0z : (1 : Int) ≤ (s.size : Int) := by omega
    go_enter Tryz.func128, Tryz.ntmps128
    go_wp2_with fail
    refine HC.out.mono ?_; rintro e w' ⟨rfl, rfl⟩
    go_wp2
    go_ret
    exact ⟨by rw [HT.out]; rfl, rfl⟩
  | false =>
    have ht : S (trimC c s.data.toList) = .string s := by
      by_cases h0 : 0 < s.size
      · have he : ¬ s[0] = c := by rw [headIs_at c h0] at hh; simpa using hh
        rw [trimC_at c h0, if_neg he]
      · rw [nil_of_size h0, string_S, nil_of_size h0]; rfl
    have HT := Lib.hid ht
    rw [hh] at HC
    clear hh ht
    go_enter Tryz.func128, Tryz.ntmps128
    go_wp2_with fail
    refine HC.out.mono ?_; rintro e w' ⟨rfl, rfl⟩
    go_wp2
    go_ret
    exact ⟨by rw [HT.out]; rfl, rfl⟩

theorem TrimPrefix_any (s : ByteArray) (c : UInt8) (w : World) (hs : s.size ≤ 100000) :
    Calls Tryz.prog 111 #[.string s, .string (one c)] w fun e w' => e = .returned (S (trimC c s.data.toList)) ∧ w = w' := by
  have HC := Lib.hid (trimPrefix_any s c w hs)
  go_enter Tryz.func111, Tryz.ntmps111
  go_wp2_with fail
  refine HC.out.mono ?_; rintro e w' ⟨rfl, rfl⟩
  go_wp2
  go_ret
  exact ⟨rfl, rfl⟩

theorem split_head (l : List UInt8) : (Pl.splitB 43 l)[0]? = some (Pl.beforePlus l) := by
  unfold Pl.beforePlus
  cases h : Pl.idxOf 43 l with
  | none => rw [Pl.splitB_none 43 l (Pl.idxOf_no h)]; rfl
  | some k =>
    obtain ⟨h1, h2, h3⟩ := Pl.idxOf_some h
    rw [Pl.splitB_hit 43 k l h2 h3]; rfl

set_option maxRecDepth 100000 in
theorem removeBuild_any (s : ByteArray) (w : World) (hs : s.size ≤ 30000) :
    Calls Tryz.prog 123 #[.string s] w fun e w' => e = .returned (S (Pl.beforePlus s.data.toList)) ∧ Below w.heap.size w w' := by
  have HC := Lib.hid (zzSplit_any s 43 w hs)
  have hh := split_head s.data.toList
  obtain ⟨R, hR⟩ : ∃ R, Pl.splitB 43 s.data.toList = R := ⟨_, rfl⟩
  rw [hR] at HC hh
  have HH := Lib.hid hh
  have hl : 0 < R.length := by
    rcases Nat.eq_zero_or_pos R.length with h | h
    · rw [List.eq_nil_of_length_eq_zero h] at hh; cases hh
    · exact h
  clear hR hh
  go_enter Tryz.func123, Tryz.ntmps123
  go_wp2_with fail
  refine HC.out.mono ?_; rintro e w1 ⟨A, cp, rfl, hown, hb⟩
  obtain ⟨b, o, rfl, hc⟩ := (Rd.of_own hown).str_at hl
  have hx : R[0] = Pl.beforePlus s.data.toList := by
    have := HH.out
    rw [List.getElem?_eq_getElem hl] at this
    exact Option.some.inj this
  rw [hx] at hc
  simp at hc
  have hlz : (0 : Int) < (R.length : Int) := by omega
  clear HC hx
  go_wp2
  go_ret
  exact ⟨rfl, hb⟩
end Go.Proofs.YtgfkdjmoflbmdaaGreatDoor
