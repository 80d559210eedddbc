/- Contracts: isLetter, pageWords. Contract: pageWords. -/
import Derived.Test.YtgfkdjmoflbmdaaGreatDoorMWbxWf
import Derived.Test.YtgfkdjmoflbmdaaGreatDoorMPlFxHf
namespace Go.Proofs.YtgfkdjmoflbmdaaGreatDoor
open Go.RowKit
open Go.Proofs

theorem letB_iff (c : UInt8) : Pl.letB c = true ↔ ((97 : Int) ≤ (c.toNat : Int) ∧ (c.toNat : Int) ≤ 122) ∨ ((65 : Int) ≤ (c.toNat : Int) ∧ (c.toNat : Int) ≤ 90) := by
  simp only [Pl.letB, Bool.or_eq_true, Bool.and_eq_true, decide_eq_true_eq]; omega
theorem isLetter_byte (c : UInt8) (w : World) : Calls Tryz.prog 118 #[.int .u8 (c.toNat : Int)] w fun e w' => e = .returned (.bool (Pl.letB c)) ∧ w = w' := by
  have hi := letB_iff c
  obtain ⟨r, hr⟩ : ∃ r, Pl.letB c = r := ⟨_, rfl⟩
  obtain ⟨n, hn⟩ : ∃ n : Nat, c.toNat = n := ⟨_, rfl⟩
  rw [hr, hn] at hi
  rw [hr, hn]
  have HI := Lib.hid hi
  clear hi hr hn
  have hd : ((97 : Int) ≤ (n : Int) ∧ (n : Int) ≤ 122) ∨ ((65 : Int) ≤ (n : Int) ∧ (n : Int) ≤ 90) ∨ 122 < (n : Int) ∨ (90 < (n : Int) ∧ (n : Int) < 97) ∨ (n : Int) < 65 := by omega
  rcases hd with ⟨h1, h2⟩ | ⟨h1, h2⟩ | h1 | ⟨h1, h2⟩ | h1
  · have hrt : r = true := HI.out.2 (Or.inl ⟨h1, h2⟩)
    subst hrt
    go_enter Tryz.func118, Tryz.ntmps118
    go_wp2
    go_ret
    exact ⟨rfl, rfl⟩
  · have hrt : r = true := HI.out.2 (Or.inr ⟨h1, h2⟩)
    subst hrt
    have h3 : ¬ (97 : Int) ≤ (n : Int) := by omega
    go_enter Tryz.func118, Tryz.ntmps118
    go_wp2
    go_ret
    exact ⟨rfl, rfl⟩
  · have hrt : r = false := by
      cases r with
      | false => rfl
      | true => have := HI.out.1 rfl; omega
    subst hrt
    have h3 : (97 : Int) ≤ (n : Int) := by omega
    have h4 : ¬ (n : Int) ≤ 122 := by omega
    have h5 : (65 : Int) ≤ (n : Int) := by omega
    have h6 : ¬ (n : Int) ≤ 90 := by omega
    go_enter Tryz.func118, Tryz.ntmps118
    go_wp2
    go_ret
    exact ⟨rfl, rfl⟩
  · have hrt : r = false := by
      cases r with
      | false => rfl
      | true => have := HI.out.1 rfl; omega
    subst hrt
    have h3 : ¬ (97 : Int) ≤ (n : Int) := by omega
    have h5 : (65 : Int) ≤ (n : Int) := by omega
    have h6 : ¬ (n : Int) ≤ 90 := by omega
    go_enter Tryz.func118, Tryz.ntmps118
    go_wp2
    go_ret
    exact ⟨rfl, rfl⟩
  · have hrt : r = false := by
      cases r with
      | false => rfl
      | true => have := HI.out.1 rfl; omega
    subst hrt
    have h3 : ¬ (97 : Int) ≤ (n : Int) := by omega
    have h5 : ¬ (65 : Int) ≤ (n : Int) := by omega
    go_enter Tryz.func118, Tryz.ntmps118
    go_wp2
    go_ret
    exact ⟨rfl, rfl⟩
theorem pageWords_step {ss : List Pl.Bytes} {st : Bool} {k : Nat} (h : k < ss.length) (ha : (ss.take k).all (Pl.pageOk st) = true) (hb : Pl.pageOk st ss[k] = true) : (ss.take (k + 1)).all (Pl.pageOk st) = true := by
  rw [List.take_succ_eq_append_getElem h, List.all_append, ha]
  simp [hb]
theorem pageWords_bad {ss : List Pl.Bytes} {st : Bool} {k : Nat} (h : k < ss.length) (hb : Pl.pageOk st ss[k] = false) : Pl.pageWordsB ss st = false := by
  rw [Pl.pageWordsB, Bool.and_eq_false_iff]
  left
  rw [Bool.eq_false_iff]
  intro ht
  rw [List.all_eq_true] at ht
  rw [ht _ (List.getElem_mem h)] at hb
  cases hb
theorem pageOk_ch {st : Bool} {x : Pl.Bytes} {j : Nat} {c : UInt8} (hk : x[j]? = some c) (hc : Pl.pageCh c = false) : Pl.pageOk st x = false := by
  rw [Pl.pageOk, all_false x j c hk hc]; rfl
theorem pageOk_end {st : Bool} {x : Pl.Bytes} (h : x.all Pl.pageCh = true) : Pl.pageOk st x = !(x.isEmpty || (st && Pl.zeroAhead x)) := by
  rw [Pl.pageOk, h]; rfl
end Go.Proofs.YtgfkdjmoflbmdaaGreatDoor

namespace Go.Proofs.YtgfkdjmoflbmdaaGreatDoor
open Go.RowKit
open Go.Proofs

theorem c45 (c : UInt8) : (((c.toNat : Int) != 45) = false) ↔ c = 45 := by
  rw [bne_eq_false_iff_eq, ← UInt8.toNat_inj, show (45 : UInt8).toNat = 45 from rfl]; omega
set_option maxRecDepth 100000 in
set_option maxHeartbeats 4000000 in
theorem pageWords_any (A : Option Addr) (c : Nat) (ss : List Pl.Bytes) (st : Bool) (w : World) (hr : Rd w 1 A ss.length (ss.map S)) (hl : ss.length ≤ 40000) (hm : ∀ s ∈ ss, s.length ≤ 30000) :
    Calls Tryz.prog 99 #[.slice A ss.length c, .bool st] w fun e w' => e = .returned (.bool (Pl.pageWordsB ss st)) ∧ w = w' := by
  have HM := Lib.hid hm
  have HK := Lib.hid (IdentifiersKnown_any A c ss w hr hl hm)
  obtain ⟨R, hR⟩ : ∃ R, Pl.pageWordsB ss st = R := ⟨_, rfl⟩
  rw [hR]
  have HR := Lib.hid hR
  clear hm hR
  go_enter Tryz.func99, Tryz.ntmps99
  go_wp2
  go_loop [5] (fun i => ∃ k : Nat, k ≤ ss.length ∧ i = .int .i64 k ∧ (ss.take k).all (Pl.pageOk st) = true) (fun i => ss.length - (intOf i).toNat)
  case atStart => exact ⟨0, Nat.zero_le _, rfl, rfl⟩
  case round =>
    obtain ⟨k, hk, rfl, ha⟩ := hrel
    have HA := Lib.hid ha
    clear ha
    by_cases hlt : k < ss.length
    · obtain ⟨b, o, rfl, hc⟩ := hr.str_at hlt
      have hmk := HM.out ss[k] (List.getElem_mem hlt)
      obtain ⟨x, hx⟩ : ∃ x, (⟨ss[k].toArray⟩ : ByteArray) = x := ⟨_, rfl⟩
      have hxs : x.size ≤ 30000 := by rw [← hx]; exact hmk
      have hxd : x.data.toList = ss[k] := by rw [← hx]
      rw [S, hx] at hc
      have HX := Lib.hid hxd
      have hbad := fun h => pageWords_bad (st := st) hlt (by rw [← HX.out]; exact h)
      have hstep := fun h => pageWords_step (st := st) hlt HA.out (by rw [← HX.out]; exact h)
      have HBAD := Lib.hid hbad
      have HSTEP := Lib.hid hstep
      clear hx hxd hmk hbad hstep
      go_wp2_with fail
      go_loop [7] (fun i => ∃ j : Nat, j ≤ x.size ∧ i = .int .i64 j ∧ (x.data.toList.take j).all Pl.pageCh = true) (fun i => x.size - (intOf i).toNat)
      case atStart => exact ⟨0, Nat.zero_le _, rfl, rfl⟩
      case round =>
        obtain ⟨j, hj, rfl, hp⟩ := hrel
        have HP := Lib.hid hp
        clear hp
        by_cases hjl : j < x.size
        · have hcj := get_list x j hjl
          have hpc : Pl.pageCh x[j] = (Pl.isDig x[j] || Pl.letB x[j] || x[j] == 45) := rfl
          have h45 := c45 x[j]
          have hD := isDigit_byte x[j] w
          have hL := isLetter_byte x[j] w
          have hno := fun h => HBAD.out (pageOk_ch (st := st) hcj h)
          have hyes := fun h => all_take_step (p := Pl.pageCh) _ j _ HP.out hcj h
          obtain ⟨e, he⟩ : ∃ e, x[j] = e := ⟨_, rfl⟩
          obtain ⟨n, hn⟩ : ∃ n : Nat, e.toNat = n := ⟨_, rfl⟩
          have hxn : x[j].toNat = n := by rw [he, hn]
          rw [he] at hpc h45 hD hL hno hyes
          rw [hn] at h45 hD hL
          obtain ⟨d, hd⟩ : ∃ d, Pl.isDig e = d := ⟨_, rfl⟩
          obtain ⟨l, hl'⟩ : ∃ l, Pl.letB e = l := ⟨_, rfl⟩
          rw [hd] at hD hpc
          rw [hl'] at hL hpc
          have HD := Lib.hid hD
          have HL := Lib.hid hL
          have H45 := Lib.hid h45
          have HPC := Lib.hid hpc
          have HNO := Lib.hid hno
          have HYES := Lib.hid hyes
          have hn256 := UInt8.toNat_lt e
          rw [hn] at hn256
          clear hcj hpc h45 hD hL hno hyes he hn hd hl'
          cases d with
          | true =>
            have HT := Lib.hid (HYES.out (by rw [HPC.out]; rfl))
            go_wp2_with (go_at_call 48; refine HD.out.mono ?_; rintro e w' ⟨rfl, rfl⟩)
            go_round
            case rel => exact ⟨j + 1, by omega, by go_num, HT.out⟩
            case measure => simp [intOf]; omega
          | false =>
            cases l with
            | true =>
              have HT := Lib.hid (HYES.out (by rw [HPC.out]; rfl))
              go_wp2_with (first | (go_at_call 48; refine HD.out.mono ?_; rintro e w' ⟨rfl, rfl⟩) | (go_at_call 118; refine HL.out.mono ?_; rintro e w' ⟨rfl, rfl⟩))
              go_round
              case rel => exact ⟨j + 1, by omega, by go_num, HT.out⟩
              case measure => simp [intOf]; omega
            | false =>
              cases h45 : ((n : Int) != 45) with
              | false =>
                have HT := Lib.hid (HYES.out (by rw [HPC.out, H45.out.1 h45]; rfl))
                go_wp2_with (first | (go_at_call 48; refine HD.out.mono ?_; rintro e w' ⟨rfl, rfl⟩) | (go_at_call 118; refine HL.out.mono ?_; rintro e w' ⟨rfl, rfl⟩))
                go_round
                case rel => exact ⟨j + 1, by omega, by go_num, HT.out⟩
                case measure => simp [intOf]; omega
              | true =>
                have HF := Lib.hid (HNO.out (by
                  rw [HPC.out]
                  cases e45 : (e == 45) with
                  | false => rfl
                  | true =>
                    have := H45.out.2 (by simpa using e45)
                    rw [this] at h45; cases h45))
                go_wp2_with (first | (go_at_call 48; refine HD.out.mono ?_; rintro e w' ⟨rfl, rfl⟩) | (go_at_call 118; refine HL.out.mono ?_; rintro e w' ⟨rfl, rfl⟩))
                go_ret
                exact ⟨ret_bool (by rw [← HR.out, HF.out]), rfl⟩
        · obtain rfl : j = x.size := by omega
          have hall : x.data.toList.all Pl.pageCh = true := by rw [← HP.out, List.take_of_length_le (by rw [len_list]; exact Nat.le_refl _)]
          have hok := pageOk_end (st := st) hall
          have HOK := Lib.hid hok
          clear hok hall
          by_cases hx0 : x.size = 0
          · have hnil : x.data.toList = [] := List.eq_nil_of_length_eq_zero (by rw [len_list]; exact hx0)
            have hem : x.toList.isEmpty = true := by rw [toList_eq, hnil]; rfl
            have HF := Lib.hid (HBAD.out (by rw [HOK.out, hnil]; rfl))
            clear hnil
            go_wp2
            go_ret
            exact ⟨ret_bool (by rw [← HR.out, HF.out]), rfl⟩
          · have hpos : 0 < x.size := by omega
            have hposi : (0 : Int) < (x.size : Int) := by omega
            have hie : x.data.toList.isEmpty = false := by
              cases hxl : x.data.toList with
              | nil => exfalso; have := len_list x; rw [hxl] at this; simp at this; omega
              | cons c r => rfl
            have hem : x.toList.isEmpty = false := by rw [toList_eq]; exact hie
            rw [hie] at HOK
            clear hie hx0
            cases st with
            | false =>
              have HS := Lib.hid (HSTEP.out (by rw [HOK.out]; rfl))
              go_wp2
              go_round
              case rel => exact ⟨k + 1, by omega, by go_num, HS.out⟩
              case measure => simp [intOf]; omega
            | true =>
              by_cases h1 : 1 < x.size
              · have h1i : (1 : Int) < (x.size : Int) := by omega
                have hza : Pl.zeroAhead x.data.toList = (((x[0].toNat : Int) == 48) && Pl.allDig x.data.toList) := by
                  rw [Pl.zeroAhead, len_list, get_list x 0 hpos]
                  have e : (some x[0] == some (48 : UInt8)) = ((x[0].toNat : Int) == 48) := by
                    rw [Bool.eq_iff_iff, beq_iff_eq, beq_iff_eq, Option.some.injEq, ← UInt8.toNat_inj, show (48 : UInt8).toNat = 48 from rfl]; omega
                  rw [e]; simp [h1]
                rw [hza] at HOK
                clear hza
                obtain ⟨ad, had⟩ : ∃ ad, Pl.allDig x.data.toList = ad := ⟨_, rfl⟩
                have hAD := allDigits_any x w (by unfold maxLen; omega)
                rw [had] at HOK hAD
                have HAD := Lib.hid hAD
                clear had hAD
                cases h48 : ((x[0].toNat : Int) == 48) with
                | false =>
                  rw [h48] at HOK
                  have HS := Lib.hid (HSTEP.out (by rw [HOK.out]; rfl))
                  go_wp2
                  go_round
                  case rel => exact ⟨k + 1, by omega, by go_num, HS.out⟩
                  case measure => simp [intOf]; omega
                | true =>
                  rw [h48] at HOK
                  cases ad with
                  | false =>
                    have HS := Lib.hid (HSTEP.out (by rw [HOK.out]; rfl))
                    go_wp2_with (go_at_call 100; refine HAD.out.mono ?_; rintro e w' ⟨rfl, rfl⟩)
                    go_round
                    case rel => exact ⟨k + 1, by omega, by go_num, HS.out⟩
                    case measure => simp [intOf]; omega
                  | true =>
                    have HF := Lib.hid (HBAD.out (by rw [HOK.out]; rfl))
                    go_wp2_with (go_at_call 100; refine HAD.out.mono ?_; rintro e w' ⟨rfl, rfl⟩)
                    go_ret
                    exact ⟨ret_bool (by rw [← HR.out, HF.out]), rfl⟩
              · have h1i : ¬ (1 : Int) < (x.size : Int) := by omega
                have HS := Lib.hid (HSTEP.out (by rw [HOK.out, Pl.zeroAhead, len_list]; simp [h1]))
                go_wp2
                go_round
                case rel => exact ⟨k + 1, by omega, by go_num, HS.out⟩
                case measure => simp [intOf]; omega
    · obtain rfl : k = ss.length := by omega
      have hall : ss.all (Pl.pageOk st) = true := by rw [← HA.out, List.take_length]
      have hfin : R = (!st || Pl.idsKnown ss) := by rw [← HR.out, Pl.pageWordsB, hall]; rfl
      have HF := Lib.hid hfin
      clear hall hfin
      cases st with
      | false =>
        go_wp2
        go_ret
        exact ⟨ret_bool (by rw [HF.out]; rfl), rfl⟩
      | true =>
        go_wp2_with (go_at_call 83; refine HK.out.mono ?_; rintro e w' ⟨rfl, rfl⟩)
        go_ret
        exact ⟨ret_bool (by rw [HF.out]; rfl), rfl⟩
end Go.Proofs.YtgfkdjmoflbmdaaGreatDoor
