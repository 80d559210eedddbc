/- Contract: textParse. -/
import Derived.Test.YtgfkdjmoflbmdaaGreatDoorRXnxTj
namespace Go.Proofs.YtgfkdjmoflbmdaaGreatDoor
open Go.RowKit
open Go.Proofs
theorem buildOf_len2 (l : Pl.Bytes) : (Pl.buildOf l).length ≤ l.length :=
  Nat.le_trans (List.IsSuffix.length_le (List.dropWhile_suffix _)) (Pl.restV_len l)
theorem run_all {l : Pl.Bytes} {i k : Nat} (hd : ∀ x, i ≤ x → x < k → ∃ c, l[x]? = some c ∧ Pl.isDig c = true) : ((l.drop i).take (k - i)).all Pl.isDig = true := by
  rw [List.all_eq_true]
  intro c hc
  obtain ⟨j, hj, rfl⟩ := List.mem_iff_getElem.1 hc
  rw [List.length_take, List.length_drop] at hj
  obtain ⟨c, h1, h2⟩ := hd (i + j) (by omega) (by omega)
  rw [List.getElem_take, List.getElem_drop]
  rw [List.getElem?_eq_getElem (by omega)] at h1
  rw [Option.some.inj h1]
  exact h2
def KeptLike (w : World) (m : Nat) (s : ByteArray) (e : Ending) (w' : World) : Prop :=
  ∃ A c, e = .returned (.agg #[.bool (Pl.startsV s.data.toList), .slice A (Pl.keptN m s.data.toList).length c, S (Pl.keptB m s.data.toList), .string s]) ∧ Rd w' 2 A (Pl.keptN m s.data.toList).length (IntC (Pl.keptN m s.data.toList)) ∧ Below w.heap.size w w'
set_option maxRecDepth 100000 in
set_option maxHeartbeats 8000000 in
theorem textParse_any (s : ByteArray) (m : Nat) (w : World) (hs : s.size ≤ 1500) (hm : m ≤ 100) :
    Calls Tryz.prog 59 #[.string s, .int .i64 (m : Int)] w (KeptLike w m s) := by
  obtain ⟨W0, hW0⟩ : ∃ W0, w.alloc (.cells #[.bool false, .slice none 0 0, .string ⟨#[]⟩, .string ⟨#[]⟩] 27) = W0 := ⟨_, rfl⟩
  have hb0 : Below w.heap.size w W0 := by rw [← hW0]; exact (Below.refl _ _).alloc (Nat.le_refl _) _
  have hQ0 : Blk W0 w.heap.size 27 #[.bool false, .slice none 0 0, .string ⟨#[]⟩, .string ⟨#[]⟩] := by rw [← hW0]; exact Blk.new _ _ _
  have HLP := Lib.hid (LikeParse_any s W0 (by omega))
  have HW0 := Lib.hid hW0
  clear hW0
  go_enter Tryz.func59, Tryz.ntmps59
  go_wp2_with fail
  rw [HW0.out]
  refine HLP.out.mono ?_; rintro e w1 ⟨A, c, rfl, hO, hb1⟩
  obtain ⟨n, hn⟩ : ∃ n, (Pl.numsOf s.data.toList).length = n := ⟨_, rfl⟩
  obtain ⟨sv, hsv⟩ : ∃ sv, Pl.startsV s.data.toList = sv := ⟨_, rfl⟩
  rw [hn] at hO ⊢
  rw [hsv]
  obtain ⟨W2, hW2⟩ : ∃ W2, w1.alloc (.cells #[.bool sv, .slice A n c, S (Pl.buildOf s.data.toList), .string s] 27) = W2 := ⟨_, rfl⟩
  have hb2 : Below w1.heap.size w1 W2 := by rw [← hW2]; exact (Below.refl _ _).alloc (Nat.le_refl _) _
  have hP2 : Blk W2 w1.heap.size 27 #[.bool sv, .slice A n c, S (Pl.buildOf s.data.toList), .string s] := by rw [← hW2]; exact Blk.new _ _ _
  obtain ⟨P, hP⟩ : ∃ P, w1.heap.size = P := ⟨_, rfl⟩
  obtain ⟨Q, hQ⟩ : ∃ Q, w.heap.size = Q := ⟨_, rfl⟩
  have hQP : w.heap.size < w1.heap.size := Nat.lt_of_lt_of_le hQ0.lt hb1.size
  rw [hP] at hP2
  rw [hQ] at hQ0
  rw [hP, hQ] at hQP
  have hQ2 : Blk W2 Q 27 #[.bool false, .slice none 0 0, .string ⟨#[]⟩, .string ⟨#[]⟩] := (hQ0.below hb1 hQ0.lt).below hb2 (by rw [← hP] at hQP; exact hQP)
  have hO2 := own_below hO hb2
  have hbw2 : Below w.heap.size w W2 := (hb0.trans (hb1.mono hb0.size)).trans (hb2.mono (by have := hb0.size; have := hb1.size; omega))
  have HI := Lib.hid (And.intro hn (And.intro hsv (And.intro hO2 (And.intro hbw2 (And.intro hP2 (And.intro hQ2 (And.intro hQP hQ)))))))
  have HW2 := Lib.hid hW2
  have HPP := Lib.hid hP
  clear hn hsv hO hO2 hb0 hb1 hb2 hbw2 hP2 hQ2 hQP hQ hW2 hQ0 hP
  go_upto_block 0 with fail
  rw [HPP.out, HI.out.2.2.2.2.2.2.2, HW2.out]
  go_cut [] (fun wx => Blk wx P 27 #[.bool sv, .slice A n c, S (Pl.keptB m s.data.toList), .string s] ∧ Blk wx Q 27 #[.bool false, .slice none 0 0, .string ⟨#[]⟩, .string ⟨#[]⟩] ∧ Below w.heap.size w wx ∧ wx.ownsRow 0 46 2 (.slice A n c) n (IntC (Pl.numsOf s.data.toList)))
  case first =>
    go_wp2_with fail
    go_loopw [6, 7] (fun nv iv wr => ∃ (i : Nat) (N : List Nat), i ≤ s.size ∧ nv = .int .i64 ((N.length : Nat) : Int) ∧ iv = .int .i64 (i : Int) ∧ TpAt s.data.toList i N ∧ (Pl.tailB (N.drop m)).length ≤ 2 * i ∧ Blk wr P 27 #[.bool sv, .slice A n c, S (Pl.buildOf s.data.toList ++ Pl.tailB (N.drop m)), .string s] ∧ Blk wr Q 27 #[.bool false, .slice none 0 0, .string ⟨#[]⟩, .string ⟨#[]⟩] ∧ Below w.heap.size w wr ∧ wr.ownsRow 0 46 2 (.slice A n c) n (IntC (Pl.numsOf s.data.toList))) (fun _ iv _ => s.size - (intOf iv).toNat)
    case atStart =>
      refine ⟨0, [], Nat.zero_le _, rfl, rfl, TpAt.start _, (by rw [List.drop_nil, Pl.tailB_nil]; simp), ?_, HI.out.2.2.2.2.2.1, HI.out.2.2.2.1, own_lower HI.out.2.2.1 (Nat.zero_le _)⟩
      rw [List.drop_nil, Pl.tailB_nil, List.append_nil]
      exact HI.out.2.2.2.2.1
    case round =>
      obtain ⟨w3, hw3⟩ : ∃ w3, w3 = wr := ⟨_, rfl⟩
      subst hw3
      obtain ⟨i, N, hi, rfl, rfl, hT, htl, hP, hQ, hbel, hO⟩ := hrel
      have hNl := hT.count
      rw [len_list] at hNl
      have HS := Lib.hid (And.intro hT (And.intro hP (And.intro hQ (And.intro hbel hO))))
      clear hP hQ hbel hO
      by_cases hlt : i < s.size
      · have hlz : (i : Int) < (s.size : Int) := by omega
        have hg := get_list s i hlt
        by_cases hdig : Pl.isDig s[i] = true
        · clear hT
          have HG := Lib.hid hg
          clear hg
          go_upto_block 2 with (go_at_call 48; refine (isDigit_byte _ _).mono ?_; rintro e w' ⟨rfl, rfl⟩)
          go_cut [8] (fun kv wx => ∃ k : Nat, i < k ∧ k ≤ s.size ∧ kv = .int .i64 (k : Int) ∧ (∀ x, i ≤ x → x < k → ∃ c, s.data.toList[x]? = some c ∧ Pl.isDig c = true) ∧ (∀ c, s.data.toList[k]? = some c → Pl.isDig c = false) ∧ w3 = wx)
          case first =>
            go_wp2_with fail
            go_loopw [8] (fun kv wx => ∃ k : Nat, i ≤ k ∧ k ≤ s.size ∧ kv = .int .i64 (k : Int) ∧ (∀ x, i ≤ x → x < k → ∃ c, s.data.toList[x]? = some c ∧ Pl.isDig c = true) ∧ w3 = wx) (fun kv _ => s.size - (intOf kv).toNat)
            case atStart => exact ⟨i, Nat.le_refl _, hi, rfl, fun x h1 h2 => by omega, rfl⟩
            case round =>
              obtain ⟨k, hik, hks, rfl, hd, hw⟩ := hrel
              subst hw
              by_cases hkl : k < s.size
              · have hkz : (k : Int) < (s.size : Int) := by omega
                have hgk := get_list s k hkl
                by_cases hdk : Pl.isDig s[k] = true
                · have HD := Lib.hid (show ∀ x, i ≤ x → x < k + 1 → ∃ c, s.data.toList[x]? = some c ∧ Pl.isDig c = true from fun x h1 h2 => by
                    rcases Nat.lt_or_ge x k with h | h
                    · exact hd x h1 h
                    · obtain rfl : x = k := by omega
                      exact ⟨_, hgk, hdk⟩)
                  clear hd hgk
                  go_wp2_with (go_at_call 48; refine (isDigit_byte _ _).mono ?_; rintro e w' ⟨rfl, rfl⟩)
                  go_roundw
                  case rel => exact ⟨k + 1, by omega, by omega, by go_num, HD.out, trivial⟩
                  case measure => simp [intOf]; omega
                · have hdk1 : Pl.isDig s[k] = false := by simpa using hdk
                  have hik2 : i < k := by
                    rcases Nat.lt_or_ge i k with h | h
                    · exact h
                    · obtain rfl : i = k := by omega
                      exact absurd hdig hdk
                  have HD := Lib.hid (And.intro hd (show ∀ c, s.data.toList[k]? = some c → Pl.isDig c = false from fun c hc => by rw [hgk] at hc; rw [← Option.some.inj hc]; exact hdk1))
                  clear hd hgk hdk
                  go_wp2_with (go_at_call 48; refine (isDigit_byte _ _).mono ?_; rintro e w' ⟨rfl, rfl⟩)
                  go_meet
                  case rel => exact ⟨k, hik2, hks, rfl, HD.out.1, HD.out.2, rfl⟩
              · have hkz : ¬ (k : Int) < (s.size : Int) := by omega
                have HD := Lib.hid (And.intro hd (show ∀ c, s.data.toList[k]? = some c → Pl.isDig c = false from fun c hc => by rw [List.getElem?_eq_none (by rw [len_list]; omega)] at hc; cases hc))
                clear hd
                go_wp2_with fail
                go_meet
                case rel => exact ⟨k, by omega, hks, rfl, HD.out.1, HD.out.2, rfl⟩
          case rest =>
            obtain ⟨k, hik, hks, rfl, hd, he, hw⟩ := hcut
            subst hw
            have hrun := HS.out.1.run hik hd he
            have hall := run_all hd
            obtain ⟨y, hy⟩ : ∃ y, s.extract i k = y := ⟨_, rfl⟩
            have hyd : y.data.toList = (s.data.toList.drop i).take (k - i) := by rw [← hy, Lib.extract_data]
            have hyl : y.size = k - i := by rw [← len_list, hyd, List.length_take, List.length_drop, len_list]; omega
            have htd := fun W => textDigits_any y W (by omega) (by omega)
            have hyne : y.data.toList ≠ [] := fun e => by have h9 := congrArg List.length e; rw [len_list, List.length_nil] at h9; omega
            rw [← hyd] at hall hrun
            rw [← Pl.shown_text _ hall hyne] at htd
            obtain ⟨V, hV⟩ : ∃ V, Pl.natOf y.data.toList = V := ⟨_, rfl⟩
            rw [hV] at htd hrun
            obtain ⟨ln, hln⟩ : ∃ ln, N.length = ln := ⟨_, rfl⟩
            have hTl : (Pl.shownB V).length ≤ y.size := by
              have := Pl.shownB_len_le y.data.toList hall hyne
              rw [hV, len_list] at this
              exact this
            have i1 : IntKind.i64.wrap ((ln : Int) + 1) = ((ln + 1 : Nat) : Int) := by rw [IntWalk.i64_in _ (by omega)]; omega
            have i2 : IntKind.i64.wrap ((k : Int) - 1) = ((k - 1 : Nat) : Int) := by rw [IntWalk.i64_in _ (by omega)]; omega
            obtain ⟨k1, hk1⟩ : ∃ k1, k - 1 = k1 := ⟨_, rfl⟩
            rw [hk1] at i2
            have HKK : Hid (k = k1 + 1) := Lib.hid (by omega)
            have i3 : IntKind.i64.wrap ((k1 : Int) + 1) = (k : Int) := by rw [IntWalk.i64_in _ (by omega)]; omega
            clear hk1
            have b1 : (i : Int) ≤ (k : Int) := by omega
            have b2 : (k : Int) ≤ (s.size : Int) := by omega
            have b3 : i ≤ k := by omega
            obtain ⟨bb, hbb⟩ : ∃ bb, Pl.buildOf s.data.toList ++ Pl.tailB (N.drop m) = bb := ⟨_, rfl⟩
            have hP := HS.out.2.1
            rw [hbb] at hP
            have HR := Lib.hid (And.intro hrun (And.intro hln (And.intro hbb hP)))
            rw [hln]
            clear hd he hall hyd hyne hrun hV hln hbb
            by_cases hm2 : m ≤ ln
            · have hmz : (m : Int) < ((ln + 1 : Nat) : Int) := by omega
              have p2 := hP.cell 2
              have f2 := hP.frozen 2
              simp at p2
              have hPl := hP.lt
              have hnx : bb ++ (46 :: Pl.shownB V) = Pl.buildOf s.data.toList ++ Pl.tailB ((N ++ [V]).drop m) := by
                rw [← HR.out.2.2.1, List.drop_append_of_le_length (by rw [HR.out.2.1]; exact hm2), Pl.tailB_snoc, List.append_assoc]
              have hbl : bb.length ≤ 1000000 := by
                rw [← HR.out.2.2.1, List.length_append]
                have h1 := buildOf_len2 s.data.toList
                rw [len_list] at h1
                omega
              obtain ⟨T, hT⟩ : ∃ T, Pl.shownB V = T := ⟨_, rfl⟩
              rw [hT] at htd hnx hTl
              have q1 : ¬ 9223372036854775807 < 1 + T.length := by omega
              have q2 : ¬ 9223372036854775807 < bb.length + (1 + T.length) := by omega
              have HX := Lib.hid hnx
              have HTL : Hid (T.length ≤ k - i) := Lib.hid (by omega)
              clear hnx hT hP hbl hTl hyl
              have htd2 := htd w3.drew
              rw [← hy] at htd2
              have HTD := Lib.hid htd2
              clear hy htd htd2
              go_wp2_with fail
              go_region_with (first
                | (go_at_call 94; refine HTD.out.mono ?_; rintro e wq ⟨rfl, rfl⟩))
              all_goals go_wp2_with fail
              all_goals
                go_roundw
                case rel =>
                  obtain ⟨_, _, hQ, hbel, hO⟩ := HS.out
                  have hP := HR.out.2.2.2
                  have hPw : w.heap.size ≤ P := by have := HI.out.2.2.2.2.2.2.1; have := HI.out.2.2.2.2.2.2.2; omega
                  have hne : Q ≠ P := by have := HI.out.2.2.2.2.2.2.1; omega
                  have hneP := own_blk_ne hO hP (by decide)
                  have htl2 : (Pl.tailB ((N ++ [V]).drop m)).length ≤ 2 * k := by
                    have h1 := congrArg List.length HX.out
                    rw [← HR.out.2.2.1, List.length_append, List.length_append, List.length_append, List.length_cons] at h1
                    have h2 := HTL.out
                    omega
                  refine ⟨k, N ++ [V], hks, by rw [List.length_append, HR.out.2.1]; rfl, rfl, HR.out.1, htl2, ?_, (Blk.drew hQ).far hne _, (hbel.drew).setCell hPw _, own_far (show w3.drew.ownsRow 0 46 2 (.slice A n c) n (IntC (Pl.numsOf s.data.toList)) from hO) hneP _⟩
                  rw [← HX.out, ← cat3]
                  exact (Blk.drew hP).set_ 2 _
                case measure => have := HKK.out; simp [intOf]; omega
            · have hmz : ¬ (m : Int) < ((ln + 1 : Nat) : Int) := by omega
              clear hP hyl hy htd
              go_wp2_with fail
              go_roundw
              case rel =>
                obtain ⟨_, hP, hQ, hbel, hO⟩ := HS.out
                have e1 : (N ++ [V]).drop m = N.drop m := by rw [List.drop_of_length_le (by rw [List.length_append, HR.out.2.1]; simp; omega), List.drop_of_length_le (by rw [HR.out.2.1]; omega)]
                exact ⟨k, N ++ [V], hks, by rw [List.length_append, HR.out.2.1]; rfl, rfl, HR.out.1, by rw [e1]; omega, by rw [e1]; exact hP, hQ, hbel, hO⟩
              case measure => have := HKK.out; simp [intOf]; omega
        · have hdig1 : Pl.isDig s[i] = false := by simpa using hdig
          clear hdig
          by_cases hp : ((s[i].toNat : Int) == 46) = true
          · have hp2 : s[i] = 46 := by rw [beq_iff_eq] at hp; exact UInt8.toNat_inj.1 (by rw [show (46 : UInt8).toNat = 46 from rfl]; omega)
            have HN := Lib.hid (hT.dot (by rw [hg, hp2]))
            clear hT hg hp2
            go_wp2_with (go_at_call 48; refine (isDigit_byte _ _).mono ?_; rintro e w' ⟨rfl, rfl⟩)
            go_roundw
            case rel => exact ⟨i + 1, N, by omega, rfl, by go_num, HN.out, by omega, HS.out.2.1, HS.out.2.2.1, HS.out.2.2.2.1, HS.out.2.2.2.2⟩
            case measure => simp [intOf]; omega
          · have hp1 : ((s[i].toNat : Int) == 46) = false := by simpa using hp
            have hp3 : s[i] ≠ 46 := by
              rw [beq_eq_false_iff_ne] at hp1
              intro e; apply hp1; rw [e]; rfl
            clear hp
            have hcb : Pl.coreB s[i] = false := by
              rw [Pl.coreB, hdig1]
              simp only [Bool.false_or, beq_eq_false_iff_ne]
              exact hp3
            rcases Nat.eq_zero_or_pos i with h0 | h0
            · subst h0
              by_cases hv : ((s[0].toNat : Int) == 118) = true
              · have hv2 : s[0] = 118 := by rw [beq_iff_eq] at hv; exact UInt8.toNat_inj.1 (by rw [show (118 : UInt8).toNat = 118 from rfl]; omega)
                have HN := Lib.hid (hT.vee (by rw [hg, hv2]))
                clear hT hg hv2 hp3 hcb
                go_wp2_with (go_at_call 48; refine (isDigit_byte _ _).mono ?_; rintro e w' ⟨rfl, rfl⟩)
                go_roundw
                case rel => exact ⟨1, N, by omega, rfl, by go_num, HN.out, by omega, HS.out.2.1, HS.out.2.2.1, HS.out.2.2.2.1, HS.out.2.2.2.2⟩
                case measure => simp [intOf]; omega
              · have hv1 : ((s[0].toNat : Int) == 118) = false := by simpa using hv
                have hv3 : s[0] ≠ 118 := by
                  rw [beq_eq_false_iff_ne] at hv1
                  intro e; apply hv1; rw [e]; rfl
                have HN := Lib.hid (hT.stop (Or.inr ⟨_, hg, hcb, fun _ => hv3⟩))
                clear hv hT hg hp3 hcb hv3
                go_wp2_with (go_at_call 48; refine (isDigit_byte _ _).mono ?_; rintro e w' ⟨rfl, rfl⟩)
                go_meet
                case rel =>
                  obtain ⟨_, hP, hQ, hbel, hO⟩ := HS.out
                  rw [← HN.out] at hP
                  exact ⟨hP, hQ, hbel, hO⟩
            · have hiz : ((i : Int) == 0) = false := by rw [beq_eq_false_iff_ne]; omega
              have HN := Lib.hid (hT.stop (Or.inr ⟨_, hg, hcb, fun e => by omega⟩))
              clear hT hg hp3 hcb
              go_wp2_with (go_at_call 48; refine (isDigit_byte _ _).mono ?_; rintro e w' ⟨rfl, rfl⟩)
              go_meet
              case rel =>
                obtain ⟨_, hP, hQ, hbel, hO⟩ := HS.out
                rw [← HN.out] at hP
                exact ⟨hP, hQ, hbel, hO⟩
      · have hlz : ¬ (i : Int) < (s.size : Int) := by omega
        have HN := Lib.hid (hT.stop (Or.inl (by rw [len_list]; omega)))
        clear hT
        go_wp2_with fail
        go_meet
        case rel =>
          obtain ⟨_, hP, hQ, hbel, hO⟩ := HS.out
          rw [← HN.out] at hP
          exact ⟨hP, hQ, hbel, hO⟩
  case rest =>
    obtain ⟨w3, hw3⟩ : ∃ w3, w3 = wc := ⟨_, rfl⟩
    subst hw3
    obtain ⟨hP, hQ, hbel, hO⟩ := hcut
    have hQw := HI.out.2.2.2.2.2.2.2
    have hPw : w.heap.size ≤ P := by have := HI.out.2.2.2.2.2.2.1; omega
    have hQP := HI.out.2.2.2.2.2.2.1
    have p0 := hP.cell 0
    have p1 := hP.cell 1
    have p2 := hP.cell 2
    have p3 := hP.cell 3
    have f1 := hP.frozen 1
    have d0 := hQ.cell 0
    have d1 := hQ.cell 1
    have d2 := hQ.cell 2
    have d3 := hQ.cell 3
    have g0 := hQ.frozen 0
    have g1 := hQ.frozen 1
    have g2 := hQ.frozen 2
    have g3 := hQ.frozen 3
    simp at p0 p1 p2 p3 d0 d1 d2 d3
    have hne : Q ≠ P := by omega
    have hneP := own_blk_ne hO hP (by decide)
    have hneQ := own_blk_ne hO hQ (by decide)
    have hwQ : w.heap.size ≤ Q := by omega
    have hPle : w.heap.size ≤ P := hPw
    have HF := Lib.hid (And.intro hP (And.intro hQ (And.intro hbel (And.intro hO (And.intro hneP (And.intro hneQ (And.intro hwQ (And.intro hPle hne))))))))
    clear hP hQ hbel hO hQw hPw hneP hneQ hwQ hPle
    by_cases hmn : m < n
    · have hz : (m : Int) < (n : Int) := by omega
      have hAf : ∃ g, A = some ⟨g, 0, none⟩ ∧ n ≤ c := by
        rcases HF.out.2.2.2.1.2 with ⟨h1, h2⟩ | ⟨g, cap, cur, h1, h2, h3, h4, _⟩
        · omega
        · injection h1 with h1 _ h5
          exact ⟨g, h1, by omega⟩
      obtain ⟨g, rfl, hnc⟩ := hAf
      have z1 : (m : Int) ≤ (c : Int) := by omega
      have z2 : m ≤ c := by omega
      have hkl : (Pl.keptN m s.data.toList).length = m := by unfold Pl.keptN; rw [List.length_take, HI.out.1]; omega
      have HKL := Lib.hid hkl
      clear hkl
      go_wp2_with fail
      obtain ⟨hP, hQ, hbel, hO, hneP, hneQ, hwQ, hPle, hne⟩ := HF.out
      refine bodyPost_ret (v := .agg #[.bool sv, .slice (some ⟨g, 0, none⟩) m c, S (Pl.keptB m s.data.toList), .string s]) (by simp [results, Tryz.results59, go_sem, d0, d1, d2, d3]) rfl ⟨some ⟨g, 0, none⟩, c, by rw [HI.out.2.1, HKL.out], ?_, ((((hbel.setCell hPle _).setCell hwQ _).setCell hwQ _).setCell hwQ _).setCell hwQ _⟩
      exact own_take2 (own_far (own_far (own_far (own_far (own_far hO hneP _) hneQ _) hneQ _) hneQ _) hneQ _) HI.out.1
    · have hz : ¬ (m : Int) < (n : Int) := by omega
      have hkl : Pl.keptN m s.data.toList = Pl.numsOf s.data.toList := by unfold Pl.keptN; exact List.take_of_length_le (by rw [HI.out.1]; omega)
      have HKL := Lib.hid hkl
      clear hkl
      go_wp2_with fail
      obtain ⟨hP, hQ, hbel, hO, hneP, hneQ, hwQ, hPle, hne⟩ := HF.out
      refine bodyPost_ret (v := .agg #[.bool sv, .slice A n c, S (Pl.keptB m s.data.toList), .string s]) (by simp [results, Tryz.results59, go_sem, d0, d1, d2, d3]) rfl ⟨A, c, by rw [HI.out.2.1, HKL.out, HI.out.1], ?_, (((hbel.setCell hwQ _).setCell hwQ _).setCell hwQ _).setCell hwQ _⟩
      rw [HKL.out]
      rw [HI.out.1]
      exact Rd.of_own (own_far (own_far (own_far (own_far hO hneQ _) hneQ _) hneQ _) hneQ _)
end Go.Proofs.YtgfkdjmoflbmdaaGreatDoor
