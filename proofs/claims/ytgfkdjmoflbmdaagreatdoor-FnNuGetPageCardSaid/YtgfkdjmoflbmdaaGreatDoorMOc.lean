/- Contract: CoreOf. -/
import Derived.Test.YtgfkdjmoflbmdaaGreatDoorMOaxOb
import Derived.Test.YtgfkdjmoflbmdaaGreatDoorMKaxKd
import Derived.Deep.RegionWith
import Derived.IntWalk
namespace Go.Proofs.YtgfkdjmoflbmdaaGreatDoor
open Go.RowKit
open Go.Proofs

def CoreBack (s : ByteArray) (least most : Nat) (w : World) (e : Ending) (w' : World) : Prop :=
  ((Pl.pageB s.data.toList least most = false ∧ e = .returned (.tuple #[.slice none 0 0, .slice none 0 0, .string ⟨#[]⟩, .bool false])) ∨
   (Pl.pageB s.data.toList least most = true ∧ ∃ A c B d, e = .returned (.tuple #[.slice A (Pl.pgNums s.data.toList).length c, .slice B (Pl.pgPre s.data.toList).length d, S (Pl.metaOf s.data.toList), .bool true]) ∧
     Rd w' 1 A (Pl.pgNums s.data.toList).length ((Pl.pgNums s.data.toList).map S) ∧ Rd w' 1 B (Pl.pgPre s.data.toList).length ((Pl.pgPre s.data.toList).map S))) ∧ Below w.heap.size w w'
theorem coreBack_no {s : ByteArray} {least most : Nat} {w w' : World} (h : Pl.pageB s.data.toList least most = false) (hb : Below w.heap.size w w') : CoreBack s least most w (.returned (.tuple #[.slice none 0 0, .slice none 0 0, .string ⟨#[]⟩, .bool false])) w' := ⟨Or.inl ⟨h, rfl⟩, hb⟩
theorem beforePlus_ext {s : ByteArray} {k : Nat} (h : Pl.idxOf 43 s.data.toList = some k) : (s.extract 0 k).data.toList = Pl.beforePlus s.data.toList := by
  rw [Pl.beforePlus, h, Lib.extract_data]; simp
theorem take_ext (s : ByteArray) (k : Nat) : (s.extract 0 k).data.toList = s.data.toList.take k := by rw [Lib.extract_data]; simp
theorem drop_ext (s : ByteArray) (k : Nat) : (s.extract (k + 1) s.size).data.toList = s.data.toList.drop (k + 1) := by rw [Lib.extract_data, List.take_of_length_le (by rw [List.length_drop, len_list]; exact Nat.le_refl _)]
theorem splitB_count (c : UInt8) (l : Pl.Bytes) : (Pl.splitB c l).length ≤ l.length + 1 := Pl.splitB_length c l
set_option maxRecDepth 100000 in
set_option maxHeartbeats 8000000 in
theorem CoreOf_any (s : ByteArray) (least most : Nat) (w : World) (hs : s.size ≤ 30000) (_h1 : least ≤ 1000) (_h2 : most ≤ 1000) :
    Calls Tryz.prog 71 #[.string s, .int .i64 (least : Int), .int .i64 (most : Int)] w (CoreBack s least most w) := by
  have HI := Lib.hid (fun W => indexOf_any s 43 W (by unfold maxLen; omega))
  cases hk : Pl.idxOf 43 s.data.toList with
  | none =>
    have hi : idxI 43 s.data.toList = -1 := by rw [idxI, hk]
    rw [hi] at HI
    have HB_D := Lib.hid (show s.data.toList = Pl.beforePlus s.data.toList from by rw [Pl.beforePlus, hk])
    have HMETA := Lib.hid (metaOf_none hk)
    have HPG0 := Lib.hid (show Pl.pageB s.data.toList least most = (!(decide ((Pl.pgNums s.data.toList).length < least) || (decide (most < (Pl.pgNums s.data.toList).length) || !Pl.pageWordsB (Pl.pgPre s.data.toList) true)) && (Pl.pgNums s.data.toList).all Pl.allDig) from by rw [Pl.pageB, Pl.metaOk, hk]; rfl)
    clear hi hk
    go_enter Tryz.func71, Tryz.ntmps71
    go_wp2_with fail
    refine (HI.out w).mono ?_; rintro e w1 ⟨rfl, rfl⟩
    have HI2 := Lib.hid (fun W => indexOf_any s 45 W (by unfold maxLen; omega))
    cases hk2 : Pl.idxOf 45 s.data.toList with
    | none =>
      have hi2 : idxI 45 s.data.toList = -1 := by rw [idxI, hk2]
      rw [hi2] at HI2
      have HCO := Lib.hid (show Pl.hyCore s.data.toList = s.data.toList from by rw [Pl.hyCore, hk2])
      have HPR := Lib.hid (show Pl.pgPre s.data.toList = [] from by rw [Pl.pgPre, ← HB_D.out, Pl.hyPre, hk2])
      have HPG := Lib.hid (show Pl.pageB s.data.toList least most = (!(decide ((Pl.pgNums s.data.toList).length < least) || (decide (most < (Pl.pgNums s.data.toList).length) || !Pl.pageWordsB [] true)) && (Pl.pgNums s.data.toList).all Pl.allDig) from by rw [← HPR.out]; exact HPG0.out)
      have hpl : ([] : List Pl.Bytes).length ≤ 40000 := by simp
      have HMP := Lib.hid (show ∀ p ∈ ([] : List Pl.Bytes), p.length ≤ 30000 from by intro p hp; cases hp)
      have HRP := Lib.hid (Rd.nil w 1 none)
      have hbbq := Below.refl w.heap.size w
      clear hi2 hk2
      go_wp2_with fail
      refine (HI2.out _).mono ?_; rintro e w4 ⟨rfl, rfl⟩
      go_wp2_with fail
      refine (cut_any s w (by unfold lim; omega)).mono ?_; rintro e w5 ⟨A, c, rfl, hown, hb5⟩
      have hRA := Rd.of_own hown
      have hRB := HRP.out.below hb5
      have hnn : (Pl.splitB 46 s.data.toList).length ≤ 40000 := by have := splitB_count 46 s.data.toList; rw [len_list] at this; omega
      have hmn := fun p (h : p ∈ Pl.splitB 46 s.data.toList) => (Pl.splitB_mem 46 s.data.toList p h).1
      rw [len_list] at hmn
      obtain ⟨ns, hns⟩ : ∃ ns, Pl.splitB 46 s.data.toList = ns := ⟨_, rfl⟩
      rw [hns] at hRA hnn hmn
      have hN : Pl.pgNums s.data.toList = ns := by rw [← hns, Pl.pgNums, ← HB_D.out, HCO.out]
      have hpage := HPG.out
      rw [hN] at hpage
      have hbb5 := hbbq.trans (hb5.mono hbbq.size)
      have HMN := Lib.hid hmn
      have HPW := Lib.hid (pageWords_any none 0 [] true w5 hRB hpl HMP.out)
      obtain ⟨pw, hpw⟩ : ∃ pw, Pl.pageWordsB [] true = pw := ⟨_, rfl⟩
      rw [hpw] at HPW hpage
      have HPAGE := Lib.hid hpage
      have HN := Lib.hid hN
      have hlenN : (Pl.splitB 46 s.data.toList).length = ns.length := by rw [hns]
      rw [hlenN]
      clear hpage hN hown hmn hns hlenN hpw
      by_cases hl1 : (ns.length : Int) < (least : Int)
      · have hf := Lib.hid (show Pl.pageB s.data.toList least most = false from by rw [HPAGE.out]; have : ns.length < least := (by omega); simp [this])
        go_wp2
        exact bodyPost_ret (v := .tuple #[.slice none 0 0, .slice none 0 0, .string ⟨#[]⟩, .bool false]) (by simp [results, Tryz.results71, go_sem]) rfl (coreBack_no hf.out hbb5)
      · by_cases hl2 : (most : Int) < (ns.length : Int)
        · have hf := Lib.hid (show Pl.pageB s.data.toList least most = false from by rw [HPAGE.out]; have : most < ns.length := (by omega); simp [this])
          go_wp2
          exact bodyPost_ret (v := .tuple #[.slice none 0 0, .slice none 0 0, .string ⟨#[]⟩, .bool false]) (by simp [results, Tryz.results71, go_sem]) rfl (coreBack_no hf.out hbb5)
        · cases pw with
          | false =>
            have hf := Lib.hid (show Pl.pageB s.data.toList least most = false from by rw [HPAGE.out]; simp)
            go_wp2_with (go_at_call 99; refine HPW.out.mono ?_; rintro e w' ⟨rfl, rfl⟩)
            exact bodyPost_ret (v := .tuple #[.slice none 0 0, .slice none 0 0, .string ⟨#[]⟩, .bool false]) (by simp [results, Tryz.results71, go_sem]) rfl (coreBack_no hf.out hbb5)
          | true =>
            have hfin := Lib.hid (show Pl.pageB s.data.toList least most = ns.all Pl.allDig from by
              rw [HPAGE.out]
              have e1 : ¬ ns.length < least := by omega
              have e2 : ¬ most < ns.length := by omega
              simp [e1, e2])
            have n1 : decide (ns.length < least) = false := by simp; omega
            have n2 : decide (most < ns.length) = false := by simp; omega
            go_wp2_with (go_at_call 99; refine HPW.out.mono ?_; rintro e w' ⟨rfl, rfl⟩)
            go_loopw [6, 7, 8, 9, 14] (fun v6 v7 v8 v9 i wr => ∃ j : Nat, j ≤ ns.length ∧ v6 = .slice A ns.length c ∧ v7 = .slice none 0 0 ∧ v8 = .string ⟨#[]⟩ ∧ v9 = .bool false ∧ i = .int .i64 j ∧ (ns.take j).all Pl.allDig = true ∧ wr = w5) (fun _ _ _ _ i _ => ns.length - (intOf i).toNat)
            case atStart => exact ⟨0, Nat.zero_le _, rfl, rfl, rfl, rfl, rfl, rfl, rfl⟩
            case round =>
              obtain ⟨j, hj, rfl, rfl, rfl, rfl, rfl, hp, rfl⟩ := hrel
              have HP := Lib.hid hp
              clear hp
              by_cases hjl : j < ns.length
              · obtain ⟨b, o, rfl, hc⟩ := hRA.str_at hjl
                have hmk := HMN.out ns[j] (List.getElem_mem hjl)
                obtain ⟨x, hx⟩ : ∃ x, (⟨ns[j].toArray⟩ : ByteArray) = x := ⟨_, rfl⟩
                have hxs : x.size ≤ 30000 := by rw [← hx, S_size]; omega
                have hxd : x.data.toList = ns[j] := by rw [← hx]
                rw [S, hx] at hc
                have hAD := allDigits_any x wr (by unfold maxLen; omega)
                obtain ⟨ad, had⟩ : ∃ ad, Pl.allDig x.data.toList = ad := ⟨_, rfl⟩
                rw [had] at hAD
                have HAD := Lib.hid hAD
                rw [hxd] at had
                have HD := Lib.hid had
                clear hx hxd hmk hAD had
                cases ad with
                | false =>
                  have hf := Lib.hid (show Pl.pageB s.data.toList least most = false from by
                    rw [hfin.out, Bool.eq_false_iff]; intro ht
                    rw [List.all_eq_true] at ht
                    have := ht _ (List.getElem_mem hjl)
                    rw [HD.out] at this; cases this)
                  go_wp2_with (go_at_call 100; refine HAD.out.mono ?_; rintro e w' ⟨rfl, rfl⟩)
                  exact bodyPost_ret (v := .tuple #[.slice none 0 0, .slice none 0 0, .string ⟨#[]⟩, .bool false]) (by simp [results, Tryz.results71, go_sem]) rfl (coreBack_no hf.out (by first | assumption | exact hbb5))
                | true =>
                  have HS := Lib.hid (show (ns.take (j + 1)).all Pl.allDig = true from by
                    rw [List.take_succ_eq_append_getElem hjl, List.all_append, HP.out]; simp [HD.out])
                  go_wp2_with (go_at_call 100; refine HAD.out.mono ?_; rintro e w' ⟨rfl, rfl⟩)
                  go_roundw
                  case rel => exact ⟨j + 1, by omega, rfl, rfl, rfl, rfl, by go_num, HS.out, by first | trivial | rfl⟩
                  case measure => simp [intOf]; omega
              · obtain rfl : j = ns.length := by omega
                have ht := Lib.hid (show Pl.pageB s.data.toList least most = true from by rw [hfin.out, ← HP.out, List.take_length])
                go_wp2
                refine bodyPost_ret (v := .tuple #[.slice A ns.length c, .slice none 0 0, .string ⟨#[]⟩, .bool true]) (by simp [results, Tryz.results71, go_sem]) rfl ⟨Or.inr ⟨ht.out, A, c, none, 0, ?_, ?_, ?_⟩, hbb5⟩
                · rw [HN.out, HPR.out, ← HMETA.out]; rfl
                · rw [HN.out]; exact hRA
                · rw [HPR.out]; exact hRB
    | some k2 =>
      have hi2 : idxI 45 s.data.toList = (k2 : Int) := by rw [idxI, hk2]
      have hlt2 := (Pl.idxOf_some hk2).1
      rw [len_list] at hlt2
      rw [hi2] at HI2
      obtain ⟨co, hco⟩ : ∃ co, s.extract 0 k2 = co := ⟨_, rfl⟩
      obtain ⟨po, hpo⟩ : ∃ po, s.extract (k2 + 1) s.size = po := ⟨_, rfl⟩
      have hcs : co.size ≤ 30000 := by rw [← hco, ByteArray.size_extract]; omega
      have hps : po.size ≤ 30000 := by rw [← hpo, ByteArray.size_extract]; omega
      obtain ⟨pre, hpre⟩ : ∃ pre, Pl.splitB 46 po.data.toList = pre := ⟨_, rfl⟩
      have HCO := Lib.hid (show Pl.hyCore s.data.toList = co.data.toList from by rw [Pl.hyCore, hk2, ← hco, take_ext])
      have HPR := Lib.hid (show Pl.pgPre s.data.toList = pre from by rw [Pl.pgPre, ← HB_D.out, Pl.hyPre, hk2, ← hpre, ← hpo, drop_ext])
      have HPG := Lib.hid (show Pl.pageB s.data.toList least most = (!(decide ((Pl.pgNums s.data.toList).length < least) || (decide (most < (Pl.pgNums s.data.toList).length) || !Pl.pageWordsB pre true)) && (Pl.pgNums s.data.toList).all Pl.allDig) from by rw [← HPR.out]; exact HPG0.out)
      have hpl : pre.length ≤ 40000 := by have := splitB_count 46 po.data.toList; rw [len_list, hpre] at this; omega
      have HMP := Lib.hid (show ∀ p ∈ pre, p.length ≤ 30000 from by intro p hp; rw [← hpre] at hp; have := (Pl.splitB_mem 46 po.data.toList p hp).1; rw [len_list] at this; omega)
      have HCUT := fun W => cut_any po W (by unfold lim; omega)
      rw [hpre, ← hpo] at HCUT
      have HCUT := Lib.hid HCUT
      have HCOE := Lib.hid hco
      have HPOE := Lib.hid hpo
      clear hi2 hk2 hco hpo hpre
      go_wp2_with fail
      refine (HI2.out _).mono ?_; rintro e w4 ⟨rfl, rfl⟩
      go_wp2_with fail
      have b1 : (k2 : Int) ≤ (s.size : Int) := by omega
      have b2 : (k2 : Int) + 1 ≤ (s.size : Int) := by omega
      have b3 : k2 ≤ s.size := by omega
      have b4 : k2 + 1 ≤ s.size := by omega
      have b5 : (0 : Int) ≤ (k2 : Int) := by omega
      have b6 : (0 : Int) ≤ (k2 : Int) + 1 := by omega
      have hw1 : IntKind.i64.wrap ((k2 : Int) + 1) = (k2 : Int) + 1 := IntWalk.i64_in _ (by omega)
      have hw2 : ((k2 : Int) + 1).toNat = k2 + 1 := by omega
      have hw3 : ((k2 : Int) + 1 ≤ (s.size : Int)) = True := eq_true (by omega)
      have hw : Below w.heap.size w (w).drew := (Below.refl w.heap.size w).drew
      go_region_with (first | (go_at_call 49; refine (HCUT.out _).mono ?_; rintro e wq ⟨B, d, rfl, hownq, hbq⟩; have HRP := Lib.hid (Rd.of_own hownq); have hbbq := hw.trans (hbq.mono hw.size)))
      clear hw1 hw2 hw3 b1 b2 b3 b4 b5 b6
      go_wp2_with fail
      rw [HCOE.out]
      refine (cut_any co wq (by unfold lim; omega)).mono ?_; rintro e w5 ⟨A, c, rfl, hown, hb5⟩
      have hRA := Rd.of_own hown
      have hRB := HRP.out.below hb5
      have hnn : (Pl.splitB 46 co.data.toList).length ≤ 40000 := by have := splitB_count 46 co.data.toList; rw [len_list] at this; omega
      have hmn := fun p (h : p ∈ Pl.splitB 46 co.data.toList) => (Pl.splitB_mem 46 co.data.toList p h).1
      rw [len_list] at hmn
      obtain ⟨ns, hns⟩ : ∃ ns, Pl.splitB 46 co.data.toList = ns := ⟨_, rfl⟩
      rw [hns] at hRA hnn hmn
      have hN : Pl.pgNums s.data.toList = ns := by rw [← hns, Pl.pgNums, ← HB_D.out, HCO.out]
      have hpage := HPG.out
      rw [hN] at hpage
      have hbb5 := hbbq.trans (hb5.mono hbbq.size)
      have HMN := Lib.hid hmn
      have HPW := Lib.hid (pageWords_any B d pre true w5 hRB hpl HMP.out)
      obtain ⟨pw, hpw⟩ : ∃ pw, Pl.pageWordsB pre true = pw := ⟨_, rfl⟩
      rw [hpw] at HPW hpage
      have HPAGE := Lib.hid hpage
      have HN := Lib.hid hN
      have hlenN : (Pl.splitB 46 co.data.toList).length = ns.length := by rw [hns]
      rw [hlenN]
      clear hpage hN hown hmn hns hlenN hpw
      by_cases hl1 : (ns.length : Int) < (least : Int)
      · have hf := Lib.hid (show Pl.pageB s.data.toList least most = false from by rw [HPAGE.out]; have : ns.length < least := (by omega); simp [this])
        go_wp2
        exact bodyPost_ret (v := .tuple #[.slice none 0 0, .slice none 0 0, .string ⟨#[]⟩, .bool false]) (by simp [results, Tryz.results71, go_sem]) rfl (coreBack_no hf.out hbb5)
      · by_cases hl2 : (most : Int) < (ns.length : Int)
        · have hf := Lib.hid (show Pl.pageB s.data.toList least most = false from by rw [HPAGE.out]; have : most < ns.length := (by omega); simp [this])
          go_wp2
          exact bodyPost_ret (v := .tuple #[.slice none 0 0, .slice none 0 0, .string ⟨#[]⟩, .bool false]) (by simp [results, Tryz.results71, go_sem]) rfl (coreBack_no hf.out hbb5)
        · cases pw with
          | false =>
            have hf := Lib.hid (show Pl.pageB s.data.toList least most = false from by rw [HPAGE.out]; simp)
            go_wp2_with (go_at_call 99; refine HPW.out.mono ?_; rintro e w' ⟨rfl, rfl⟩)
            exact bodyPost_ret (v := .tuple #[.slice none 0 0, .slice none 0 0, .string ⟨#[]⟩, .bool false]) (by simp [results, Tryz.results71, go_sem]) rfl (coreBack_no hf.out hbb5)
          | true =>
            have hfin := Lib.hid (show Pl.pageB s.data.toList least most = ns.all Pl.allDig from by
              rw [HPAGE.out]
              have e1 : ¬ ns.length < least := by omega
              have e2 : ¬ most < ns.length := by omega
              simp [e1, e2])
            have n1 : decide (ns.length < least) = false := by simp; omega
            have n2 : decide (most < ns.length) = false := by simp; omega
            go_wp2_with (go_at_call 99; refine HPW.out.mono ?_; rintro e w' ⟨rfl, rfl⟩)
            go_loopw [6, 7, 8, 9, 14] (fun v6 v7 v8 v9 i wr => ∃ j : Nat, j ≤ ns.length ∧ v6 = .slice A ns.length c ∧ v7 = .slice B pre.length d ∧ v8 = .string ⟨#[]⟩ ∧ v9 = .bool false ∧ i = .int .i64 j ∧ (ns.take j).all Pl.allDig = true ∧ wr = w5) (fun _ _ _ _ i _ => ns.length - (intOf i).toNat)
            case atStart => exact ⟨0, Nat.zero_le _, rfl, rfl, rfl, rfl, rfl, rfl, rfl⟩
            case round =>
              obtain ⟨j, hj, rfl, rfl, rfl, rfl, rfl, hp, rfl⟩ := hrel
              have HP := Lib.hid hp
              clear hp
              by_cases hjl : j < ns.length
              · obtain ⟨b, o, rfl, hc⟩ := hRA.str_at hjl
                have hmk := HMN.out ns[j] (List.getElem_mem hjl)
                obtain ⟨x, hx⟩ : ∃ x, (⟨ns[j].toArray⟩ : ByteArray) = x := ⟨_, rfl⟩
                have hxs : x.size ≤ 30000 := by rw [← hx, S_size]; omega
                have hxd : x.data.toList = ns[j] := by rw [← hx]
                rw [S, hx] at hc
                have hAD := allDigits_any x wr (by unfold maxLen; omega)
                obtain ⟨ad, had⟩ : ∃ ad, Pl.allDig x.data.toList = ad := ⟨_, rfl⟩
                rw [had] at hAD
                have HAD := Lib.hid hAD
                rw [hxd] at had
                have HD := Lib.hid had
                clear hx hxd hmk hAD had
                cases ad with
                | false =>
                  have hf := Lib.hid (show Pl.pageB s.data.toList least most = false from by
                    rw [hfin.out, Bool.eq_false_iff]; intro ht
                    rw [List.all_eq_true] at ht
                    have := ht _ (List.getElem_mem hjl)
                    rw [HD.out] at this; cases this)
                  go_wp2_with (go_at_call 100; refine HAD.out.mono ?_; rintro e w' ⟨rfl, rfl⟩)
                  exact bodyPost_ret (v := .tuple #[.slice none 0 0, .slice none 0 0, .string ⟨#[]⟩, .bool false]) (by simp [results, Tryz.results71, go_sem]) rfl (coreBack_no hf.out (by first | assumption | exact hbb5))
                | true =>
                  have HS := Lib.hid (show (ns.take (j + 1)).all Pl.allDig = true from by
                    rw [List.take_succ_eq_append_getElem hjl, List.all_append, HP.out]; simp [HD.out])
                  go_wp2_with (go_at_call 100; refine HAD.out.mono ?_; rintro e w' ⟨rfl, rfl⟩)
                  go_roundw
                  case rel => exact ⟨j + 1, by omega, rfl, rfl, rfl, rfl, by go_num, HS.out, by first | trivial | rfl⟩
                  case measure => simp [intOf]; omega
              · obtain rfl : j = ns.length := by omega
                have ht := Lib.hid (show Pl.pageB s.data.toList least most = true from by rw [hfin.out, ← HP.out, List.take_length])
                go_wp2
                refine bodyPost_ret (v := .tuple #[.slice A ns.length c, .slice B pre.length d, .string ⟨#[]⟩, .bool true]) (by simp [results, Tryz.results71, go_sem]) rfl ⟨Or.inr ⟨ht.out, A, c, B, d, ?_, ?_, ?_⟩, hbb5⟩
                · rw [HN.out, HPR.out, ← HMETA.out]
                · rw [HN.out]; exact hRA
                · rw [HPR.out]; exact hRB
  | some k =>
    have hi : idxI 43 s.data.toList = (k : Int) := by rw [idxI, hk]
    rw [hi] at HI
    have hlt := (Pl.idxOf_some hk).1
    rw [len_list] at hlt
    obtain ⟨bd, hbd⟩ : ∃ bd, s.extract 0 k = bd := ⟨_, rfl⟩
    obtain ⟨mt, hmt⟩ : ∃ mt, s.extract (k + 1) s.size = mt := ⟨_, rfl⟩
    have hbs : bd.size ≤ 30000 := by rw [← hbd, ByteArray.size_extract]; omega
    have hms : mt.size ≤ 30000 := by rw [← hmt, ByteArray.size_extract]; omega
    have HB_D := Lib.hid (show bd.data.toList = Pl.beforePlus s.data.toList from by rw [← hbd]; exact beforePlus_ext hk)
    have HMETA := Lib.hid (show Value.string mt = S (Pl.metaOf s.data.toList) from by rw [← hmt]; exact metaOf_ext hk)
    obtain ⟨ms, hmse⟩ : ∃ ms, Pl.splitB 46 mt.data.toList = ms := ⟨_, rfl⟩
    have hml : ms.length ≤ 40000 := by have := splitB_count 46 mt.data.toList; rw [len_list, hmse] at this; omega
    have HMM := Lib.hid (show ∀ p ∈ ms, p.length ≤ 30000 from by intro p hp; rw [← hmse] at hp; have := (Pl.splitB_mem 46 mt.data.toList p hp).1; rw [len_list] at this; omega)
    have HMO := Lib.hid (show Pl.metaOk s.data.toList = Pl.pageWordsB ms false from by rw [Pl.metaOk, hk, ← hmse, ← hmt, drop_ext])
    have hCUTM := fun W => cut_any mt W (by unfold lim; omega)
    rw [hmse] at hCUTM
    have HCUTM := Lib.hid hCUTM
    obtain ⟨pm, hpm⟩ : ∃ pm, Pl.pageWordsB ms false = pm := ⟨_, rfl⟩
    have hPWM := fun W A c (hr : Rd W 1 A ms.length (ms.map S)) => pageWords_any A c ms false W hr hml HMM.out
    rw [hpm] at hPWM HMO
    have HPWM := Lib.hid hPWM
    have HBDE := Lib.hid hbd
    have HMTE := Lib.hid hmt
    clear hi hk hbd hmt hmse hCUTM hpm hPWM
    go_enter Tryz.func71, Tryz.ntmps71
    go_wp2_with fail
    refine (HI.out w).mono ?_; rintro e w1 ⟨rfl, rfl⟩
    go_wp2_with fail
    have hw1 : IntKind.i64.wrap ((k : Int) + 1) = (k : Int) + 1 := IntWalk.i64_in _ (by omega)
    have hw2 : ((k : Int) + 1).toNat = k + 1 := by omega
    go_quiet (fail)
    clear hw1 hw2
    go_wp2_with fail
    rw [HMTE.out, HBDE.out]
    refine (HCUTM.out _).mono ?_; rintro e w2 ⟨A0, c0, rfl, hown0, hb2⟩
    have hbb2 : Below w.heap.size w w2 := (below_drewN (Below.refl w.heap.size w) _).trans hb2
    go_wp2_with fail
    refine (HPWM.out w2 A0 c0 (Rd.of_own hown0)).mono ?_; rintro e w3 ⟨rfl, rfl⟩
    cases pm with
    | false =>
      have hf := Lib.hid (show Pl.pageB s.data.toList least most = false from by rw [Pl.pageB, HMO.out]; rfl)
      go_wp2
      exact bodyPost_ret (v := .tuple #[.slice none 0 0, .slice none 0 0, .string ⟨#[]⟩, .bool false]) (by simp [results, Tryz.results71, go_sem]) rfl (coreBack_no hf.out hbb2)
    | true =>
      have HPG0 := Lib.hid (show Pl.pageB s.data.toList least most = (!(decide ((Pl.pgNums s.data.toList).length < least) || (decide (most < (Pl.pgNums s.data.toList).length) || !Pl.pageWordsB (Pl.pgPre s.data.toList) true)) && (Pl.pgNums s.data.toList).all Pl.allDig) from by rw [Pl.pageB, HMO.out]; rfl)
      have HI2 := Lib.hid (fun W => indexOf_any bd 45 W (by unfold maxLen; omega))
      cases hk2 : Pl.idxOf 45 bd.data.toList with
      | none =>
        have hi2 : idxI 45 bd.data.toList = -1 := by rw [idxI, hk2]
        rw [hi2] at HI2
        have HCO := Lib.hid (show Pl.hyCore bd.data.toList = bd.data.toList from by rw [Pl.hyCore, hk2])
        have HPR := Lib.hid (show Pl.pgPre s.data.toList = [] from by rw [Pl.pgPre, ← HB_D.out, Pl.hyPre, hk2])
        have HPG := Lib.hid (show Pl.pageB s.data.toList least most = (!(decide ((Pl.pgNums s.data.toList).length < least) || (decide (most < (Pl.pgNums s.data.toList).length) || !Pl.pageWordsB [] true)) && (Pl.pgNums s.data.toList).all Pl.allDig) from by rw [← HPR.out]; exact HPG0.out)
        have hpl : ([] : List Pl.Bytes).length ≤ 40000 := by simp
        have HMP := Lib.hid (show ∀ p ∈ ([] : List Pl.Bytes), p.length ≤ 30000 from by intro p hp; cases hp)
        have HRP := Lib.hid (Rd.nil w2 1 none)
        have hbbq := hbb2
        clear hi2 hk2
        go_wp2_with fail
        refine (HI2.out _).mono ?_; rintro e w4 ⟨rfl, rfl⟩
        go_wp2_with fail
        refine (cut_any bd w2 (by unfold lim; omega)).mono ?_; rintro e w5 ⟨A, c, rfl, hown, hb5⟩
        have hRA := Rd.of_own hown
        have hRB := HRP.out.below hb5
        have hnn : (Pl.splitB 46 bd.data.toList).length ≤ 40000 := by have := splitB_count 46 bd.data.toList; rw [len_list] at this; omega
        have hmn := fun p (h : p ∈ Pl.splitB 46 bd.data.toList) => (Pl.splitB_mem 46 bd.data.toList p h).1
        rw [len_list] at hmn
        obtain ⟨ns, hns⟩ : ∃ ns, Pl.splitB 46 bd.data.toList = ns := ⟨_, rfl⟩
        rw [hns] at hRA hnn hmn
        have hN : Pl.pgNums s.data.toList = ns := by rw [← hns, Pl.pgNums, ← HB_D.out, HCO.out]
        have hpage := HPG.out
        rw [hN] at hpage
        have hbb5 := hbbq.trans (hb5.mono hbbq.size)
        have HMN := Lib.hid hmn
        have HPW := Lib.hid (pageWords_any none 0 [] true w5 hRB hpl HMP.out)
        obtain ⟨pw, hpw⟩ : ∃ pw, Pl.pageWordsB [] true = pw := ⟨_, rfl⟩
        rw [hpw] at HPW hpage
        have HPAGE := Lib.hid hpage
        have HN := Lib.hid hN
        have hlenN : (Pl.splitB 46 bd.data.toList).length = ns.length := by rw [hns]
        rw [hlenN]
        clear hpage hN hown hmn hns hlenN hpw
        by_cases hl1 : (ns.length : Int) < (least : Int)
        · have hf := Lib.hid (show Pl.pageB s.data.toList least most = false from by rw [HPAGE.out]; have : ns.length < least := (by omega); simp [this])
          go_wp2
          exact bodyPost_ret (v := .tuple #[.slice none 0 0, .slice none 0 0, .string ⟨#[]⟩, .bool false]) (by simp [results, Tryz.results71, go_sem]) rfl (coreBack_no hf.out hbb5)
        · by_cases hl2 : (most : Int) < (ns.length : Int)
          · have hf := Lib.hid (show Pl.pageB s.data.toList least most = false from by rw [HPAGE.out]; have : most < ns.length := (by omega); simp [this])
            go_wp2
            exact bodyPost_ret (v := .tuple #[.slice none 0 0, .slice none 0 0, .string ⟨#[]⟩, .bool false]) (by simp [results, Tryz.results71, go_sem]) rfl (coreBack_no hf.out hbb5)
          · cases pw with
            | false =>
              have hf := Lib.hid (show Pl.pageB s.data.toList least most = false from by rw [HPAGE.out]; simp)
              go_wp2_with (go_at_call 99; refine HPW.out.mono ?_; rintro e w' ⟨rfl, rfl⟩)
              exact bodyPost_ret (v := .tuple #[.slice none 0 0, .slice none 0 0, .string ⟨#[]⟩, .bool false]) (by simp [results, Tryz.results71, go_sem]) rfl (coreBack_no hf.out hbb5)
            | true =>
              have hfin := Lib.hid (show Pl.pageB s.data.toList least most = ns.all Pl.allDig from by
                rw [HPAGE.out]
                have e1 : ¬ ns.length < least := by omega
                have e2 : ¬ most < ns.length := by omega
                simp [e1, e2])
              have n1 : decide (ns.length < least) = false := by simp; omega
              have n2 : decide (most < ns.length) = false := by simp; omega
              go_wp2_with (go_at_call 99; refine HPW.out.mono ?_; rintro e w' ⟨rfl, rfl⟩)
              go_loopw [6, 7, 8, 9, 14] (fun v6 v7 v8 v9 i wr => ∃ j : Nat, j ≤ ns.length ∧ v6 = .slice A ns.length c ∧ v7 = .slice none 0 0 ∧ v8 = .string mt ∧ v9 = .bool false ∧ i = .int .i64 j ∧ (ns.take j).all Pl.allDig = true ∧ wr = w5) (fun _ _ _ _ i _ => ns.length - (intOf i).toNat)
              case atStart => exact ⟨0, Nat.zero_le _, rfl, rfl, rfl, rfl, rfl, rfl, rfl⟩
              case round =>
                obtain ⟨j, hj, rfl, rfl, rfl, rfl, rfl, hp, rfl⟩ := hrel
                have HP := Lib.hid hp
                clear hp
                by_cases hjl : j < ns.length
                · obtain ⟨b, o, rfl, hc⟩ := hRA.str_at hjl
                  have hmk := HMN.out ns[j] (List.getElem_mem hjl)
                  obtain ⟨x, hx⟩ : ∃ x, (⟨ns[j].toArray⟩ : ByteArray) = x := ⟨_, rfl⟩
                  have hxs : x.size ≤ 30000 := by rw [← hx, S_size]; omega
                  have hxd : x.data.toList = ns[j] := by rw [← hx]
                  rw [S, hx] at hc
                  have hAD := allDigits_any x wr (by unfold maxLen; omega)
                  obtain ⟨ad, had⟩ : ∃ ad, Pl.allDig x.data.toList = ad := ⟨_, rfl⟩
                  rw [had] at hAD
                  have HAD := Lib.hid hAD
                  rw [hxd] at had
                  have HD := Lib.hid had
                  clear hx hxd hmk hAD had
                  cases ad with
                  | false =>
                    have hf := Lib.hid (show Pl.pageB s.data.toList least most = false from by
                      rw [hfin.out, Bool.eq_false_iff]; intro ht
                      rw [List.all_eq_true] at ht
                      have := ht _ (List.getElem_mem hjl)
                      rw [HD.out] at this; cases this)
                    go_wp2_with (go_at_call 100; refine HAD.out.mono ?_; rintro e w' ⟨rfl, rfl⟩)
                    exact bodyPost_ret (v := .tuple #[.slice none 0 0, .slice none 0 0, .string ⟨#[]⟩, .bool false]) (by simp [results, Tryz.results71, go_sem]) rfl (coreBack_no hf.out (by first | assumption | exact hbb5))
                  | true =>
                    have HS := Lib.hid (show (ns.take (j + 1)).all Pl.allDig = true from by
                      rw [List.take_succ_eq_append_getElem hjl, List.all_append, HP.out]; simp [HD.out])
                    go_wp2_with (go_at_call 100; refine HAD.out.mono ?_; rintro e w' ⟨rfl, rfl⟩)
                    go_roundw
                    case rel => exact ⟨j + 1, by omega, rfl, rfl, rfl, rfl, by go_num, HS.out, by first | trivial | rfl⟩
                    case measure => simp [intOf]; omega
                · obtain rfl : j = ns.length := by omega
                  have ht := Lib.hid (show Pl.pageB s.data.toList least most = true from by rw [hfin.out, ← HP.out, List.take_length])
                  go_wp2
                  refine bodyPost_ret (v := .tuple #[.slice A ns.length c, .slice none 0 0, .string mt, .bool true]) (by simp [results, Tryz.results71, go_sem]) rfl ⟨Or.inr ⟨ht.out, A, c, none, 0, ?_, ?_, ?_⟩, hbb5⟩
                  · rw [HN.out, HPR.out, ← HMETA.out]; rfl
                  · rw [HN.out]; exact hRA
                  · rw [HPR.out]; exact hRB
      | some k2 =>
        have hi2 : idxI 45 bd.data.toList = (k2 : Int) := by rw [idxI, hk2]
        have hlt2 := (Pl.idxOf_some hk2).1
        rw [len_list] at hlt2
        rw [hi2] at HI2
        obtain ⟨co, hco⟩ : ∃ co, bd.extract 0 k2 = co := ⟨_, rfl⟩
        obtain ⟨po, hpo⟩ : ∃ po, bd.extract (k2 + 1) bd.size = po := ⟨_, rfl⟩
        have hcs : co.size ≤ 30000 := by rw [← hco, ByteArray.size_extract]; omega
        have hps : po.size ≤ 30000 := by rw [← hpo, ByteArray.size_extract]; omega
        obtain ⟨pre, hpre⟩ : ∃ pre, Pl.splitB 46 po.data.toList = pre := ⟨_, rfl⟩
        have HCO := Lib.hid (show Pl.hyCore bd.data.toList = co.data.toList from by rw [Pl.hyCore, hk2, ← hco, take_ext])
        have HPR := Lib.hid (show Pl.pgPre s.data.toList = pre from by rw [Pl.pgPre, ← HB_D.out, Pl.hyPre, hk2, ← hpre, ← hpo, drop_ext])
        have HPG := Lib.hid (show Pl.pageB s.data.toList least most = (!(decide ((Pl.pgNums s.data.toList).length < least) || (decide (most < (Pl.pgNums s.data.toList).length) || !Pl.pageWordsB pre true)) && (Pl.pgNums s.data.toList).all Pl.allDig) from by rw [← HPR.out]; exact HPG0.out)
        have hpl : pre.length ≤ 40000 := by have := splitB_count 46 po.data.toList; rw [len_list, hpre] at this; omega
        have HMP := Lib.hid (show ∀ p ∈ pre, p.length ≤ 30000 from by intro p hp; rw [← hpre] at hp; have := (Pl.splitB_mem 46 po.data.toList p hp).1; rw [len_list] at this; omega)
        have HCUT := fun W => cut_any po W (by unfold lim; omega)
        rw [hpre, ← hpo] at HCUT
        have HCUT := Lib.hid HCUT
        have HCOE := Lib.hid hco
        have HPOE := Lib.hid hpo
        clear hi2 hk2 hco hpo hpre
        go_wp2_with fail
        refine (HI2.out _).mono ?_; rintro e w4 ⟨rfl, rfl⟩
        go_wp2_with fail
        have b1 : (k2 : Int) ≤ (bd.size : Int) := by omega
        have b2 : (k2 : Int) + 1 ≤ (bd.size : Int) := by omega
        have b3 : k2 ≤ bd.size := by omega
        have b4 : k2 + 1 ≤ bd.size := by omega
        have b5 : (0 : Int) ≤ (k2 : Int) := by omega
        have b6 : (0 : Int) ≤ (k2 : Int) + 1 := by omega
        have hw1 : IntKind.i64.wrap ((k2 : Int) + 1) = (k2 : Int) + 1 := IntWalk.i64_in _ (by omega)
        have hw2 : ((k2 : Int) + 1).toNat = k2 + 1 := by omega
        have hw3 : ((k2 : Int) + 1 ≤ (bd.size : Int)) = True := eq_true (by omega)
        have hWB : Below w.heap.size w (w2).drew := hbb2.drew
        go_region_with (first | (go_at_call 49; refine (HCUT.out _).mono ?_; rintro e wq ⟨B, d, rfl, hownq, hbq⟩; have HRP := Lib.hid (Rd.of_own hownq); have hbbq := hWB.trans (hbq.mono hWB.size)))
        clear hw1 hw2 hw3 b1 b2 b3 b4 b5 b6
        go_wp2_with fail
        rw [HCOE.out]
        refine (cut_any co wq (by unfold lim; omega)).mono ?_; rintro e w5 ⟨A, c, rfl, hown, hb5⟩
        have hRA := Rd.of_own hown
        have hRB := HRP.out.below hb5
        have hnn : (Pl.splitB 46 co.data.toList).length ≤ 40000 := by have := splitB_count 46 co.data.toList; rw [len_list] at this; omega
        have hmn := fun p (h : p ∈ Pl.splitB 46 co.data.toList) => (Pl.splitB_mem 46 co.data.toList p h).1
        rw [len_list] at hmn
        obtain ⟨ns, hns⟩ : ∃ ns, Pl.splitB 46 co.data.toList = ns := ⟨_, rfl⟩
        rw [hns] at hRA hnn hmn
        have hN : Pl.pgNums s.data.toList = ns := by rw [← hns, Pl.pgNums, ← HB_D.out, HCO.out]
        have hpage := HPG.out
        rw [hN] at hpage
        have hbb5 := hbbq.trans (hb5.mono hbbq.size)
        have HMN := Lib.hid hmn
        have HPW := Lib.hid (pageWords_any B d pre true w5 hRB hpl HMP.out)
        obtain ⟨pw, hpw⟩ : ∃ pw, Pl.pageWordsB pre true = pw := ⟨_, rfl⟩
        rw [hpw] at HPW hpage
        have HPAGE := Lib.hid hpage
        have HN := Lib.hid hN
        have hlenN : (Pl.splitB 46 co.data.toList).length = ns.length := by rw [hns]
        rw [hlenN]
        clear hpage hN hown hmn hns hlenN hpw
        by_cases hl1 : (ns.length : Int) < (least : Int)
        · have hf := Lib.hid (show Pl.pageB s.data.toList least most = false from by rw [HPAGE.out]; have : ns.length < least := (by omega); simp [this])
          go_wp2
          exact bodyPost_ret (v := .tuple #[.slice none 0 0, .slice none 0 0, .string ⟨#[]⟩, .bool false]) (by simp [results, Tryz.results71, go_sem]) rfl (coreBack_no hf.out hbb5)
        · by_cases hl2 : (most : Int) < (ns.length : Int)
          · have hf := Lib.hid (show Pl.pageB s.data.toList least most = false from by rw [HPAGE.out]; have : most < ns.length := (by omega); simp [this])
            go_wp2
            exact bodyPost_ret (v := .tuple #[.slice none 0 0, .slice none 0 0, .string ⟨#[]⟩, .bool false]) (by simp [results, Tryz.results71, go_sem]) rfl (coreBack_no hf.out hbb5)
          · cases pw with
            | false =>
              have hf := Lib.hid (show Pl.pageB s.data.toList least most = false from by rw [HPAGE.out]; simp)
              go_wp2_with (go_at_call 99; refine HPW.out.mono ?_; rintro e w' ⟨rfl, rfl⟩)
              exact bodyPost_ret (v := .tuple #[.slice none 0 0, .slice none 0 0, .string ⟨#[]⟩, .bool false]) (by simp [results, Tryz.results71, go_sem]) rfl (coreBack_no hf.out hbb5)
            | true =>
              have hfin := Lib.hid (show Pl.pageB s.data.toList least most = ns.all Pl.allDig from by
                rw [HPAGE.out]
                have e1 : ¬ ns.length < least := by omega
                have e2 : ¬ most < ns.length := by omega
                simp [e1, e2])
              have n1 : decide (ns.length < least) = false := by simp; omega
              have n2 : decide (most < ns.length) = false := by simp; omega
              go_wp2_with (go_at_call 99; refine HPW.out.mono ?_; rintro e w' ⟨rfl, rfl⟩)
              go_loopw [6, 7, 8, 9, 14] (fun v6 v7 v8 v9 i wr => ∃ j : Nat, j ≤ ns.length ∧ v6 = .slice A ns.length c ∧ v7 = .slice B pre.length d ∧ v8 = .string mt ∧ v9 = .bool false ∧ i = .int .i64 j ∧ (ns.take j).all Pl.allDig = true ∧ wr = w5) (fun _ _ _ _ i _ => ns.length - (intOf i).toNat)
              case atStart => exact ⟨0, Nat.zero_le _, rfl, rfl, rfl, rfl, rfl, rfl, rfl⟩
              case round =>
                obtain ⟨j, hj, rfl, rfl, rfl, rfl, rfl, hp, rfl⟩ := hrel
                have HP := Lib.hid hp
                clear hp
                by_cases hjl : j < ns.length
                · obtain ⟨b, o, rfl, hc⟩ := hRA.str_at hjl
                  have hmk := HMN.out ns[j] (List.getElem_mem hjl)
                  obtain ⟨x, hx⟩ : ∃ x, (⟨ns[j].toArray⟩ : ByteArray) = x := ⟨_, rfl⟩
                  have hxs : x.size ≤ 30000 := by rw [← hx, S_size]; omega
                  have hxd : x.data.toList = ns[j] := by rw [← hx]
                  rw [S, hx] at hc
                  have hAD := allDigits_any x wr (by unfold maxLen; omega)
                  obtain ⟨ad, had⟩ : ∃ ad, Pl.allDig x.data.toList = ad := ⟨_, rfl⟩
                  rw [had] at hAD
                  have HAD := Lib.hid hAD
                  rw [hxd] at had
                  have HD := Lib.hid had
                  clear hx hxd hmk hAD had
                  cases ad with
                  | false =>
                    have hf := Lib.hid (show Pl.pageB s.data.toList least most = false from by
                      rw [hfin.out, Bool.eq_false_iff]; intro ht
                      rw [List.all_eq_true] at ht
                      have := ht _ (List.getElem_mem hjl)
                      rw [HD.out] at this; cases this)
                    go_wp2_with (go_at_call 100; refine HAD.out.mono ?_; rintro e w' ⟨rfl, rfl⟩)
                    exact bodyPost_ret (v := .tuple #[.slice none 0 0, .slice none 0 0, .string ⟨#[]⟩, .bool false]) (by simp [results, Tryz.results71, go_sem]) rfl (coreBack_no hf.out (by first | assumption | exact hbb5))
                  | true =>
                    have HS := Lib.hid (show (ns.take (j + 1)).all Pl.allDig = true from by
                      rw [List.take_succ_eq_append_getElem hjl, List.all_append, HP.out]; simp [HD.out])
                    go_wp2_with (go_at_call 100; refine HAD.out.mono ?_; rintro e w' ⟨rfl, rfl⟩)
                    go_roundw
                    case rel => exact ⟨j + 1, by omega, rfl, rfl, rfl, rfl, by go_num, HS.out, by first | trivial | rfl⟩
                    case measure => simp [intOf]; omega
                · obtain rfl : j = ns.length := by omega
                  have ht := Lib.hid (show Pl.pageB s.data.toList least most = true from by rw [hfin.out, ← HP.out, List.take_length])
                  go_wp2
                  refine bodyPost_ret (v := .tuple #[.slice A ns.length c, .slice B pre.length d, .string mt, .bool true]) (by simp [results, Tryz.results71, go_sem]) rfl ⟨Or.inr ⟨ht.out, A, c, B, d, ?_, ?_, ?_⟩, hbb5⟩
                  · rw [HN.out, HPR.out, ← HMETA.out]
                  · rw [HN.out]; exact hRA
                  · rw [HPR.out]; exact hRB
end Go.Proofs.YtgfkdjmoflbmdaaGreatDoor
