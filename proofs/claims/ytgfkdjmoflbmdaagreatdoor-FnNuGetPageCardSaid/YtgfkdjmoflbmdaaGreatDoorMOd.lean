/- Contract: Precedence. -/
import Derived.Test.YtgfkdjmoflbmdaaGreatDoorMOc
import Derived.Test.YtgfkdjmoflbmdaaGreatDoorMHexHb
import Derived.Test.YtgfkdjmoflbmdaaGreatDoorMWdxWg
namespace Go.Proofs.YtgfkdjmoflbmdaaGreatDoor
open Go.RowKit
open Go.Proofs

theorem cmpNums_any_step (X Y : List Nat) (k : Nat) : Pl.cmpNums (X.drop k) (Y.drop k) = if Pl.cmpN (X.getD k 0) (Y.getD k 0) ≠ 0 then Pl.cmpN (X.getD k 0) (Y.getD k 0) else Pl.cmpNums (X.drop (k + 1)) (Y.drop (k + 1)) := by
  by_cases h : k < X.length ∨ k < Y.length
  · exact Pl.cmpNums_step X Y k h
  · rw [Pl.cmpNums_end X Y k (by omega) (by omega), Pl.cmpNums_end X Y (k + 1) (by omega) (by omega)]
    have h1 : X.getD k 0 = 0 := by simp [List.getD_eq_getElem?_getD, List.getElem?_eq_none (by omega : X.length ≤ k)]
    have h2 : Y.getD k 0 = 0 := by simp [List.getD_eq_getElem?_getD, List.getElem?_eq_none (by omega : Y.length ≤ k)]
    rw [h1, h2, Pl.cmpN_self]; simp
theorem pgNums_mem (s : Pl.Bytes) : ∀ p ∈ Pl.pgNums s, p.length ≤ s.length := by
  intro p hp
  have h := (Pl.splitB_mem 46 _ p hp).1
  have h1 : (Pl.hyCore (Pl.beforePlus s)).length ≤ (Pl.beforePlus s).length := by
    unfold Pl.hyCore
    split
    · exact Nat.le_refl _
    · rw [List.length_take]; omega
  have h2 : (Pl.beforePlus s).length ≤ s.length := by
    unfold Pl.beforePlus
    split
    all_goals first | exact Nat.le_refl _ | (rw [List.length_take]; omega)
  omega
theorem beforePlus_len (s : Pl.Bytes) : (Pl.beforePlus s).length ≤ s.length := by
  unfold Pl.beforePlus
  split
  all_goals first | exact Nat.le_refl _ | (rw [List.length_take]; omega)
theorem pgPre_mem (s : Pl.Bytes) : ∀ p ∈ Pl.pgPre s, p.length ≤ s.length := by
  intro p hp
  have h2 := beforePlus_len s
  unfold Pl.pgPre Pl.hyPre at hp
  split at hp
  · cases hp
  · have h := (Pl.splitB_mem 46 _ p hp).1
    rw [List.length_drop] at h
    omega
theorem pgPre_len (s : Pl.Bytes) : (Pl.pgPre s).length ≤ s.length + 1 := by
  have h2 := beforePlus_len s
  unfold Pl.pgPre Pl.hyPre
  split
  · exact Nat.zero_le _
  · rename_i k _
    have h := Pl.splitB_length 46 ((Pl.beforePlus s).drop (k + 1))
    refine Nat.le_trans h ?_
    rw [List.length_drop]
    omega
def PrecBack (a b : ByteArray) (w : World) (e : Ending) (w' : World) : Prop :=
  (((Pl.pageB (Pl.lower a.data.toList) 1 4 && Pl.pageB (Pl.lower b.data.toList) 1 4) = false ∧ e = .returned (.tuple #[.int .i64 0, .bool false])) ∨
   ((Pl.pageB (Pl.lower a.data.toList) 1 4 && Pl.pageB (Pl.lower b.data.toList) 1 4) = true ∧ e = .returned (.tuple #[.int .i64 (Pl.prec (Pl.lower a.data.toList) (Pl.lower b.data.toList)), .bool true]))) ∧ Below w.heap.size w w'
set_option maxRecDepth 100000 in
set_option maxHeartbeats 8000000 in
theorem Precedence_any (a b : ByteArray) (w : World) (ha : a.size ≤ 1500) (hb : b.size ≤ 1500) :
    Calls Tryz.prog 33 #[.string a, .string b, .int .i64 1, .int .i64 4, .bool true] w (PrecBack a b w) := by
  obtain ⟨la, hla⟩ : ∃ la : ByteArray, ⟨(Pl.lower a.data.toList).toArray⟩ = la := ⟨_, rfl⟩
  obtain ⟨lb, hlb⟩ : ∃ lb : ByteArray, ⟨(Pl.lower b.data.toList).toArray⟩ = lb := ⟨_, rfl⟩
  have hda : Pl.lower a.data.toList = la.data.toList := by rw [← hla]
  have hdb : Pl.lower b.data.toList = lb.data.toList := by rw [← hlb]
  have hsa : la.size ≤ 30000 := by rw [← hla, S_size, Pl.lower_len, len_list]; omega
  have hsb : lb.size ≤ 30000 := by rw [← hlb, S_size, Pl.lower_len, len_list]; omega
  have HLA := fun W => lower_any a W (by omega)
  have HLB := fun W => lower_any b W (by omega)
  rw [show S (Pl.lower a.data.toList) = .string la from by rw [← hla]] at HLA
  rw [show S (Pl.lower b.data.toList) = .string lb from by rw [← hlb]] at HLB
  have HLA := Lib.hid HLA
  have HLB := Lib.hid HLB
  have HDA := Lib.hid hda
  have HDB := Lib.hid hdb
  have HCA := Lib.hid (fun W => CoreOf_any la 1 4 W hsa (by omega) (by omega))
  have HCB := Lib.hid (fun W => CoreOf_any lb 1 4 W hsb (by omega) (by omega))
  clear hla hlb hda hdb
  go_enter Tryz.func33, Tryz.ntmps33
  go_wp2_with fail
  refine (HLA.out _).mono ?_; rintro e w1 ⟨rfl, hb1⟩
  go_wp2_with fail
  refine (HLB.out _).mono ?_; rintro e w2 ⟨rfl, hb2⟩
  have hbb2 := hb1.trans (hb2.mono hb1.size)
  go_wp2_with fail
  refine (HCA.out _).mono ?_; rintro e w3 ⟨⟨hpa, rfl⟩ | ⟨hpa, A, c, B, d, rfl, hA, hB⟩, hb3⟩
  · have hbb3 := hbb2.trans (hb3.mono hbb2.size)
    have HF := Lib.hid (show (Pl.pageB (Pl.lower a.data.toList) 1 4 && Pl.pageB (Pl.lower b.data.toList) 1 4) = false from by rw [HDA.out, hpa]; rfl)
    clear hpa
    go_wp2_with fail
    refine (HCB.out _).mono ?_; rintro e w4 ⟨⟨hpb, rfl⟩ | ⟨hpb, A2, c2, B2, d2, rfl, hA2, hB2⟩, hb4⟩
    · have hbb4 := hbb3.trans (hb4.mono hbb3.size)
      clear hpb
      go_wp2
      exact bodyPost_ret (v := .tuple #[.int .i64 0, .bool false]) (by simp [results, Tryz.results33, go_sem]) rfl ⟨Or.inl ⟨HF.out, rfl⟩, hbb4⟩
    · have hbb4 := hbb3.trans (hb4.mono hbb3.size)
      clear hpb
      go_wp2
      exact bodyPost_ret (v := .tuple #[.int .i64 0, .bool false]) (by simp [results, Tryz.results33, go_sem]) rfl ⟨Or.inl ⟨HF.out, rfl⟩, hbb4⟩
  · have hbb3 := hbb2.trans (hb3.mono hbb2.size)
    go_wp2_with fail
    refine (HCB.out _).mono ?_; rintro e w4 ⟨⟨hpb, rfl⟩ | ⟨hpb, A2, c2, B2, d2, rfl, hA2, hB2⟩, hb4⟩
    · have hbb4 := hbb3.trans (hb4.mono hbb3.size)
      have HF := Lib.hid (show (Pl.pageB (Pl.lower a.data.toList) 1 4 && Pl.pageB (Pl.lower b.data.toList) 1 4) = false from by rw [HDA.out, HDB.out, hpa, hpb]; rfl)
      clear hpa hpb
      go_wp2
      exact bodyPost_ret (v := .tuple #[.int .i64 0, .bool false]) (by simp [results, Tryz.results33, go_sem]) rfl ⟨Or.inl ⟨HF.out, rfl⟩, hbb4⟩
    · have hbb4 := hbb3.trans (hb4.mono hbb3.size)
      have HT := Lib.hid (show (Pl.pageB (Pl.lower a.data.toList) 1 4 && Pl.pageB (Pl.lower b.data.toList) 1 4) = true from by rw [HDA.out, HDB.out, hpa, hpb]; rfl)
      have hAd := hA.below hb4
      have hBd := hB.below hb4
      obtain ⟨xs, hxs⟩ : ∃ xs, Pl.pgNums la.data.toList = xs := ⟨_, rfl⟩
      obtain ⟨ys, hys⟩ : ∃ ys, Pl.pgNums lb.data.toList = ys := ⟨_, rfl⟩
      obtain ⟨ps, hps⟩ : ∃ ps, Pl.pgPre la.data.toList = ps := ⟨_, rfl⟩
      obtain ⟨qs, hqs⟩ : ∃ qs, Pl.pgPre lb.data.toList = qs := ⟨_, rfl⟩
      have hpr : Pl.prec (Pl.lower a.data.toList) (Pl.lower b.data.toList) = if Pl.cmpNums (xs.map Pl.natOf) (ys.map Pl.natOf) ≠ 0 then Pl.cmpNums (xs.map Pl.natOf) (ys.map Pl.natOf) else Pl.bld ps qs := by
        rw [HDA.out, HDB.out, Pl.prec, hxs, hys, hps, hqs]
      have HPRC := Lib.hid hpr
      have hmx : ∀ p ∈ xs, p.length ≤ 30000 := fun p hp => by rw [← hxs] at hp; have := pgNums_mem _ p hp; rw [len_list] at this; omega
      have hmy : ∀ p ∈ ys, p.length ≤ 30000 := fun p hp => by rw [← hys] at hp; have := pgNums_mem _ p hp; rw [len_list] at this; omega
      have hmp : ∀ p ∈ ps, p.length ≤ 30000 := fun p hp => by rw [← hps] at hp; have := pgPre_mem _ p hp; rw [len_list] at this; omega
      have hmq : ∀ p ∈ qs, p.length ≤ 30000 := fun p hp => by rw [← hqs] at hp; have := pgPre_mem _ p hp; rw [len_list] at this; omega
      have hlp : ps.length ≤ 40000 := by rw [← hps]; have := pgPre_len la.data.toList; rw [len_list] at this; omega
      have hlq : qs.length ≤ 40000 := by rw [← hqs]; have := pgPre_len lb.data.toList; rw [len_list] at this; omega
      have HMX := Lib.hid hmx
      have HMY := Lib.hid hmy
      have HMP := Lib.hid hmp
      have HMQ := Lib.hid hmq
      clear hmx hmy hmp hmq
      rw [Pl.pageB, Bool.and_eq_true, Bool.and_eq_true] at hpa hpb
      have hx4 : xs.length ≤ 4 := by
        have := hpa.2.1; rw [hxs] at this; simp at this; omega
      have hy4 : ys.length ≤ 4 := by
        have := hpb.2.1; rw [hys] at this; simp at this; omega
      have HXD := Lib.hid (show xs.all Pl.allDig = true from by have := hpa.2.2; rw [hxs] at this; exact this)
      have HYD := Lib.hid (show ys.all Pl.allDig = true from by have := hpb.2.2; rw [hys] at this; exact this)
      rw [hxs] at hAd ⊢
      rw [hps] at hBd ⊢
      rw [hys] at hA2 ⊢
      rw [hqs] at hB2 ⊢
      clear hpr hpa hpb
      obtain ⟨X, hX⟩ : ∃ X, xs.map Pl.natOf = X := ⟨_, rfl⟩
      obtain ⟨Y, hY⟩ : ∃ Y, ys.map Pl.natOf = Y := ⟨_, rfl⟩
      have HX := Lib.hid hX
      have HY := Lib.hid hY
      rw [hX, hY] at HPRC
      clear hX hY
      go_wp2_with fail
      go_loopw [10, 11, 20, 21, 22, 23] (fun r ok i _ _ _ wr => ∃ k : Nat, k ≤ 4 ∧ r = .int .i64 0 ∧ ok = .bool false ∧ i = .int .i64 k ∧ Pl.cmpNums (X.drop k) (Y.drop k) = Pl.cmpNums X Y ∧ wr = w4) (fun _ _ i _ _ _ _ => 4 - (intOf i).toNat)
      case atStart => exact ⟨0, by omega, rfl, rfl, rfl, rfl, rfl⟩
      case round =>
        obtain ⟨k, hk, rfl, rfl, rfl, hz, rfl⟩ := hrel
        have HZ := Lib.hid hz
        clear hz
        by_cases hk4 : k < 4
        · by_cases hkx : k < xs.length
          · by_cases hky : k < ys.length
            · obtain ⟨bbx, ox, rfl, hcx⟩ := hAd.str_at hkx
              obtain ⟨x, hxe⟩ : ∃ x, (⟨xs[k].toArray⟩ : ByteArray) = x := ⟨_, rfl⟩
              have hxd : x.data.toList = xs[k] := by rw [← hxe]
              rw [S, hxe] at hcx
              have hxv : Pl.natOf x.data.toList = X.getD k 0 := by rw [hxd, ← HX.out]; simp [hkx]
              have hxg : x.data.toList.all Pl.isDig = true := by rw [hxd]; exact Pl.all_of_allDig (List.all_eq_true.1 HXD.out _ (List.getElem_mem hkx))
              obtain ⟨bby, oy, rfl, hcy⟩ := hA2.str_at hky
              obtain ⟨y, hye⟩ : ∃ y, (⟨ys[k].toArray⟩ : ByteArray) = y := ⟨_, rfl⟩
              have hyd : y.data.toList = ys[k] := by rw [← hye]
              rw [S, hye] at hcy
              have hyv : Pl.natOf y.data.toList = Y.getD k 0 := by rw [hyd, ← HY.out]; simp [hky]
              have hyg : y.data.toList.all Pl.isDig = true := by rw [hyd]; exact Pl.all_of_allDig (List.all_eq_true.1 HYD.out _ (List.getElem_mem hky))
              have hxz : x.size ≤ 30000 := by rw [← len_list, hxd]; exact HMX.out _ (List.getElem_mem hkx)
              have hyz : y.size ≤ 30000 := by rw [← len_list, hyd]; exact HMY.out _ (List.getElem_mem hky)
              obtain ⟨z, hz⟩ : ∃ z : Int, Pl.cmpN (X.getD k 0) (Y.getD k 0) = z := ⟨_, rfl⟩
              have hcall : ∀ W : World, Calls Tryz.prog 72 #[.string x, .string y] W fun e w' => e = .returned (.int .i64 z) ∧ W = w' := by
                intro W
                rw [← hz, ← hxv, ← hyv, ← Pl.ordNum_nat _ _ hxg hyg]
                exact orderNumbers_any x y W (by unfold maxLen; omega) (by unfold maxLen; omega)
              have HCALL := Lib.hid hcall
              have hstep := cmpNums_any_step X Y k
              rw [hz] at hstep
              have HS := Lib.hid hstep
              clear hstep hcall hz hxv hyv hxg hyg hxd hyd hxz hyz
              clear hxe
              clear hye
              by_cases hz0 : z = 0
              · subst hz0
                go_wp2_with fail
                refine (HCALL.out _).mono ?_; rintro e w' ⟨rfl, rfl⟩
                go_wp2_with fail
                go_roundw
                case rel => exact ⟨k + 1, by omega, rfl, rfl, by go_num, by rw [← HZ.out, HS.out, if_neg (by simp)], trivial⟩
                case measure => simp [intOf]; omega
              · have hz1 : (z != 0) = true := by simpa using hz0
                have HZ0 := Lib.hid hz0
                have hXY : Pl.cmpNums X Y = z := by rw [← HZ.out, HS.out, if_pos hz0]
                have HFIN := Lib.hid (show Pl.prec (Pl.lower a.data.toList) (Pl.lower b.data.toList) = z from by rw [HPRC.out, hXY, if_pos hz0])
                clear hz0 hXY
                go_wp2_with fail
                refine (HCALL.out _).mono ?_; rintro e w' ⟨rfl, rfl⟩
                go_wp2_with fail
                exact bodyPost_ret (v := .tuple #[.int .i64 z, .bool true]) (by simp [results, Tryz.results33, go_sem]) rfl ⟨Or.inr ⟨HT.out, by rw [HFIN.out]⟩, hbb4⟩
            · obtain ⟨bbx, ox, rfl, hcx⟩ := hAd.str_at hkx
              obtain ⟨x, hxe⟩ : ∃ x, (⟨xs[k].toArray⟩ : ByteArray) = x := ⟨_, rfl⟩
              have hxd : x.data.toList = xs[k] := by rw [← hxe]
              rw [S, hxe] at hcx
              have hxv : Pl.natOf x.data.toList = X.getD k 0 := by rw [hxd, ← HX.out]; simp [hkx]
              have hxg : x.data.toList.all Pl.isDig = true := by rw [hxd]; exact Pl.all_of_allDig (List.all_eq_true.1 HXD.out _ (List.getElem_mem hkx))
              obtain ⟨y, hye⟩ : ∃ y, (⟨#[48]⟩ : ByteArray) = y := ⟨_, rfl⟩
              have hyd : y.data.toList = [48] := by rw [← hye]
              have hyv : Pl.natOf y.data.toList = Y.getD k 0 := by rw [hyd, ← HY.out]; simp [hky]; rfl
              have hyg : y.data.toList.all Pl.isDig = true := by rw [hyd]; rfl
              have hxz : x.size ≤ 30000 := by rw [← len_list, hxd]; exact HMX.out _ (List.getElem_mem hkx)
              have hyz : y.size ≤ 30000 := by rw [← len_list, hyd]; simp
              obtain ⟨z, hz⟩ : ∃ z : Int, Pl.cmpN (X.getD k 0) (Y.getD k 0) = z := ⟨_, rfl⟩
              have hcall : ∀ W : World, Calls Tryz.prog 72 #[.string x, .string y] W fun e w' => e = .returned (.int .i64 z) ∧ W = w' := by
                intro W
                rw [← hz, ← hxv, ← hyv, ← Pl.ordNum_nat _ _ hxg hyg]
                exact orderNumbers_any x y W (by unfold maxLen; omega) (by unfold maxLen; omega)
              have HCALL := Lib.hid hcall
              have hstep := cmpNums_any_step X Y k
              rw [hz] at hstep
              have HS := Lib.hid hstep
              clear hstep hcall hz hxv hyv hxg hyg hxd hyd hxz hyz
              clear hxe
              subst hye
              by_cases hz0 : z = 0
              · subst hz0
                go_wp2_with fail
                refine (HCALL.out _).mono ?_; rintro e w' ⟨rfl, rfl⟩
                go_wp2_with fail
                go_roundw
                case rel => exact ⟨k + 1, by omega, rfl, rfl, by go_num, by rw [← HZ.out, HS.out, if_neg (by simp)], trivial⟩
                case measure => simp [intOf]; omega
              · have hz1 : (z != 0) = true := by simpa using hz0
                have HZ0 := Lib.hid hz0
                have hXY : Pl.cmpNums X Y = z := by rw [← HZ.out, HS.out, if_pos hz0]
                have HFIN := Lib.hid (show Pl.prec (Pl.lower a.data.toList) (Pl.lower b.data.toList) = z from by rw [HPRC.out, hXY, if_pos hz0])
                clear hz0 hXY
                go_wp2_with fail
                refine (HCALL.out _).mono ?_; rintro e w' ⟨rfl, rfl⟩
                go_wp2_with fail
                exact bodyPost_ret (v := .tuple #[.int .i64 z, .bool true]) (by simp [results, Tryz.results33, go_sem]) rfl ⟨Or.inr ⟨HT.out, by rw [HFIN.out]⟩, hbb4⟩
          · by_cases hky : k < ys.length
            · obtain ⟨x, hxe⟩ : ∃ x, (⟨#[48]⟩ : ByteArray) = x := ⟨_, rfl⟩
              have hxd : x.data.toList = [48] := by rw [← hxe]
              have hxv : Pl.natOf x.data.toList = X.getD k 0 := by rw [hxd, ← HX.out]; simp [hkx]; rfl
              have hxg : x.data.toList.all Pl.isDig = true := by rw [hxd]; rfl
              obtain ⟨bby, oy, rfl, hcy⟩ := hA2.str_at hky
              obtain ⟨y, hye⟩ : ∃ y, (⟨ys[k].toArray⟩ : ByteArray) = y := ⟨_, rfl⟩
              have hyd : y.data.toList = ys[k] := by rw [← hye]
              rw [S, hye] at hcy
              have hyv : Pl.natOf y.data.toList = Y.getD k 0 := by rw [hyd, ← HY.out]; simp [hky]
              have hyg : y.data.toList.all Pl.isDig = true := by rw [hyd]; exact Pl.all_of_allDig (List.all_eq_true.1 HYD.out _ (List.getElem_mem hky))
              have hxz : x.size ≤ 30000 := by rw [← len_list, hxd]; simp
              have hyz : y.size ≤ 30000 := by rw [← len_list, hyd]; exact HMY.out _ (List.getElem_mem hky)
              obtain ⟨z, hz⟩ : ∃ z : Int, Pl.cmpN (X.getD k 0) (Y.getD k 0) = z := ⟨_, rfl⟩
              have hcall : ∀ W : World, Calls Tryz.prog 72 #[.string x, .string y] W fun e w' => e = .returned (.int .i64 z) ∧ W = w' := by
                intro W
                rw [← hz, ← hxv, ← hyv, ← Pl.ordNum_nat _ _ hxg hyg]
                exact orderNumbers_any x y W (by unfold maxLen; omega) (by unfold maxLen; omega)
              have HCALL := Lib.hid hcall
              have hstep := cmpNums_any_step X Y k
              rw [hz] at hstep
              have HS := Lib.hid hstep
              clear hstep hcall hz hxv hyv hxg hyg hxd hyd hxz hyz
              subst hxe
              clear hye
              by_cases hz0 : z = 0
              · subst hz0
                go_wp2_with fail
                refine (HCALL.out _).mono ?_; rintro e w' ⟨rfl, rfl⟩
                go_wp2_with fail
                go_roundw
                case rel => exact ⟨k + 1, by omega, rfl, rfl, by go_num, by rw [← HZ.out, HS.out, if_neg (by simp)], trivial⟩
                case measure => simp [intOf]; omega
              · have hz1 : (z != 0) = true := by simpa using hz0
                have HZ0 := Lib.hid hz0
                have hXY : Pl.cmpNums X Y = z := by rw [← HZ.out, HS.out, if_pos hz0]
                have HFIN := Lib.hid (show Pl.prec (Pl.lower a.data.toList) (Pl.lower b.data.toList) = z from by rw [HPRC.out, hXY, if_pos hz0])
                clear hz0 hXY
                go_wp2_with fail
                refine (HCALL.out _).mono ?_; rintro e w' ⟨rfl, rfl⟩
                go_wp2_with fail
                exact bodyPost_ret (v := .tuple #[.int .i64 z, .bool true]) (by simp [results, Tryz.results33, go_sem]) rfl ⟨Or.inr ⟨HT.out, by rw [HFIN.out]⟩, hbb4⟩
            · obtain ⟨x, hxe⟩ : ∃ x, (⟨#[48]⟩ : ByteArray) = x := ⟨_, rfl⟩
              have hxd : x.data.toList = [48] := by rw [← hxe]
              have hxv : Pl.natOf x.data.toList = X.getD k 0 := by rw [hxd, ← HX.out]; simp [hkx]; rfl
              have hxg : x.data.toList.all Pl.isDig = true := by rw [hxd]; rfl
              obtain ⟨y, hye⟩ : ∃ y, (⟨#[48]⟩ : ByteArray) = y := ⟨_, rfl⟩
              have hyd : y.data.toList = [48] := by rw [← hye]
              have hyv : Pl.natOf y.data.toList = Y.getD k 0 := by rw [hyd, ← HY.out]; simp [hky]; rfl
              have hyg : y.data.toList.all Pl.isDig = true := by rw [hyd]; rfl
              have hxz : x.size ≤ 30000 := by rw [← len_list, hxd]; simp
              have hyz : y.size ≤ 30000 := by rw [← len_list, hyd]; simp
              obtain ⟨z, hz⟩ : ∃ z : Int, Pl.cmpN (X.getD k 0) (Y.getD k 0) = z := ⟨_, rfl⟩
              have hcall : ∀ W : World, Calls Tryz.prog 72 #[.string x, .string y] W fun e w' => e = .returned (.int .i64 z) ∧ W = w' := by
                intro W
                rw [← hz, ← hxv, ← hyv, ← Pl.ordNum_nat _ _ hxg hyg]
                exact orderNumbers_any x y W (by unfold maxLen; omega) (by unfold maxLen; omega)
              have HCALL := Lib.hid hcall
              have hstep := cmpNums_any_step X Y k
              rw [hz] at hstep
              have HS := Lib.hid hstep
              clear hstep hcall hz hxv hyv hxg hyg hxd hyd hxz hyz
              subst hxe
              subst hye
              by_cases hz0 : z = 0
              · subst hz0
                go_wp2_with fail
                refine (HCALL.out _).mono ?_; rintro e w' ⟨rfl, rfl⟩
                go_wp2_with fail
                go_roundw
                case rel => exact ⟨k + 1, by omega, rfl, rfl, by go_num, by rw [← HZ.out, HS.out, if_neg (by simp)], trivial⟩
                case measure => simp [intOf]; omega
              · have hz1 : (z != 0) = true := by simpa using hz0
                have HZ0 := Lib.hid hz0
                have hXY : Pl.cmpNums X Y = z := by rw [← HZ.out, HS.out, if_pos hz0]
                have HFIN := Lib.hid (show Pl.prec (Pl.lower a.data.toList) (Pl.lower b.data.toList) = z from by rw [HPRC.out, hXY, if_pos hz0])
                clear hz0 hXY
                go_wp2_with fail
                refine (HCALL.out _).mono ?_; rintro e w' ⟨rfl, rfl⟩
                go_wp2_with fail
                exact bodyPost_ret (v := .tuple #[.int .i64 z, .bool true]) (by simp [results, Tryz.results33, go_sem]) rfl ⟨Or.inr ⟨HT.out, by rw [HFIN.out]⟩, hbb4⟩
        · obtain rfl : k = 4 := by omega
          have hX4 : X.length ≤ 4 := by rw [← HX.out, List.length_map]; exact hx4
          have hY4 : Y.length ≤ 4 := by rw [← HY.out, List.length_map]; exact hy4
          have hXY : Pl.cmpNums X Y = 0 := by rw [← HZ.out]; exact Pl.cmpNums_end X Y 4 hX4 hY4
          have HFIN := Lib.hid (show Pl.prec (Pl.lower a.data.toList) (Pl.lower b.data.toList) = Pl.bld ps qs from by rw [HPRC.out, hXY, if_neg (by simp)])
          clear hXY hX4 hY4 hk4 hk hx4 hy4
          by_cases hp0 : ps.length = 0
          · obtain rfl : ps = [] := List.eq_nil_of_length_eq_zero hp0
            have hmin : ∃ m : Int, min (qs.length : Int) 1 = m ∧ Pl.bld [] qs = Pl.ordI m 0 := ⟨_, rfl, by rw [Pl.bld, if_pos (by simp)]; rfl⟩
            clear hp0
            obtain ⟨m, hm, hbl⟩ := hmin
            by_cases hq0 : qs.length = 0
            · obtain rfl : qs = [] := List.eq_nil_of_length_eq_zero hq0
              have HBL := Lib.hid (show Pl.ordI 0 0 = Pl.bld [] [] from by rw [hbl, ← hm]; rfl)
              clear hbl hm hq0
              go_wp2_with fail
              all_goals
                refine (orderInts_any _ _ _).mono ?_; rintro e w5 ⟨rfl, rfl⟩
                go_wp2_with fail
                exact bodyPost_ret (v := .tuple #[.int .i64 (Pl.bld [] []), .bool true]) (by (simp [results, Tryz.results33, go_sem, ← HBL.out]; try first | rfl | (congr 1 <;> omega))) rfl ⟨Or.inr ⟨HT.out, by rw [HFIN.out]⟩, hbb4⟩
            · have hq1 : 1 ≤ qs.length := by omega
              have HBL := Lib.hid (show Pl.ordI 1 0 = Pl.bld [] qs from by rw [hbl, ← hm]; congr 1; omega)
              clear hbl hm hq0
              go_wp2_with fail
              all_goals
                refine (orderInts_any _ _ _).mono ?_; rintro e w5 ⟨rfl, rfl⟩
                go_wp2_with fail
                exact bodyPost_ret (v := .tuple #[.int .i64 (Pl.bld [] qs), .bool true]) (by (simp [results, Tryz.results33, go_sem, ← HBL.out]; try first | rfl | (congr 1 <;> omega))) rfl ⟨Or.inr ⟨HT.out, by rw [HFIN.out]⟩, hbb4⟩
          · by_cases hq0 : qs.length = 0
            · obtain rfl : qs = [] := List.eq_nil_of_length_eq_zero hq0
              have hp1 : ((ps.length : Int) == 0) = false := by rw [beq_eq_false_iff_ne]; omega
              have hp2 : 1 ≤ ps.length := by omega
              have HBL := Lib.hid (show Pl.ordI 0 1 = Pl.bld ps [] from by
                rw [Pl.bld, if_pos (by simp)]
                congr 1
                omega)
              clear hp0 hq0
              go_wp2_with fail
              all_goals
                refine (orderInts_any _ _ _).mono ?_; rintro e w5 ⟨rfl, rfl⟩
                go_wp2_with fail
                exact bodyPost_ret (v := .tuple #[.int .i64 (Pl.bld ps []), .bool true]) (by (simp [results, Tryz.results33, go_sem, ← HBL.out]; try first | rfl | (congr 1 <;> omega))) rfl ⟨Or.inr ⟨HT.out, by rw [HFIN.out]⟩, hbb4⟩
            · have hp1 : ((ps.length : Int) == 0) = false := by rw [beq_eq_false_iff_ne]; omega
              have hq1 : ((qs.length : Int) == 0) = false := by rw [beq_eq_false_iff_ne]; omega
              have HBL := Lib.hid (show Pl.bld ps qs = Pl.identsCmp ps qs from by rw [Pl.bld, if_neg (by omega)])
              clear hp0 hq0
              obtain ⟨w4, hw4⟩ : ∃ w4, w4 = wr := ⟨_, rfl⟩
              subst hw4
              go_wp2_with fail
              go_loopw [10, 11, 24, 25] (fun r ok i _ wr => ∃ k : Nat, k ≤ ps.length ∧ k ≤ qs.length ∧ r = .int .i64 0 ∧ ok = .bool false ∧ i = .int .i64 k ∧ Pl.identsCmp (ps.drop k) (qs.drop k) = Pl.identsCmp ps qs ∧ Below w4.heap.size w4 wr) (fun _ _ i _ _ => ps.length - (intOf i).toNat)
              case atStart => exact ⟨0, Nat.zero_le _, Nat.zero_le _, rfl, rfl, rfl, rfl, Below.refl _ _⟩
              case round =>
                obtain ⟨k, hka, hkb, rfl, rfl, rfl, hcmp, hbel⟩ := hrel
                have HC := Lib.hid hcmp
                clear hcmp
                have hbbr := hbb4.trans (hbel.mono hbb4.size)
                by_cases hka1 : k < ps.length
                · by_cases hkb1 : k < qs.length
                  · obtain ⟨b1, o1, rfl, hc⟩ := (hBd.below hbel).str_at hka1
                    obtain ⟨b2, o2, rfl, hd⟩ := (hB2.below hbel).str_at hkb1
                    have hs1 := HMP.out ps[k] (List.getElem_mem hka1)
                    have hs2 := HMQ.out qs[k] (List.getElem_mem hkb1)
                    have hstep := Pl.identsCmp_step ps qs k hka1 hkb1
                    obtain ⟨x, hx⟩ : ∃ x, ps[k] = x := ⟨_, rfl⟩
                    obtain ⟨y, hy⟩ : ∃ y, qs[k] = y := ⟨_, rfl⟩
                    rw [hx] at hc hs1 hstep
                    rw [hy] at hd hs2 hstep
                    have HS := Lib.hid hstep
                    clear hstep hx hy
                    obtain ⟨z, hz⟩ : ∃ z, Pl.idOne x y = z := ⟨_, rfl⟩
                    have hcall : ∀ W : World, Calls Tryz.prog 74 #[S x, S y] W fun e w' => e = .returned (.int .i64 z) ∧ W = w' := by
                      intro W
                      rw [← hz]
                      exact pageOne_any ⟨x.toArray⟩ ⟨y.toArray⟩ W (by unfold maxLen; rw [S_size]; omega) (by unfold maxLen; rw [S_size]; omega)
                    rw [hz] at HS
                    clear hz
                    have HCALL := Lib.hid hcall
                    clear hcall
                    by_cases hz0 : z = 0
                    · have hz1 : (z != 0) = false := by simp [hz0]
                      have HZ0 := Lib.hid hz0
                      clear hz0
                      go_wp2
                      go_quiet ((go_at_call 74; exact quiet_left (HCALL.out _)))
                      go_wp2
                      go_roundw
                      case rel => exact ⟨k + 1, by omega, by omega, rfl, rfl, by go_num, by rw [← HC.out, HS.out, if_neg (by rw [HZ0.out]; simp)], below_drewN hbel _⟩
                      case measure => simp [intOf]; omega
                    · have hz1 : (z != 0) = true := by simpa using hz0
                      have HZ0 := Lib.hid hz0
                      have HF2 := Lib.hid (show Pl.prec (Pl.lower a.data.toList) (Pl.lower b.data.toList) = z from by rw [HFIN.out, HBL.out, ← HC.out, HS.out, if_pos hz0])
                      clear hz0
                      go_wp2
                      go_quiet ((go_at_call 74; exact quiet_left (HCALL.out _)))
                      go_wp2
                      exact bodyPost_ret (v := .tuple #[.int .i64 z, .bool true]) (by simp [results, Tryz.results33, go_sem]) rfl ⟨Or.inr ⟨HT.out, by rw [HF2.out]⟩, below_drewN hbbr _⟩
                  · have HF2 := Lib.hid (show Pl.prec (Pl.lower a.data.toList) (Pl.lower b.data.toList) = Pl.ordI ps.length qs.length from by rw [HFIN.out, HBL.out, ← HC.out, Pl.identsCmp_end _ _ _ (Or.inr (by omega)) hka hkb])
                    go_wp2_with fail
                    refine (orderInts_any _ _ _).mono ?_; rintro e w' ⟨rfl, rfl⟩
                    go_wp2
                    exact bodyPost_ret (v := .tuple #[.int .i64 (Pl.ordI ps.length qs.length), .bool true]) (by simp [results, Tryz.results33, go_sem]) rfl ⟨Or.inr ⟨HT.out, by rw [HF2.out]⟩, hbbr⟩
                · have HF2 := Lib.hid (show Pl.prec (Pl.lower a.data.toList) (Pl.lower b.data.toList) = Pl.ordI ps.length qs.length from by rw [HFIN.out, HBL.out, ← HC.out, Pl.identsCmp_end _ _ _ (Or.inl (by omega)) hka hkb])
                  go_wp2_with fail
                  refine (orderInts_any _ _ _).mono ?_; rintro e w' ⟨rfl, rfl⟩
                  go_wp2
                  exact bodyPost_ret (v := .tuple #[.int .i64 (Pl.ordI ps.length qs.length), .bool true]) (by simp [results, Tryz.results33, go_sem]) rfl ⟨Or.inr ⟨HT.out, by rw [HF2.out]⟩, hbbr⟩
end Go.Proofs.YtgfkdjmoflbmdaaGreatDoor
