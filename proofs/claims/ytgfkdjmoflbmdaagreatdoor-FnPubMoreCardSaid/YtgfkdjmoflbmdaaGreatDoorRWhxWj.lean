/- Contract; Contracts; PLAIN. -/
import Derived.Deep.RegionLaw
import Derived.Test.YtgfkdjmoflbmdaaGreatDoorRWexPlP
namespace Go.Proofs.YtgfkdjmoflbmdaaGreatDoor
open Go.RowKit
open Go.Proofs
theorem startsV_empty {s : ByteArray} (h : s.toList = []) : Pl.startsV s.data.toList = false := by
  rw [toList_eq] at h
  rw [h]; rfl
theorem startsV_pos {s : ByteArray} (h0 : 0 < s.size) : Pl.startsV s.data.toList = ((s[0].toNat : Int) == 118) := by
  unfold Pl.startsV
  rw [get_list s 0 h0, Bool.eq_iff_iff]
  simp only [Option.some_beq_some, beq_iff_eq]
  rw [← UInt8.toNat_inj, show (118 : UInt8).toNat = 118 from rfl]; omega
theorem restV_no {s : ByteArray} (h : Pl.startsV s.data.toList = false) : Pl.restV s.data.toList = s.data.toList := by
  by_cases h0 : 0 < s.size
  · rw [startsV_pos h0] at h
    rw [list_cons s h0]
    show (if s[0] = 118 then _ else _) = _
    rw [if_neg]
    rw [beq_eq_false_iff_ne] at h
    intro e
    apply h
    rw [e]; rfl
  · have : s.data.toList = [] := List.eq_nil_of_length_eq_zero (by rw [len_list]; omega)
    rw [this]; rfl
theorem startsV_size {s : ByteArray} (h : Pl.startsV s.data.toList = true) : 0 < s.size := by
  rcases Nat.eq_zero_or_pos s.size with h0 | h0
  · have : s.data.toList = [] := List.eq_nil_of_length_eq_zero (by rw [len_list]; omega)
    rw [this] at h; cases h
  · exact h0
theorem restV_yes {s : ByteArray} (h : Pl.startsV s.data.toList = true) : Pl.restV s.data.toList = (s.extract 1 s.size).data.toList := by
  have h0 := startsV_size h
  rw [startsV_pos h0] at h
  rw [list_cons s h0]
  show (if s[0] = 118 then _ else _) = _
  rw [if_pos]
  rw [beq_iff_eq] at h
  exact UInt8.toNat_inj.1 (by rw [show (118 : UInt8).toNat = 118 from rfl]; omega)
theorem info46 : (Tryz.prog.info? 46).map (fun i => (i.zero, i.size, i.bytes)) = some (some (.agg #[.bool false, .string ⟨#[]⟩]), 2, 24) := by kernel_rfl
theorem step_app2 {P : Program} {w1 : World} {ops : Array Oper} {o : Oper} {a : Act} {K : Act → World → Prop} {Q : Exit → Act → World → Prop} {E : Prop} (hgd : o.guard = none) (s x : Operand) (t : TypeId)
    (ho : o.op = .call { callee := .builtin .append, args := #[s, x], argTypes := #[t, t] })
    (base : Nat) (e : TypeId) (i : TypeInfo) (z : Value) (bytes : Nat) (ht : P.underlying t = some (.slice e)) (hi : P.info? e = some i) (hz : i.zero = some z)
    (hsize : i.size = 2) (hby : i.bytes = bytes) (hzs : z.cells.size = 2)
    (v : Value) (n : Nat) (xs : List Value) (hs : a.eval s = v) (hown : w1.ownsRow base e 2 v n xs)
    (u1 u2 : Value) (hx : a.eval x = .slice (some ⟨w1.heap.size, 0, none⟩) 1 1) (h1 : u1.oneCell' = true) (h2 : u2.oneCell' = true) (hbt : bytes ≤ 64) (hn : n ≤ 1000000) (hbase : base ≤ w1.heap.size)
    (h : ∀ g cap w', w'.ownsRow base e 2 (.slice (some ⟨g, 0, none⟩) (n + 1) cap) (n + 1) (xs ++ [u1, u2]) → w1.grownBy w' v.ownBlock → (v.ownBlock = some g ∨ w1.heap.size ≤ g) → Below base w1 w' →
      K (a.put o.dst (.slice (some ⟨g, 0, none⟩) (n + 1) cap)) w') :
    if Region.wanted o (yielded ops a.tmps) = true then Oper.wp P o a (w1.alloc (.cells #[u1, u2] e)) K Q else E := by
  have hbytes : (n + 1) * bytes ≤ 140737488355328 :=
    Nat.le_trans (Nat.mul_le_mul (show n + 1 ≤ 1000001 by omega) hbt) (by omega)
  refine step_append_lies (w1.alloc (.cells #[u1, u2] e)) hgd s x t ho base e i z 2 bytes ht hi hz hsize hby hzs (by omega) v n xs hs (hown.alloc _) ⟨w1.heap.size, 0, none⟩ 1 1 [u1, u2] hx rfl
    (World.news_of_block (heap_alloc_new w1 _)) (by simp [h1, h2]) (by omega) (by unfold maxLen; omega) hbytes (by simp; omega) (w1.heap.size + 1) (by simp) ?_
  intro g cap w' hown' hg hat _
  have hg2 : w1.grownBy w' v.ownBlock := ⟨hg.os, hg.tape, hg.output, Nat.le_trans (by simp) hg.size, fun k hk hne => (hg.block k (by simp; omega) hne).trans (Below.heap_alloc _ _ _ hk)⟩
  refine h g cap w' hown' hg2 (hat.imp id (by omega)) ?_
  exact (Below.refl base w1).grown hg2 hbase (fun k hk => (hown.lt k hk).1)
def LPst (w : World) (wx : World) (v : Bool) (C : Value) (bd og : Value) : Prop :=
  Blk wx w.heap.size 27 #[.bool false, .slice none 0 0, .string ⟨#[]⟩, .string ⟨#[]⟩] ∧ Blk wx (w.heap.size + 1) 27 #[.bool v, C, bd, og] ∧ Below w.heap.size w wx
set_option maxRecDepth 100000 in
set_option maxHeartbeats 4000000 in
theorem LikeParse_any (s : ByteArray) (w : World) (hs : s.size ≤ 30000) :
    Calls Tryz.prog 17 #[.string s] w fun e w' => ∃ A c, e = .returned (.agg #[.bool (Pl.startsV s.data.toList), .slice A (Pl.numsOf s.data.toList).length c, S (Pl.buildOf s.data.toList), .string s]) ∧
      w'.ownsRow w.heap.size 46 2 (.slice A (Pl.numsOf s.data.toList).length c) (Pl.numsOf s.data.toList).length (IntC (Pl.numsOf s.data.toList)) ∧ Below w.heap.size w w' := by
  go_enter Tryz.func17, Tryz.ntmps17
  go_upto_region 2 with (fail)
  have hst : LPst w ((w.alloc (.cells #[.bool false, .slice none 0 0, .string ⟨#[]⟩, .string ⟨#[]⟩] 27)).alloc (.cells #[.bool false, .slice none 0 0, .string ⟨#[]⟩, .string s] 27)) false (.slice none 0 0) (.string ⟨#[]⟩) (.string s) := by
    refine ⟨(Blk.new _ _ _).alloc _, ?_, by go_grown⟩
    have := Blk.new (w.alloc (.cells #[.bool false, .slice none 0 0, .string ⟨#[]⟩, .string ⟨#[]⟩] 27)) 27 #[.bool false, .slice none 0 0, .string ⟨#[]⟩, .string s]
    rw [World.size_alloc] at this
    exact this
  generalize (w.alloc (.cells #[.bool false, .slice none 0 0, .string ⟨#[]⟩, .string ⟨#[]⟩] 27)).alloc (.cells #[.bool false, .slice none 0 0, .string ⟨#[]⟩, .string s] 27) = W at hst ⊢
  go_cut [15] (fun s15 wx => s15 = .bool (Pl.startsV s.data.toList) ∧ wx = W)
  case first =>
    by_cases he : s.toList = []
    · have hv := startsV_empty he
      go_wp2_with fail
      go_meet
      exact ⟨by rw [hv], rfl⟩
    · have h0 : 0 < s.size := by rw [toList_eq] at he; rw [← len_list]; exact List.length_pos_iff.2 he
      have hv := startsV_pos h0
      have HV := Lib.hid hv
      clear hv
      have he1 : s.toList.isEmpty = false := by simpa using he
      clear he
      go_wp2_with fail
      go_meet
      exact ⟨by rw [HV.out], rfl⟩
  case rest =>
    obtain ⟨rfl, rfl⟩ := hcut
    go_upto_if 15 with (fail)
    go_cut [0] (fun s0 wx => ∃ t : ByteArray, s0 = .string t ∧ t.data.toList = Pl.restV s.data.toList ∧ t.size ≤ 30000 ∧ LPst w wx (Pl.startsV s.data.toList) (.slice none 0 0) (.string ⟨#[]⟩) (.string s))
    case first =>
      obtain ⟨hb1, hb2, hb3⟩ := hst
      have hc0 := hb2.cell 0
      have hf0 := hb2.frozen 0
      simp at hc0
      cases hv : Pl.startsV s.data.toList with
      | true =>
        have h0 := startsV_size hv
        go_wp2
        go_region
        all_goals go_wp2_with fail
        all_goals go_meet
        all_goals exact ⟨s.extract 1 s.size, rfl, (restV_yes hv).symm, by rw [ByteArray.size_extract]; omega, Blk.drew (hb1.far (p := ⟨w.heap.size + 1, 0, none⟩) (by simp) (.bool true)), by rw [hv]; exact (hb2.set_ 0 (.bool true)).drew, (hb3.setCell (p := ⟨w.heap.size + 1, 0, none⟩) (by simp) (.bool true)).drew⟩
      | false =>
        go_wp2
        go_meet
        exact ⟨s, rfl, (restV_no hv).symm, hs, hb1, by rw [hv]; exact hb2, hb3⟩
    case rest =>
      obtain ⟨t, rfl, ht, hts, hst⟩ := hcut
      have HT := Lib.hid ht
      clear ht
      go_upto_block 0 with (fail)
      go_cut [4] (fun s4 wx => s4 = .int .i64 ((Pl.coreOf s.data.toList).length : Int) ∧ (Pl.coreOf s.data.toList).length ≤ t.size ∧ Pl.coreOf s.data.toList = t.data.toList.take (Pl.coreOf s.data.toList).length ∧ Pl.buildOf s.data.toList = t.data.toList.drop (Pl.coreOf s.data.toList).length ∧ wx = wc)
      case first =>
        go_wp2
        go_loop [4] (fun i => ∃ k : Nat, k ≤ t.size ∧ i = .int .i64 k ∧ (t.data.toList.take k).all Pl.coreB = true) (fun i => t.size - (intOf i).toNat)
        case atStart => exact ⟨0, Nat.zero_le _, rfl, rfl⟩
        case round =>
          obtain ⟨k, hk, rfl, ha⟩ := hrel
          have HA := Lib.hid ha
          clear ha
          by_cases hlt : k < t.size
          · have hg := get_list t k hlt
            have HG := Lib.hid hg
            clear hg
            by_cases hdig : Pl.isDig t[k] = true
            · go_wp2_with (go_at_call 48; refine (isDigit_byte _ _).mono ?_; rintro e w' ⟨rfl, rfl⟩)
              go_round
              case rel => exact ⟨k + 1, by omega, by go_num, all_take_step _ k _ HA.out HG.out (by rw [Pl.coreB, hdig]; rfl)⟩
              case measure => simp [intOf]; omega
            · have hdig1 : Pl.isDig t[k] = false := by simpa using hdig
              clear hdig
              by_cases hp : ((t[k].toNat : Int) == 46) = true
              · go_wp2_with (go_at_call 48; refine (isDigit_byte _ _).mono ?_; rintro e w' ⟨rfl, rfl⟩)
                go_round
                case rel =>
                  have hp2 : t[k] = 46 := by rw [beq_iff_eq] at hp; exact UInt8.toNat_inj.1 (by rw [show (46 : UInt8).toNat = 46 from rfl]; omega)
                  exact ⟨k + 1, by omega, by go_num, all_take_step _ k _ HA.out HG.out (by rw [Pl.coreB, hp2]; rfl)⟩
                case measure => simp [intOf]; omega
              · have hp1 : ((t[k].toNat : Int) == 46) = false := by simpa using hp
                clear hp
                go_wp2_with (go_at_call 48; refine (isDigit_byte _ _).mono ?_; rintro e w' ⟨rfl, rfl⟩)
                have hcb : Pl.coreB t[k] = false := by
                  rw [Pl.coreB, hdig1]
                  rw [beq_eq_false_iff_ne] at hp1
                  simp only [Bool.false_or, beq_eq_false_iff_ne]
                  intro e
                  apply hp1
                  rw [e]; rfl
                obtain ⟨h1, h2⟩ := Pl.while_at _ k HA.out (Or.inr ⟨_, HG.out, hcb⟩)
                rw [HT.out] at h1 h2
                have hlen : (Pl.coreOf s.data.toList).length = k := by
                  rw [Pl.coreOf, h1, List.length_take, ← HT.out, len_list]; omega
                go_meet
                exact ⟨by rw [hlen], by omega, by rw [hlen, HT.out]; exact h1, by rw [hlen, HT.out]; exact h2, rfl⟩
          · go_wp2
            obtain rfl : k = t.size := by omega
            obtain ⟨h1, h2⟩ := Pl.while_at _ t.size HA.out (Or.inl (len_list t).symm)
            rw [HT.out] at h1 h2
            have hlen : (Pl.coreOf s.data.toList).length = t.size := by
              rw [Pl.coreOf, h1, List.length_take, ← HT.out, len_list]; omega
            go_meet
            exact ⟨by rw [hlen], by omega, by rw [hlen, HT.out]; exact h1, by rw [hlen, HT.out]; exact h2, rfl⟩
      case rest =>
        obtain ⟨rfl, hcl, hcore, hbuild, rfl⟩ := hcut
        have HCORE := Lib.hid hcore
        have HBUILD := Lib.hid hbuild
        clear hcore hbuild
        obtain ⟨sv, hsv⟩ : ∃ sv, Pl.startsV s.data.toList = sv := ⟨_, rfl⟩
        rw [hsv] at hst
        have HSV := Lib.hid hsv
        clear hsv
        obtain ⟨x, hx⟩ : ∃ x, t.extract 0 (Pl.coreOf s.data.toList).length = x := ⟨_, rfl⟩
        have hxd : x.data.toList = Pl.coreOf s.data.toList := by rw [← hx, Lib.extract_data, Nat.sub_zero, List.drop_zero]; exact HCORE.out.symm
        have hxs : x.size ≤ 30000 := by rw [← len_list, hxd]; omega
        obtain ⟨cl, hcle⟩ : ∃ cl, (Pl.coreOf s.data.toList).length = cl := ⟨_, rfl⟩
        rw [hcle] at hx hcl ⊢
        have HCL := Lib.hid hcle
        clear hcle
        have hcut := cut_any x
        rw [hxd] at hcut
        obtain ⟨ps, hps⟩ : ∃ ps, Pl.splitB 46 (Pl.coreOf s.data.toList) = ps := ⟨_, rfl⟩
        rw [hps] at hcut
        have hpl : ps.length ≤ 30001 := by
          have := Pl.splitB_length 46 (Pl.coreOf s.data.toList)
          rw [hps, ← hxd, len_list] at this; omega
        have HPM : Hid (∀ p ∈ ps, p.length ≤ 30000 ∧ p.all Pl.isDig = true) := Lib.hid (by
          intro p hp
          rw [← hps] at hp
          obtain ⟨h1, h2⟩ := Pl.piece_digs _ p hp
          rw [← hxd, len_list] at h1
          exact ⟨by omega, h2⟩)
        have HPS := Lib.hid hps
        have HXD := Lib.hid hxd
        have HCUT := Lib.hid hcut
        clear hps hxd hcut
        obtain ⟨hb1, hb2, hb3⟩ := hst
        go_wp2_with fail
        refine (HCUT.out _ (by unfold lim; exact hxs)).mono ?_; rintro e w1 ⟨A, ca, rfl, hownp, hbp⟩
        go_wp2_with fail
        have hb1' := hb1.below hbp hb1.lt
        have hb2' := hb2.below hbp hb2.lt
        have hb3' : Below w.heap.size w w1 := hb3.trans (hbp.mono hb3.size)
        have hownp0 : w1.ownsRow 0 9 1 (.slice A ps.length ca) ps.length (ps.map S) := own_lower hownp (by omega)
        clear hb1 hb2 hb3 hbp hownp
        obtain ⟨iI, hiI, hzI0, hzI1, hzI2⟩ := info_parts info46
        go_loopw [6] (fun jv wr => ∃ (j : Nat) (C : Value) (ns : List Nat), j ≤ ps.length ∧ jv = .int .i64 (j : Int) ∧ ns = ((ps.take j).filter (fun p => !p.isEmpty)).map Pl.natOf ∧ Blk wr w.heap.size 27 #[.bool false, .slice none 0 0, .string ⟨#[]⟩, .string ⟨#[]⟩] ∧ Blk wr (w.heap.size + 1) 27 #[.bool sv, C, .string ⟨#[]⟩, .string s] ∧ wr.ownsRow (w.heap.size + 2) 46 2 C ns.length (IntC ns) ∧ wr.ownsRow 0 9 1 (.slice A ps.length ca) ps.length (ps.map S) ∧ Below w.heap.size w wr) (fun jv _ => ps.length - (intOf jv).toNat)
        case atStart => exact ⟨0, .slice none 0 0, [], Nat.zero_le _, rfl, rfl, hb1', hb2', World.ownsRow_nil _ _ _ _, hownp0, hb3'⟩
        case round =>
          obtain ⟨j, C, ns, hj, rfl, hns, hb1, hb2, hownC, hownp, hbel⟩ := hrel
          have HNS := Lib.hid hns
          clear hns
          by_cases hjl : j < ps.length
          · obtain ⟨b, o, rfl, hcP⟩ := (Rd.of_own hownp).str_at hjl
            obtain ⟨p, hp⟩ : ∃ p, ps[j] = p := ⟨_, rfl⟩
            rw [hp] at hcP
            have HP := Lib.hid hp
            clear hp
            have hcC := hb2.cell 1
            have hfC := hb2.frozen 1
            simp at hcC
            by_cases hpe : p = []
            · subst hpe
              go_wp2
              go_roundw
              case rel => exact ⟨j + 1, C, ns, by omega, by go_num, by rw [HNS.out, List.take_succ_eq_append_getElem hjl, HP.out]; simp, hb1, hb2, hownC, hownp, hbel⟩
              case measure => simp [intOf]; omega
            · have hpe1 : p.isEmpty = false := by simpa using hpe
              obtain ⟨hp1, hp2⟩ := HPM.out p (by rw [← HP.out]; exact List.getElem_mem _)
              have HPE := Lib.hid hpe1
              obtain ⟨l1, l2, l3, l4⟩ := cell_lts hcC
              obtain ⟨m1, m2, m3, m4⟩ := cell_lts hcP
              go_wp2_with fail
              have hneR := own_own_ne hownC hownp (by decide)
              have hneP := own_blk_ne hownp hb2 (by decide)
              clear hts HT HCORE HBUILD HSV hxs hx HCL HPM HPS HXD HCUT hb1' hb2' hb3' hownp0 hst
              have hnl : ns.length ≤ 1000000 := by
                have h := congrArg List.length HNS.out
                rw [List.length_map] at h
                have := List.length_filter_le (fun p : Pl.Bytes => !p.isEmpty) (ps.take j)
                rw [List.length_take] at this; omega
              have hownD : wr.drew.ownsRow (w.heap.size + 2) 46 2 C ns.length (IntC ns) := hownC
              have hb2D : Blk wr.drew (w.heap.size + 1) 27 #[.bool sv, C, .string ⟨#[]⟩, .string s] := hb2
              have hneC : some (w.heap.size + 1) ≠ C.ownBlock := (own_blk_ne hownC hb2 (by decide)).symm
              go_region_law (first | (refine step_app2 (w1 := w1) rfl (.tmp 53) (.tmp 59) 25 rfl (w.heap.size + 2) 46 iI _ 24 Tryz.underlying25 hiI hzI0 hzI1 hzI2 rfl C _ _ (by simp [Act.eval]) (own_below hownD hw1) _ _ (by simp [Act.eval]) rfl rfl (by omega) hnl (Nat.le_trans hb2D.lt hw1.size) ?_; intro g cap w2 hown2 hg2 hat2 hw2; have hB2 := (hb2D.below hw1 hb2D.lt).grown hg2 hneC; have hcE := hB2.cell 1; have hfE := hB2.frozen 1; simp at hcE) | (go_simp; go_at_call 51; refine (intOf_any ⟨p.toArray⟩ _ hp1 hp2).mono ?_; rintro e w1 ⟨rfl, hw1⟩; have hB1 := hb2D.below hw1 hb2D.lt; have hlt1 := hB1.lt; have hcG := hB1.cell 1; have hfG := hB1.frozen 1; simp at hcG))
              all_goals go_wp2
              all_goals
                go_roundw
                case rel =>
                  have hn1 := own_blk_ne hown2 hB2 (by decide)
                  have hb1D : Blk wr.drew w.heap.size 27 #[.bool false, .slice none 0 0, .string ⟨#[]⟩, .string ⟨#[]⟩] := hb1
                  have hownpD : wr.drew.ownsRow 0 9 1 (.slice (some ⟨b, o, none⟩) ps.length ca) ps.length (ps.map S) := hownp
                  have hbelD : Below w.heap.size w wr.drew := hbel.drew
                  refine ⟨j + 1, _, ns ++ [Pl.natOf p], by omega, by go_num, ?_, ((hb1D.below hw1 hb1D.lt).grown hg2 (own_blk_ne hownC hb1 (by decide)).symm).far (by simp) _, hB2.set_ 1 _, own_cast (own_far hown2 hn1 _) (by simp) (by simp [IntC]), own_far (own_grown (own_below hownpD hw1) hg2 hneR) hneP _, (hbelD.trans ((hw1.mono hbelD.size).trans (hw2.mono (by omega)))).setCell (by simp) _⟩
                  rw [HNS.out, List.take_succ_eq_append_getElem hjl, HP.out]
                  simp [hpe]
                case measure => simp [intOf]; omega
          · obtain rfl : j = ps.length := by omega
            obtain ⟨A2, c2, rfl⟩ := own_form hownC
            have hc0 := hb2.cell 0
            have hc1 := hb2.cell 1
            have hc2 := hb2.cell 2
            have hc3 := hb2.cell 3
            have hf2 := hb2.frozen 2
            have hd0 := hb1.cell 0
            have hd1 := hb1.cell 1
            have hd2 := hb1.cell 2
            have hd3 := hb1.cell 3
            have hg0 := hb1.frozen 0
            have hg1 := hb1.frozen 1
            have hg2 := hb1.frozen 2
            have hg3 := hb1.frozen 3
            simp at hc0 hc1 hc2 hc3 hd0 hd1 hd2 hd3
            have hne2 := own_blk_ne hownC hb2 (by decide)
            have hne1 := own_blk_ne hownC hb1 (by decide)
            go_wp2
            have hns : ns = Pl.numsOf s.data.toList := by rw [HNS.out, List.take_length, Pl.numsOf, HPS.out]
            have hbd : Value.string (t.extract cl t.size) = S (Pl.buildOf s.data.toList) := by
              rw [ext_S, HBUILD.out, HCL.out, List.take_of_length_le (by rw [List.length_drop, len_list]; exact Nat.le_refl _)]
            have hsv := HSV.out
            subst hns
            refine bodyPost_ret (v := .agg #[.bool sv, .slice A2 (Pl.numsOf s.data.toList).length c2, .string (t.extract cl t.size), .string s]) (by simp [results, Tryz.results17, go_sem, hd0, hd1, hd2, hd3]) rfl ⟨A2, c2, ?_, ?_, ?_⟩
            · rw [hsv, hbd]
            · exact own_far (own_far (own_far (own_far (own_far (own_lower hownC (by omega)) hne2 _) hne1 _) hne1 _) hne1 _) hne1 _
            · exact ((((hbel.setCell (by simp) _).setCell (by simp) _).setCell (by simp) _).setCell (by simp) _).setCell (by simp) _
end Go.Proofs.YtgfkdjmoflbmdaaGreatDoor
namespace Go.Proofs.YtgfkdjmoflbmdaaGreatDoor
open Go.RowKit
open Go.Proofs
namespace Pl
def likeOrd (ns ms : List Nat) (a b : Bytes) : Int := if cmpNums ns ms ≠ 0 then cmpNums ns ms else builds a b
def Fits (ns : List Nat) : Prop := ns.length ≤ 30000 ∧ ∀ n ∈ ns, (magOf n).length ≤ 30000
end Pl
theorem likeOrder_any (va vb : Bool) (A B : Option Addr) (ca cb : Nat) (ns ms : List Nat) (da db : ByteArray) (oa ob : ByteArray) (w : World)
    (hra : Rd w 2 A ns.length (IntC ns)) (hrb : Rd w 2 B ms.length (IntC ms)) (hfa : Pl.Fits ns) (hfb : Pl.Fits ms) (hda : da.size ≤ 30000) (hdb : db.size ≤ 30000) :
    Calls Tryz.prog 46 #[.agg #[.bool va, .slice A ns.length ca, .string da, .string oa], .agg #[.bool vb, .slice B ms.length cb, .string db, .string ob]] w fun e w' => e = .returned (.int .i64 (Pl.likeOrd ns ms da.data.toList db.data.toList)) ∧ Below w.heap.size w w' := by
  obtain ⟨f1, f2⟩ := hfa
  obtain ⟨f3, f4⟩ := hfb
  have F2 := Lib.hid f2
  have F4 := Lib.hid f4
  clear f2 f4
  obtain ⟨z, hz⟩ : ∃ z, Pl.cmpNums ns ms = z := ⟨_, rfl⟩
  have HZ := Lib.hid hz
  clear hz
  obtain ⟨W, hW⟩ : ∃ W, (w.alloc (.cells #[.bool va, .slice A ns.length ca, .string da, .string oa] 27)).alloc (.cells #[.bool vb, .slice B ms.length cb, .string db, .string ob] 27) = W := ⟨_, rfl⟩
  have hba : Blk W w.heap.size 27 #[.bool va, .slice A ns.length ca, .string da, .string oa] := by rw [← hW]; exact (Blk.new _ _ _).alloc _
  have hbb : Blk W (w.heap.size + 1) 27 #[.bool vb, .slice B ms.length cb, .string db, .string ob] := by
    rw [← hW]
    have := Blk.new (w.alloc (.cells #[.bool va, .slice A ns.length ca, .string da, .string oa] 27)) 27 #[.bool vb, .slice B ms.length cb, .string db, .string ob]
    rw [World.size_alloc] at this
    exact this
  have hraW : Rd W 2 A ns.length (IntC ns) := by rw [← hW]; exact (hra.alloc _).alloc _
  have hrbW : Rd W 2 B ms.length (IntC ms) := by rw [← hW]; exact (hrb.alloc _).alloc _
  have hbelW : Below w.heap.size w W := by rw [← hW]; go_grown
  have HC := Lib.hid (CompareNumbers_any A B ca cb ns ms W hraW hrbW f1 f3 F2.out F4.out)
  rw [HZ.out] at HC
  have hmeet : ∀ (e : Ending) (w1 : World), (e = .returned (.int .i64 z) ∧ Below W.heap.size W w1) → e = .returned (.int .i64 z) ∧ w1.cell? ⟨w.heap.size, 2, none⟩ = some (.string da) ∧ w1.cell? ⟨w.heap.size + 1, 2, none⟩ = some (.string db) ∧ Below w.heap.size w w1 := by
    rintro e w1 ⟨rfl, hb⟩
    have h1 := (hba.below hb hba.lt).cell 2
    have h2 := (hbb.below hb hbb.lt).cell 2
    exact ⟨rfl, by simpa using h1, by simpa using h2, hbelW.trans (hb.mono hbelW.size)⟩
  have HM := Lib.hid hmeet
  have HW := Lib.hid hW
  clear hW
  clear hmeet hba hbb hraW hrbW hbelW hra hrb
  by_cases hz0 : z = 0
  · have HR : Hid (Pl.likeOrd ns ms da.data.toList db.data.toList = Pl.builds da.data.toList db.data.toList) := Lib.hid (by rw [Pl.likeOrd, HZ.out, if_neg (by simp [hz0])])
    have hz1 : (z != 0) = false := by simp [hz0]
    clear hz0
    go_enter Tryz.func46, Tryz.ntmps46
    go_wp2_with fail
    rw [HW.out]
    refine HC.out.mono ?_; intro e w1 h; obtain ⟨rfl, hc1, hc2, hb1⟩ := HM.out _ _ h
    go_wp2_with fail
    refine (Builds_any da db _ hda hdb).mono ?_; rintro e w2 ⟨rfl, hb2⟩
    go_wp2_with fail
    go_ret
    exact ⟨ret_int HR.out.symm, hb1.trans (hb2.mono hb1.size)⟩
  · have HR : Hid (Pl.likeOrd ns ms da.data.toList db.data.toList = z) := Lib.hid (by rw [Pl.likeOrd, HZ.out, if_pos hz0])
    have hz1 : (z != 0) = true := by simpa using hz0
    clear hz0
    go_enter Tryz.func46, Tryz.ntmps46
    go_wp2_with fail
    rw [HW.out]
    refine HC.out.mono ?_; intro e w1 h; obtain ⟨rfl, hc1, hc2, hb1⟩ := HM.out _ _ h
    go_wp2_with fail
    go_ret
    exact ⟨ret_int HR.out.symm, hb1⟩
theorem SemverCompare_any (va vb : Bool) (A B : Option Addr) (ca cb : Nat) (ns ms : List Nat) (da db : ByteArray) (oa ob : ByteArray) (w : World)
    (hra : Rd w 2 A ns.length (IntC ns)) (hrb : Rd w 2 B ms.length (IntC ms)) (hfa : Pl.Fits ns) (hfb : Pl.Fits ms) (hda : da.size ≤ 30000) (hdb : db.size ≤ 30000) :
    Calls Tryz.prog 15 #[.agg #[.bool va, .slice A ns.length ca, .string da, .string oa], .agg #[.bool vb, .slice B ms.length cb, .string db, .string ob]] w fun e w' => e = .returned (.tuple #[.int .i64 (Pl.likeOrd ns ms da.data.toList db.data.toList), .bool true]) ∧ Below w.heap.size w w' := by
  obtain ⟨W, hW⟩ : ∃ W, (w.alloc (.cells #[.bool va, .slice A ns.length ca, .string da, .string oa] 27)).alloc (.cells #[.bool vb, .slice B ms.length cb, .string db, .string ob] 27) = W := ⟨_, rfl⟩
  have hraW : Rd W 2 A ns.length (IntC ns) := by rw [← hW]; exact (hra.alloc _).alloc _
  have hrbW : Rd W 2 B ms.length (IntC ms) := by rw [← hW]; exact (hrb.alloc _).alloc _
  have hbelW : Below w.heap.size w W := by rw [← hW]; go_grown
  have HC := Lib.hid (likeOrder_any va vb A B ca cb ns ms da db oa ob W hraW hrbW hfa hfb hda hdb)
  have HW := Lib.hid hW
  clear hW
  go_enter Tryz.func15, Tryz.ntmps15
  go_wp2_with fail
  rw [HW.out]
  refine HC.out.mono ?_; rintro e w1 ⟨rfl, hb1⟩
  go_wp2_with fail
  refine bodyPost_ret (v := .tuple #[.int .i64 (Pl.likeOrd ns ms da.data.toList db.data.toList), .bool true]) (by simp [results, Tryz.results15, go_sem]) rfl ⟨rfl, hbelW.trans (hb1.mono hbelW.size)⟩
end Go.Proofs.YtgfkdjmoflbmdaaGreatDoor
namespace Go.Proofs.YtgfkdjmoflbmdaaGreatDoor.Pl
theorem KInv.done {b : Nat} {us vs us' qs' : List Nat} (h : KInv b us vs 0 us' qs') : val b us' = val b us % val b vs ∧ val b qs' = val b us / val b vs := by
  have h1 := h.rem
  have h2 := h.quo
  simp only [List.drop_zero] at h1 h2
  exact ⟨h1, h2⟩
theorem div_shift (U V S : Nat) (hS : 0 < S) : U * S / (V * S) = U / V ∧ U * S % (V * S) = U % V * S :=
  ⟨Nat.mul_div_mul_right U V hS, Nat.mul_mod_mul_right S U V⟩
theorem wide_fit {B V1 V0 U1 U0 : Nat} (hV1 : 0 < V1) (hU0 : U0 < B) (h : U1 / V1 * V0 ≤ U1 % V1 * B + U0) :
    (U1 * B + U0) / (V1 * B + V0) = U1 / V1 ∧ (U1 * B + U0) % (V1 * B + V0) = U1 % V1 * B + U0 - U1 / V1 * V0 := by
  have hr := Nat.mod_lt U1 hV1
  have hd := Nat.div_add_mod U1 V1
  obtain ⟨q, hq⟩ : ∃ q, U1 / V1 = q := ⟨_, rfl⟩
  obtain ⟨r, hr'⟩ : ∃ r, U1 % V1 = r := ⟨_, rfl⟩
  rw [hq, hr'] at h hd ⊢
  rw [hr'] at hr
  have hU : U1 * B + U0 = (V1 * B + V0) * q + (r * B + U0 - q * V0) := by
    rw [← hd, Nat.add_mul, Nat.add_mul, Nat.mul_comm V0 q]
    have e : V1 * q * B = V1 * B * q := by rw [Nat.mul_assoc, Nat.mul_comm q B, ← Nat.mul_assoc]
    rw [e]; omega
  have hlt : r * B + U0 < V1 * B := by
    have := Nat.mul_le_mul_right B (show r + 1 ≤ V1 by omega)
    rw [Nat.add_mul, Nat.one_mul] at this
    omega
  have := div_of (N := U1 * B + U0) (V := V1 * B + V0) (Q := q) (by omega) (by omega)
  exact ⟨this.1, by rw [this.2]; omega⟩
theorem wide_less {B V1 V0 U1 U0 : Nat} (hV1 : 0 < V1) (hb : U1 / V1 * V0 ≤ V1 * B) (h : U1 % V1 * B + U0 < U1 / V1 * V0) :
    0 < U1 / V1 ∧ (U1 / V1 - 1) * V0 ≤ (U1 % V1 + V1) * B + U0 ∧ (U1 * B + U0) / (V1 * B + V0) = U1 / V1 - 1 ∧ (U1 * B + U0) % (V1 * B + V0) = (U1 % V1 + V1) * B + U0 - (U1 / V1 - 1) * V0 ∧ (U1 % V1 + V1) ≤ U1 := by
  have hr := Nat.mod_lt U1 hV1
  have hd := Nat.div_add_mod U1 V1
  obtain ⟨q, hq⟩ : ∃ q, U1 / V1 = q := ⟨_, rfl⟩
  obtain ⟨r, hr'⟩ : ∃ r, U1 % V1 = r := ⟨_, rfl⟩
  rw [hq, hr'] at h hd ⊢
  rw [hq] at hb
  rw [hr'] at hr
  have hq0 : 0 < q := by
    rcases Nat.eq_zero_or_pos q with e | e
    · subst e; simp at h
    · exact e
  obtain ⟨k, rfl⟩ : ∃ k, q = k + 1 := ⟨q - 1, by omega⟩
  rw [Nat.add_sub_cancel]
  rw [Nat.add_mul, Nat.one_mul] at h hb
  rw [Nat.add_mul r V1 B]
  have hU : U1 * B + U0 = (V1 * B + V0) * k + (r * B + V1 * B + U0 - k * V0) := by
    rw [← hd, Nat.mul_add, Nat.mul_one, Nat.add_mul, Nat.add_mul, Nat.add_mul, Nat.mul_comm V0 k]
    have e : V1 * k * B = V1 * B * k := by rw [Nat.mul_assoc, Nat.mul_comm k B, ← Nat.mul_assoc]
    rw [e]; omega
  have := div_of (N := U1 * B + U0) (V := V1 * B + V0) (Q := k) (by omega) (by omega)
  refine ⟨by omega, by omega, this.1, by rw [this.2]; omega, ?_⟩
  rw [← hd, Nat.mul_add, Nat.mul_one]
  omega
def tabD : Nat → Nat
  | 0 => 154
  | 1 => 308
  | 2 => 616
  | _ => 1233
def tabB : Nat → Nat
  | 0 => 512
  | 1 => 1024
  | 2 => 2047
  | _ => 4096
def tabW : Nat → Nat
  | 0 => 8
  | 1 => 16
  | 2 => 32
  | _ => 64
theorem tab_facts : ∀ i : Fin 4, (Nat.ble (2 ^ (tabB i.val - 1)) (10 ^ tabD i.val) && Nat.blt (10 ^ tabD i.val) (2 ^ tabB i.val)) = true := by
  have h : (List.range 4).all (fun i => Nat.ble (2 ^ (tabB i - 1)) (10 ^ tabD i) && Nat.blt (10 ^ tabD i) (2 ^ tabB i)) = true := by kernel_rfl
  intro i
  exact List.all_eq_true.1 h i.val (List.mem_range.2 i.isLt)
theorem tab_lo {i : Nat} (h : i < 4) : 2 ^ (tabB i - 1) ≤ 10 ^ tabD i := by
  have := tab_facts ⟨i, h⟩
  simp only [Bool.and_eq_true] at this
  exact Nat.le_of_ble_eq_true this.1
theorem tab_hi {i : Nat} (h : i < 4) : 10 ^ tabD i < 2 ^ tabB i := by
  have := tab_facts ⟨i, h⟩
  simp only [Bool.and_eq_true] at this
  exact Nat.le_of_ble_eq_true this.2
structure Bits (n k : Nat) : Prop where
  lo : 2 ^ (k - 1) ≤ n
  hi : n < 2 ^ k
theorem pow2_mono {a b : Nat} (h : a ≤ b) : 2 ^ a ≤ 2 ^ b := Nat.pow_le_pow_right (by omega) h
theorem Bits.uniq {n j k : Nat} (h : Bits n j) (h' : Bits n k) (hj : 0 < j) (hk : 0 < k) : j = k := by
  rcases Nat.lt_trichotomy j k with e | e | e
  · have := pow2_mono (show j ≤ k - 1 by omega); have := h.hi; have := h'.lo; omega
  · exact e
  · have := pow2_mono (show k ≤ j - 1 by omega); have := h'.hi; have := h.lo; omega
theorem bits_words {lo : List Nat} {d k : Nat} (hl : ∀ x ∈ lo, x < 18446744073709551616) (hd : Bits d k) (hk : 0 < k) : Bits (val 18446744073709551616 (lo ++ [d])) (64 * lo.length + k) := by
  have hv : val 18446744073709551616 (lo ++ [d]) = val 18446744073709551616 lo + 2 ^ (64 * lo.length) * d := by
    rw [val_append, show (18446744073709551616 : Nat) = 2 ^ 64 from rfl, ← Nat.pow_mul]
    simp [val]
  have hlt := val_lt 18446744073709551616 lo hl
  rw [show (18446744073709551616 : Nat) ^ lo.length = 2 ^ (64 * lo.length) from by rw [Nat.pow_mul]] at hlt
  constructor
  · rw [hv, show 64 * lo.length + k - 1 = 64 * lo.length + (k - 1) from by omega, Nat.pow_add]
    have := Nat.mul_le_mul_left (2 ^ (64 * lo.length)) hd.lo
    omega
  · rw [hv, Nat.pow_add]
    have := Nat.mul_le_mul_left (2 ^ (64 * lo.length)) (show d + 1 ≤ 2 ^ k from hd.hi)
    rw [Nat.mul_add, Nat.mul_one] at this
    omega
theorem tab_less {n bl i : Nat} (hi : i < 4) (hb : Bits n bl) (h : tabB i < bl) : 10 ^ tabD i < n :=
  Nat.lt_of_lt_of_le (tab_hi hi) (Nat.le_trans (pow2_mono (by omega)) hb.lo)
theorem digs_len_bits {n k : Nat} (h1 : 18446744073709551616 ^ k ≤ n) (h2 : n < 18446744073709551616 ^ (k + 1)) : (digs 18446744073709551616 n).length = k + 1 := by
  have h3 := digs_len_le (b := 18446744073709551616) (by omega) h2
  rcases Nat.lt_or_ge (digs 18446744073709551616 n).length (k + 1) with h | h
  · have h4 := val_lt 18446744073709551616 _ (digs_lt 18446744073709551616 n (by omega))
    rw [val_digs _ _ (by omega)] at h4
    have := Nat.pow_le_pow_right (show 0 < 18446744073709551616 by omega) (show (digs 18446744073709551616 n).length ≤ k by omega)
    omega
  · omega
theorem tab_words {i : Nat} (h : i < 4) : (digs 18446744073709551616 (10 ^ tabD i)).length = tabW i := by
  have e : tabW i = (tabW i - 1) + 1 := by
    rcases i with _ | _ | _ | i <;> rfl
  rw [e]
  have h1 : ∀ k, (18446744073709551616 : Nat) ^ k = 2 ^ (64 * k) := fun k => by rw [Nat.pow_mul]
  refine digs_len_bits ?_ ?_
  · rw [h1]
    exact Nat.le_trans (pow2_mono (by rcases i with _ | _ | _ | i <;> simp [tabW, tabB])) (tab_lo h)
  · rw [h1, ← e]
    exact Nat.lt_of_lt_of_le (tab_hi h) (pow2_mono (by rcases i with _ | _ | _ | i <;> simp [tabW, tabB]))
end Go.Proofs.YtgfkdjmoflbmdaaGreatDoor.Pl
namespace Go.Proofs.YtgfkdjmoflbmdaaGreatDoor
open Go.RowKit
open Go.Proofs
namespace Pl
def shortB (xs : List Bytes) : Bool := xs.all (fun x => decide (x.length ≤ 1500)) && decide (xs.length ≤ 150)
theorem shortB_bad {xs : List Bytes} {k : Nat} (h : k < xs.length) (hk : 1500 < xs[k].length) : shortB xs = false := by
  have : xs.all (fun x => decide (x.length ≤ 1500)) = false := by
    rw [List.all_eq_false]
    exact ⟨xs[k], List.getElem_mem _, by simpa using hk⟩
  rw [shortB, this, Bool.false_and]
theorem shortB_good {xs : List Bytes} (h : ∀ x ∈ xs.take xs.length, x.length ≤ 1500) : shortB xs = decide (xs.length ≤ 150) := by
  rw [List.take_length] at h
  have : xs.all (fun x => decide (x.length ≤ 1500)) = true := by
    rw [List.all_eq_true]
    exact fun x hx => by simpa using h x hx
  rw [shortB, this, Bool.true_and]
def numbersB (ns : List Nat) : Bool := ns.all (fun n => decide ((magOf n).length ≤ 1500)) && decide (ns.length ≤ 150)
theorem numbersB_bad {xs : List Nat} {k : Nat} (h : k < xs.length) (hk : 1500 < (magOf xs[k]).length) : numbersB xs = false := by
  have : xs.all (fun x => decide ((magOf x).length ≤ 1500)) = false := by
    rw [List.all_eq_false]
    exact ⟨xs[k], List.getElem_mem _, by simpa using hk⟩
  rw [numbersB, this, Bool.false_and]
theorem numbersB_good {xs : List Nat} (h : ∀ x ∈ xs.take xs.length, (magOf x).length ≤ 1500) : numbersB xs = decide (xs.length ≤ 150) := by
  rw [List.take_length] at h
  have : xs.all (fun x => decide ((magOf x).length ≤ 1500)) = true := by
    rw [List.all_eq_true]
    exact fun x hx => by simpa using h x hx
  rw [numbersB, this, Bool.true_and]
theorem take_all {α : Type} {P : α → Prop} {xs : List α} {k : Nat} (h : ∀ x ∈ xs.take k, P x) (hk : k < xs.length) (hx : P xs[k]) : ∀ x ∈ xs.take (k + 1), P x := by
  intro x hm
  rw [List.take_succ_eq_append_getElem hk, List.mem_append] at hm
  rcases hm with hm | hm
  · exact h x hm
  · rw [List.mem_singleton] at hm; subst hm; exact hx
end Pl
theorem short_any (A : Option Addr) (c : Nat) (xs : List Pl.Bytes) (w : World) (hr : Rd w 1 A xs.length (xs.map S)) (hl : xs.length ≤ 1000000) (hm : ∀ s ∈ xs, s.length ≤ maxLen) :
    Calls Tryz.prog 29 #[.slice A xs.length c] w fun e w' => e = .returned (.bool (Pl.shortB xs)) ∧ w = w' := by
  have HM := Lib.hid hm
  clear hm
  go_enter Tryz.func29, Tryz.ntmps29
  go_wp2
  go_loopw [7] (fun i wr => ∃ k : Nat, k ≤ xs.length ∧ i = .int .i64 k ∧ (∀ x ∈ xs.take k, x.length ≤ 1500) ∧ w = wr) (fun i _ => xs.length - (intOf i).toNat)
  case atStart => exact ⟨0, Nat.zero_le _, rfl, by simp, rfl⟩
  case round =>
    obtain ⟨k, hk, rfl, hgood, rfl⟩ := hrel
    have HG := Lib.hid hgood
    clear hgood
    by_cases ha : k < xs.length
    · obtain ⟨b1, o1, rfl, hc⟩ := hr.str_at ha
      have hxm := HM.out xs[k] (List.getElem_mem ha)
      obtain ⟨x, hx⟩ : ∃ x, xs[k] = x := ⟨_, rfl⟩
      rw [hx] at hc hxm
      have HX := Lib.hid hx
      clear hx
      unfold maxLen at hxm
      by_cases hlen : 1500 < x.length
      · go_wp2
        go_ret
        exact ⟨ret_bool (by rw [Pl.shortB_bad ha (by rw [HX.out]; exact hlen)]), rfl⟩
      · go_wp2
        go_roundw
        case rel => exact ⟨k + 1, by omega, by go_num, Pl.take_all HG.out ha (by rw [HX.out]; omega), trivial⟩
        case measure => simp [intOf]; omega
    · obtain rfl : k = xs.length := by omega
      have hgd := Pl.shortB_good HG.out
      have HGD := Lib.hid hgd
      clear hgd
      by_cases h150 : (xs.length : Int) ≤ 150
      · go_wp2
        go_ret
        exact ⟨ret_bool (by rw [HGD.out]; simp; omega), rfl⟩
      · go_wp2
        go_ret
        exact ⟨ret_bool (by rw [HGD.out]; simp; omega), rfl⟩
set_option maxHeartbeats 1000000 in
theorem numbers_any (A : Option Addr) (c : Nat) (ns : List Nat) (w : World) (hr : Rd w 2 A ns.length (IntC ns)) (hl : ns.length ≤ 1000000) (hm : ∀ n ∈ ns, (Pl.magOf n).length ≤ 30000) :
    Calls Tryz.prog 44 #[.slice A ns.length c] w fun e w' => e = .returned (.bool (Pl.numbersB ns)) ∧ Below w.heap.size w w' := by
  have HM := Lib.hid hm
  clear hm
  go_enter Tryz.func44, Tryz.ntmps44
  go_wp2
  go_loopw [7] (fun i wr => ∃ k : Nat, k ≤ ns.length ∧ i = .int .i64 k ∧ (∀ x ∈ ns.take k, (Pl.magOf x).length ≤ 1500) ∧ Below w.heap.size w wr) (fun i _ => ns.length - (intOf i).toNat)
  case atStart => exact ⟨0, Nat.zero_le _, rfl, by simp, Below.refl _ _⟩
  case round =>
    obtain ⟨k, hk, rfl, hgood, hbel⟩ := hrel
    have HG := Lib.hid hgood
    clear hgood
    by_cases ha : k < ns.length
    · obtain ⟨b1, o1, rfl, hc0, hc1⟩ := (hr.below hbel).int_at ha
      obtain ⟨l1, l2, l3, l4⟩ := cell_lts hc0
      have hxm := HM.out ns[k] (List.getElem_mem ha)
      obtain ⟨x, hx⟩ : ∃ x, Pl.magOf ns[k] = x := ⟨_, rfl⟩
      have hno := NoZ_mag ns[k]
      rw [hx] at hc1 hxm hno
      have HX := Lib.hid hx
      have HNO := Lib.hid hno
      clear hx hno
      have hBlk : Blk (wr.alloc (.cells #[.bool false, S x] 46)) wr.heap.size 46 #[.bool false, S x] := Blk.new _ _ _
      have HB := Lib.hid hBlk
      clear hBlk
      by_cases hlen : 1500 < x.length
      · go_wp2_with fail
        refine (IntOK_any ⟨x.toArray⟩ _ hxm HNO.out).mono ?_; rintro e w1 ⟨rfl, hb1⟩
        have hcx := (HB.out.below hb1 HB.out.lt).cell 1
        simp at hcx
        go_wp2
        go_ret
        exact ⟨ret_bool (by rw [Pl.numbersB_bad ha (by rw [HX.out]; exact hlen)]), (hbel.alloc hbel.size _).trans (hb1.mono (by simp; have := hbel.size; omega))⟩
      · go_wp2_with fail
        refine (IntOK_any ⟨x.toArray⟩ _ hxm HNO.out).mono ?_; rintro e w1 ⟨rfl, hb1⟩
        have hcx := (HB.out.below hb1 HB.out.lt).cell 1
        simp at hcx
        go_wp2
        go_roundw
        case rel => exact ⟨k + 1, by omega, by go_num, Pl.take_all HG.out ha (by rw [HX.out]; omega), (hbel.alloc hbel.size _).trans (hb1.mono (by simp; have := hbel.size; omega))⟩
        case measure => simp [intOf]; omega
    · obtain rfl : k = ns.length := by omega
      have hgd := Pl.numbersB_good HG.out
      have HGD := Lib.hid hgd
      clear hgd
      by_cases h150 : (ns.length : Int) ≤ 150
      · go_wp2
        go_ret
        exact ⟨ret_bool (by rw [HGD.out]; simp; omega), hbel⟩
      · go_wp2
        go_ret
        exact ⟨ret_bool (by rw [HGD.out]; simp; omega), hbel⟩
end Go.Proofs.YtgfkdjmoflbmdaaGreatDoor
