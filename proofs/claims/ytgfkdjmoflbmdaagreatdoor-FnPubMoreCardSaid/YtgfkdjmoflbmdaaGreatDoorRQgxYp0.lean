/- Contracts; Contracts; Contracts; Words. -/
import Derived.Test.YtgfkdjmoflbmdaaGreatDoorRQfxXh
namespace Go.Proofs.YtgfkdjmoflbmdaaGreatDoor
open Go.RowKit
open Go.Proofs
theorem lsh_any (b o cz bx ox cx s : Nat) (xs : List Nat) (l : List Value) (w : World) (h0 : 0 < xs.length) (hl : xs.length ≤ 1000000) (hs0 : 0 < s) (hs : s < 64) (hB : Blk w b 179 l.toArray) (hfit : o + xs.length ≤ l.length) (hxlt : ∀ d ∈ xs, d < M)
    (hX : SrcD w b o xs.length bx ox xs) :
    Calls Tryz.prog 234 #[.slice (some ⟨b, o, none⟩) xs.length cz, .slice (some ⟨bx, ox, none⟩) xs.length cx, .int .u64 (s : Int)] w fun e w' =>
      e = .returned (.int .u64 ((Pl.shlO (2 ^ (64 - s)) xs 0 : Nat) : Int)) ∧ Blk w' b 179 (splice l o (WC (Pl.shlV (2 ^ s) (2 ^ (64 - s)) xs 0))).toArray ∧ w.grownBy w' (some b) := by
  have HC := Lib.hid (lshg_any b o cz bx ox cx s xs l w h0 hl hs0 hs hB hfit hxlt hX)
  clear hX hB
  go_enter Tryz.func234, Tryz.ntmps234
  go_wp2_with fail
  refine HC.out.mono ?_; rintro e w1 ⟨rfl, h1, h2⟩
  go_wp2
  go_ret
  exact ⟨rfl, h1, h2⟩
theorem or_low {x p s t : Nat} (h : s + t = 64) (hp : p < M) : bits .or .u64 ((p / 2 ^ s : Nat) : Int) (((x % 2 ^ s) * 2 ^ t : Nat) : Int) = ((p / 2 ^ s + (x % 2 ^ s) * 2 ^ t : Nat) : Int) := by
  have h2 := two_st h
  have hS : 0 < 2 ^ s := Nat.pow_pos (by omega)
  have hT : 0 < 2 ^ t := Nat.pow_pos (by omega)
  have hq : p / 2 ^ s < 2 ^ t := by rw [Nat.div_lt_iff_lt_mul hS, Nat.mul_comm, h2]; exact hp
  have hx : (x % 2 ^ s) * 2 ^ t < M := by
    rw [← h2]
    exact Nat.mul_lt_mul_of_pos_right (Nat.mod_lt _ hS) hT
  have hqM : p / 2 ^ s < M := Nat.lt_of_le_of_lt (Nat.div_le_self _ _) hp
  have e64 : (2 : Int) ^ 64 = 18446744073709551616 := by decide
  rw [M_eq] at hx hqM
  have eT : (2 : Int) ^ t = ((2 ^ t : Nat) : Int) := by simp
  have hm : ((((x % 2 ^ s) * 2 ^ t : Nat) : Int)) % ((2 ^ t : Nat) : Int) = 0 := by rw [← Int.natCast_emod, Nat.mul_mod_left]; rfl
  generalize (x % 2 ^ s) * 2 ^ t = A at *
  generalize p / 2 ^ s = q at *
  rw [bits_join_low .u64 64 (by decide) wraps_u64 t (q : Int) (A : Int) (by omega) (by rw [eT]; omega) (by rw [e64]; omega) (by omega) (by rw [eT]; exact hm) (by rw [e64]; omega)]
  omega
set_option maxRecDepth 100000 in
set_option maxHeartbeats 2000000 in
theorem rshg_any (b o cz bx ox cx s : Nat) (xs : List Nat) (l : List Value) (w : World) (h0 : 0 < xs.length) (hl : xs.length ≤ 1000000) (hs0 : 0 < s) (hs : s < 64) (hB : Blk w b 179 l.toArray) (hfit : o + xs.length ≤ l.length) (hxlt : ∀ d ∈ xs, d < M)
    (hX : Src w b o xs.length bx ox xs) :
    Calls Tryz.prog 205 #[.slice (some ⟨b, o, none⟩) xs.length cz, .slice (some ⟨bx, ox, none⟩) xs.length cx, .int .u64 (s : Int)] w fun e w' =>
      (∃ c : Nat, e = .returned (.int .u64 (c : Int))) ∧ Blk w' b 179 (splice l o (WC (Pl.shrV (2 ^ s) (2 ^ (64 - s)) xs))).toArray ∧ w.grownBy w' (some b) := by
  have HX := Lib.hid hX
  have HB := Lib.hid hB
  have HXL := Lib.hid hxlt
  have hs1 : ((s : Int) == 0) = false := by rw [beq_eq_false_iff_ne]; omega
  have hn1 : ((xs.length : Int) == 0) = false := by rw [beq_eq_false_iff_ne]; omega
  have cl := hX.at_ 0 h0
  rw [Nat.add_zero] at cl
  obtain ⟨t, ht⟩ : ∃ t, s + t = 64 := ⟨64 - s, by omega⟩
  rw [show 64 - s = t from by omega]
  have ha1 := and63 s hs
  have ha2 : IntKind.u64.wrap (64 - (s : Int)) = (t : Int) := by rw [IntKind.wrap_u64]; omega
  have ha3 := and63 t (by omega)
  have ht1 : (0 : Int) ≤ (t : Int) := by omega
  have ht2 : (t : Int) ≤ 64 := by omega
  have hs2 : (0 : Int) ≤ (s : Int) := by omega
  have hs3 : (s : Int) ≤ 64 := by omega
  have HT := Lib.hid ht
  have HT2 := Lib.hid (show t + s = 64 from by omega)
  obtain ⟨R, hR⟩ : ∃ R, Pl.shrV (2 ^ s) (2 ^ t) xs = R := ⟨_, rfl⟩
  have hRl := Pl.shrV_len (2 ^ s) (2 ^ t) xs
  have HST := Lib.hid (fun k (hk : k + 1 < xs.length) => Pl.shrV_get (S := 2 ^ s) (T := 2 ^ t) hk)
  have HTOP := Lib.hid (fun k (hk : k + 1 = xs.length) => Pl.shrV_top (S := 2 ^ s) (T := 2 ^ t) hk)
  rw [hR] at hRl HST HTOP ⊢
  obtain ⟨z, hz⟩ : ∃ z, xs[0] = z := ⟨_, rfl⟩
  rw [hz] at cl
  have hzd := wrap_shl (x := z) HT2.out
  obtain ⟨zq, hzq⟩ : ∃ zq, (z % 2 ^ s) * 2 ^ t = zq := ⟨_, rfl⟩
  rw [hzq] at hzd
  clear hX hB hxlt ht hR hz hzq
  go_enter Tryz.func205, Tryz.ntmps205
  go_wp2_with fail
  go_loopw [8] (fun iv wr => ∃ k : Nat, k + 1 ≤ xs.length ∧ iv = .int .i64 ((k + 1 : Nat) : Int) ∧ Blk wr b 179 (splice l o (WC (R.take k))).toArray ∧ w.grownBy wr (some b)) (fun iv _ => xs.length - (intOf iv).toNat)
  case atStart => exact ⟨0, by omega, rfl, by simpa [WC, splice_nil] using HB.out, World.grownBy.refl _ _⟩
  case round =>
    obtain ⟨k, hk, rfl, hblk, hgr⟩ := hrel
    have htl : (R.take k).length = k := by rw [List.length_take]; omega
    have hzf : o + (WC (R.take k)).length ≤ l.length := by rw [WC_len, htl]; omega
    have hslen : (splice l o (WC (R.take k))).length = l.length := splice_len hzf
    have cx := HX.out.read HB.out hblk hgr hzf (k := k) (by omega) (by rw [WC_len, htl]; exact Nat.le_refl _)
    have hxM := HXL.out xs[k] (List.getElem_mem (by omega))
    have hzc : ∃ u, wr.cell? ⟨b, o + k, none⟩ = some u := by
      rw [hblk.cell (o + k)]
      exact ⟨_, Array.getElem?_eq_getElem (h := by simp only [List.size_toArray]; omega)⟩
    have hup := splice_up (l := l) (o := o) (zs := WC (R.take k)) (by rw [WC_len, htl]; omega)
    rw [WC_len, htl] at hup
    obtain ⟨u, hzc⟩ := hzc
    have hzz := hblk.frozen (o + k)
    by_cases hk1 : k + 1 < xs.length
    · have cy := HX.out.read HB.out hblk hgr hzf (k := k + 1) hk1 (by rw [WC_len, htl]; omega)
      have hst := HST.out k hk1
      obtain ⟨x, hx⟩ : ∃ x, xs[k] = x := ⟨_, rfl⟩
      obtain ⟨y, hy⟩ : ∃ y, xs[k + 1] = y := ⟨_, rfl⟩
      rw [hx] at cx hst hxM
      rw [hy] at cy hst
      have e1 := wrap_shl (x := y) HT2.out
      have e2 := div_shr x s
      have e3 := or_low (x := y) HT.out hxM
      obtain ⟨A, hA⟩ : ∃ A, (y % 2 ^ s) * 2 ^ t = A := ⟨_, rfl⟩
      obtain ⟨q, hq⟩ : ∃ q, x / 2 ^ s = q := ⟨_, rfl⟩
      rw [hA] at e1 e3 hst
      rw [hq] at e2 e3 hst
      obtain ⟨d, hd⟩ : ∃ d, q + A = d := ⟨_, rfl⟩
      rw [hd] at e3 hst
      have HSTK := Lib.hid hst
      have HUP := Lib.hid (hup (.int .u64 (d : Int)))
      have hki : ((k + 1 : Nat) : Int) - 1 = (k : Int) := by omega
      have hkw : IntKind.i64.wrap (((k + 1 : Nat) : Int) - 1) = (k : Int) := by rw [hki]; exact IntWalk.i64_in _ (by omega)
      have HKI := Lib.hid hki
      obtain ⟨k1, hk1e⟩ : ∃ k1 : Nat, k + 1 = k1 := ⟨_, rfl⟩
      rw [hk1e] at cy hk1 hkw hki ⊢
      have HK1 := Lib.hid hk1e
      have hkl : k < xs.length := by omega
      have hkz : (k : Int) < (xs.length : Int) := by omega
      have hk0 : (0 : Int) ≤ (k : Int) := by omega
      clear hup hst hx hy hd hA hq htl hzf hslen hk1e hki
      go_wp2_with fail
      go_region_with (fail)
      all_goals
        go_wp2
        have e : (splice l o (WC (R.take (k + 1)))).toArray = ((splice l o (WC (R.take k))).toArray).setIfInBounds (o + k) (.int .u64 (d : Int)) := by rw [HSTK.out, HUP.out, WC_snoc]
        refine ⟨⟨k1, by omega, by go_num, ?_, hgr.trans (grown_drew (grown_set _ _ _ _))⟩, by simp [intOf]; omega⟩
        rw [← HK1.out, e]
        exact hblk.set_ _ _
    · have hkn : k + 1 = xs.length := by omega
      have hst := HTOP.out k hkn
      obtain ⟨x, hx⟩ : ∃ x, xs[k] = x := ⟨_, rfl⟩
      rw [hx] at cx hst
      have e2 := div_shr x s
      obtain ⟨q, hq⟩ : ∃ q, x / 2 ^ s = q := ⟨_, rfl⟩
      rw [hq] at e2 hst
      have HSTK := Lib.hid hst
      have HUP := Lib.hid (hup (.int .u64 (q : Int)))
      have hki : (xs.length : Int) - 1 = (k : Int) := by omega
      have hkw : IntKind.i64.wrap ((xs.length : Int) - 1) = (k : Int) := by rw [hki]; exact IntWalk.i64_in _ (by omega)
      clear hup hst hx hq htl hzf hslen hki
      rw [hkn]
      go_wp2
      have e : (splice l o (WC R)).toArray = ((splice l o (WC (R.take k))).toArray).setIfInBounds (o + k) (.int .u64 (q : Int)) := by rw [HUP.out, ← WC_snoc, ← HSTK.out]
      go_ret
      refine ⟨⟨_, rfl⟩, ?_, hgr.trans (grown_set _ _ _ _)⟩
      rw [e]
      exact hblk.set_ _ _
theorem rsh_any (b o cz bx ox cx s : Nat) (xs : List Nat) (l : List Value) (w : World) (h0 : 0 < xs.length) (hl : xs.length ≤ 1000000) (hs0 : 0 < s) (hs : s < 64) (hB : Blk w b 179 l.toArray) (hfit : o + xs.length ≤ l.length) (hxlt : ∀ d ∈ xs, d < M)
    (hX : Src w b o xs.length bx ox xs) :
    Calls Tryz.prog 193 #[.slice (some ⟨b, o, none⟩) xs.length cz, .slice (some ⟨bx, ox, none⟩) xs.length cx, .int .u64 (s : Int)] w fun e w' =>
      (∃ c : Nat, e = .returned (.int .u64 (c : Int))) ∧ Blk w' b 179 (splice l o (WC (Pl.shrV (2 ^ s) (2 ^ (64 - s)) xs))).toArray ∧ w.grownBy w' (some b) := by
  have HC := Lib.hid (rshg_any b o cz bx ox cx s xs l w h0 hl hs0 hs hB hfit hxlt hX)
  clear hX hB
  go_enter Tryz.func193, Tryz.ntmps193
  go_wp2_with fail
  refine HC.out.mono ?_; rintro e w1 ⟨⟨c, rfl⟩, h1, h2⟩
  go_wp2
  go_ret
  exact ⟨⟨c, rfl⟩, h1, h2⟩
theorem bytes_set (a : List Nat) (x y : Nat) (r : List Nat) : (B8 (a ++ x :: r)).set a.length (.int .u8 (y : Int)) = B8 (a ++ y :: r) := by
  simp [B8]
def BufAt (w : World) (g m i : Nat) (bs : List Nat) : Prop := Blk w g 5 (B8 (List.replicate i 0 ++ bs.reverse)).toArray ∧ i + bs.length = m
theorem BufAt.cellAt {w : World} {g m i : Nat} {bs : List Nat} (h : BufAt w g m i bs) {j : Nat} (hj : j < m) : ∃ u, w.cell? ⟨g, j, none⟩ = some u := by
  rw [h.1.cell j]
  have : j < (B8 (List.replicate i 0 ++ bs.reverse)).toArray.size := by have := h.2; simp [B8]; omega
  exact ⟨_, Array.getElem?_eq_getElem this⟩
theorem BufAt.put {w : World} {g m i : Nat} {bs : List Nat} (h : BufAt w g m (i + 1) bs) (x : Nat) : BufAt (w.setCell ⟨g, i, none⟩ (.int .u8 (x : Int))) g m i (bs ++ [x]) := by
  refine ⟨?_, by have := h.2; simp; omega⟩
  have := h.1.set_ i (.int .u8 (x : Int))
  have e : (B8 (List.replicate (i + 1) 0 ++ bs.reverse)).set i (.int .u8 (x : Int)) = B8 (List.replicate i 0 ++ (bs ++ [x]).reverse) := by
    have h2 := bytes_set (List.replicate i 0) 0 x bs.reverse
    rw [List.length_replicate] at h2
    rw [show List.replicate (i + 1) 0 ++ bs.reverse = List.replicate i 0 ++ 0 :: bs.reverse from by rw [List.replicate_succ', List.append_assoc]; rfl, h2]
    simp
  rw [show (B8 (List.replicate (i + 1) 0 ++ bs.reverse)).toArray.setIfInBounds i (.int .u8 (x : Int)) = ((B8 (List.replicate (i + 1) 0 ++ bs.reverse)).set i (.int .u8 (x : Int))).toArray from by simp, e] at this
  exact this
def BytesBack (w : World) (g : Nat) (ws : List Nat) (e : Ending) (w' : World) : Prop :=
  ∃ i : Nat, i ≤ 8 * ws.length ∧ e = .returned (.int .i64 (i : Int)) ∧ BufAt w' g (8 * ws.length) 0 (Pl.lew ws) ∧ w.grownBy w' (some g) ∧
    (∀ d ∈ (Pl.lew ws).reverse.take i, d = 0) ∧ (i = (Pl.lew ws).length ∨ (Pl.lew ws).reverse[i]? ≠ some 0)
set_option maxRecDepth 100000 in
set_option maxHeartbeats 1000000 in
theorem natBytes_any (A : Option Addr) (c g : Nat) (ws : List Nat) (w : World) (hr : Rd w 1 A ws.length (WC ws)) (hne : ∀ b o, A = some ⟨b, o, none⟩ → b ≠ g) (hl : ws.length ≤ 100000) (hlt : ∀ d ∈ ws, d < M)
    (hB : BufAt w g (8 * ws.length) (8 * ws.length) []) (cb : Nat) :
    Calls Tryz.prog 159 #[.slice A ws.length c, .slice (some ⟨g, 0, none⟩) (8 * ws.length) cb] w (BytesBack w g ws) := by
  have HLT := Lib.hid hlt
  clear hlt
  have HNE := Lib.hid hne
  clear hne
  go_enter Tryz.func159, Tryz.ntmps159
  go_wp2
  go_loopw [4, 12] (fun iv kv wr => ∃ k : Nat, k ≤ ws.length ∧ kv = .int .i64 (k : Int) ∧ iv = .int .i64 ((8 * (ws.length - k) : Nat) : Int) ∧ BufAt wr g (8 * ws.length) (8 * (ws.length - k)) (Pl.lew (ws.take k)) ∧ w.grownBy wr (some g)) (fun _ kv _ => ws.length - (intOf kv).toNat)
  case atStart => exact ⟨0, Nat.zero_le _, rfl, by simp, hB, World.grownBy.refl _ _⟩
  case round =>
    obtain ⟨k, hk, rfl, rfl, hbuf, hgr⟩ := hrel
    by_cases hkl : k < ws.length
    · obtain ⟨b, o, rfl, hc⟩ := hr.2 (by omega)
      have hbg := HNE.out b o rfl
      have hcell := hgr.cell (hc k _ (WC_get ws k hkl)) (by simpa using hbg)
      have hdM : ws[k] < 18446744073709551616 := HLT.out _ (List.getElem_mem hkl)
      have htk : ws.take (k + 1) = ws.take k ++ [ws[k]] := List.take_succ_eq_append_getElem hkl
      obtain ⟨d, hd⟩ : ∃ d, ws[k] = d := ⟨_, rfl⟩
      rw [hd] at hcell hdM htk
      have HTK := Lib.hid htk
      clear hd htk hc
      obtain ⟨m, hm⟩ : ∃ m, 8 * (ws.length - k) = m := ⟨_, rfl⟩
      have hm8 : 8 ≤ m ∧ m ≤ 8 * ws.length := by omega
      obtain ⟨hm8, hmn⟩ := hm8
      rw [hm] at hbuf ⊢
      have HM := Lib.hid hm
      clear hm
      go_wp2
      go_loopw [4, 6, 7] (fun iv dv jv wx => ∃ j : Nat, j ≤ 8 ∧ jv = .int .i64 (j : Int) ∧ dv = .int .u64 ((d / 256 ^ j : Nat) : Int) ∧ iv = .int .i64 ((m - j : Nat) : Int) ∧ BufAt wx g (8 * ws.length) (m - j) (Pl.lew (ws.take k) ++ Pl.le j d) ∧ w.grownBy wx (some g)) (fun _ _ jv _ => 8 - (intOf jv).toNat)
      case atStart => exact ⟨0, by omega, rfl, by simp, rfl, by simpa [Pl.le] using hbuf, hgr⟩
      case round =>
        obtain ⟨j, hj, rfl, rfl, rfl, hbufx, hgrx⟩ := hrel
        by_cases hj8 : j < 8
        · obtain ⟨i, hi⟩ : ∃ i, m - j = i + 1 := ⟨m - j - 1, by omega⟩
          have hi9 : i < 8 * ws.length := by omega
          rw [hi] at hbufx ⊢
          obtain ⟨u, hu⟩ := hbufx.cellAt (j := i) (by omega)
          have hf := hbufx.1.frozen i
          have hqM : d / 256 ^ j < 18446744073709551616 := Nat.lt_of_le_of_lt (Nat.div_le_self _ _) hdM
          have hle := Pl.le_snoc j d
          have hby := Pl.byte_at d j
          obtain ⟨q, hq⟩ : ∃ q, d / 256 ^ j = q := ⟨_, rfl⟩
          rw [hq] at hqM hle hby ⊢
          have HLE := Lib.hid hle
          have HBY := Lib.hid hby
          have HI := Lib.hid hi
          clear hle hby hq hi
          go_wp2
          go_roundw
          case rel =>
            refine ⟨j + 1, by omega, by go_num, ?_, ?_, ?_, hgrx.trans (grown_set _ _ _ _)⟩
            · rw [← HBY.out]; go_num
            · rw [show m - (j + 1) = i from by have := HI.out; omega]
            · have hput := hbufx.put (q % 256)
              rw [show ((q % 256 : Nat) : Int) = (q : Int) % 256 from by omega] at hput
              rw [show m - (j + 1) = i from by have := HI.out; omega, HLE.out, ← List.append_assoc]
              exact hput
          case measure => simp [intOf]; omega
        · obtain rfl : j = 8 := by omega
          go_wp2
          go_roundw
          case rel =>
            refine ⟨k + 1, by omega, by go_num, ?_, ?_, hgrx⟩
            · rw [show 8 * (ws.length - (k + 1)) = m - 8 from by have := HM.out; omega]
            · rw [show 8 * (ws.length - (k + 1)) = m - 8 from by have := HM.out; omega, HTK.out, Pl.lew_snoc]
              exact hbufx
          case measure => simp [intOf]; omega
    · obtain rfl : k = ws.length := by omega
      rw [List.take_length, Nat.sub_self, Nat.mul_zero] at hbuf
      rw [Nat.sub_self, Nat.mul_zero]
      obtain ⟨R, hR⟩ : ∃ R, (Pl.lew ws).reverse = R := ⟨_, rfl⟩
      have hRl : R.length = 8 * ws.length := by rw [← hR, List.length_reverse, Pl.lew_len]
      have hRlt : ∀ d ∈ R, d < 256 := fun d hd => Pl.lew_lt ws d (by rw [← hR] at hd; exact List.mem_reverse.1 hd)
      have hcells : ∀ j (h : j < R.length), wr.cell? ⟨g, j, none⟩ = some (.int .u8 ((R[j] : Nat) : Int)) := by
        intro j hj
        rw [hbuf.1.cell j]
        subst hR
        simp only [List.replicate_zero, List.nil_append]
        have := B8_get _ j hj
        simpa using this
      have HRR := Lib.hid hR
      have HRL := Lib.hid hRl
      have HRLT := Lib.hid hRlt
      have HC := Lib.hid hcells
      clear hR hRl hRlt hcells
      go_wp2
      go_loop [4] (fun iv => ∃ i : Nat, i ≤ 8 * ws.length ∧ iv = .int .i64 (i : Int) ∧ (∀ d ∈ R.take i, d = 0)) (fun iv => 8 * ws.length - (intOf iv).toNat)
      case atStart => exact ⟨0, Nat.zero_le _, rfl, by simp⟩
      case round =>
        obtain ⟨i, hi, rfl, hz⟩ := hrel
        have HZ := Lib.hid hz
        clear hz
        by_cases hin : i < 8 * ws.length
        · have hir : i < R.length := by rw [HRL.out]; exact hin
          have hcell := HC.out i hir
          have hx := HRLT.out _ (List.getElem_mem hir)
          obtain ⟨x, hxe⟩ : ∃ x, R[i]'hir = x := ⟨_, rfl⟩
          rw [hxe] at hcell hx
          have HX := Lib.hid hxe
          clear hxe
          by_cases hx0 : x = 0
          · subst hx0
            go_wp2
            go_round
            case rel =>
              refine ⟨i + 1, by omega, by go_num, ?_⟩
              intro d hd
              rw [List.take_succ_eq_append_getElem hir, HX.out] at hd
              rcases List.mem_append.1 hd with hd | hd
              · exact HZ.out d hd
              · simpa using hd
            case measure => simp [intOf]; omega
          · have hx1 : ((x : Int) == 0) = false := by rw [beq_eq_false_iff_ne]; omega
            go_wp2
            go_ret
            refine ⟨i, hi, rfl, hbuf, hgr, by rw [HRR.out]; exact HZ.out, Or.inr ?_⟩
            rw [HRR.out, List.getElem?_eq_getElem hir, HX.out]
            simpa using hx0
        · obtain rfl : i = 8 * ws.length := by omega
          go_wp2
          go_ret
          exact ⟨_, hi, rfl, hbuf, hgr, by rw [HRR.out]; exact HZ.out, Or.inl (Pl.lew_len ws).symm⟩
def signN (N : Nat) : Int := if N = 0 then 0 else 1
theorem digs_len_zero {N : Nat} : (Pl.digs M N).length = 0 ↔ N = 0 := by
  constructor
  · intro h
    have h1 := List.eq_nil_of_length_eq_zero h
    have h2 := Pl.val_digs M N M_two
    rw [h1] at h2; exact h2.symm
  · rintro rfl; rw [Pl.digs_zero]; rfl
theorem Sign_any (g B N : Nat) (w : World) (h : IntAt w g B false N) (_hl : (Pl.digs M N).length ≤ 900000) :
    Calls Tryz.prog 145 #[.pointer (some ⟨g, 0, none⟩)] w fun e w' => e = .returned (.int .i64 (signN N)) ∧ w = w' := by
  obtain ⟨v, hb, hn⟩ := h
  obtain ⟨A, c, rfl⟩ := own_form hn
  have c0 := hb.cell 0
  have c1 := hb.cell 1
  simp at c0 c1
  have hz := digs_len_zero (N := N)
  by_cases h0 : N = 0
  · have hz1 := hz.2 h0
    have HR := Lib.hid (show signN N = 0 from if_pos h0)
    rw [hz1] at c1
    clear hz hz1 h0 hn hb _hl
    go_enter Tryz.func145, Tryz.ntmps145
    go_wp2
    go_ret
    exact ⟨ret_int HR.out.symm, rfl⟩
  · have hz1 : (((Pl.digs M N).length : Int) == 0) = false := by rw [beq_eq_false_iff_ne]; have := mt hz.1 h0; omega
    have HR := Lib.hid (show signN N = 1 from if_neg h0)
    clear hz h0 hn hb
    go_enter Tryz.func145, Tryz.ntmps145
    go_wp2
    go_ret
    exact ⟨ret_int HR.out.symm, rfl⟩
theorem info5b : (Tryz.prog.info? 5).map (fun i => (i.zero, i.size, i.bytes)) = some (some (.int .u8 0), 1, 1) := by kernel_rfl
theorem mk_bytes (m : Nat) (hc : m ≤ 2000000) (w : World) : (Instr.makeSlice 91 (.int .i64 (m : Int)) (.int .i64 (m : Int))).run Tryz.prog w = .ok (.slice (some ⟨w.heap.size, 0, none⟩) m m) (w.alloc (.cells (madeCells #[.int .u8 0] m) 5)) := by
  obtain ⟨i0, hi, hz0, hz1, hz2⟩ := info_parts info5b
  have hr := run_make (P := Tryz.prog) w 91 5 i0 _ Tryz.underlying91 hi hz0 .i64 .i64 m m (by omega) (by omega) (by rw [hz2]; omega) (by omega)
  simp only [Int.toNat_natCast, hz1, Nat.mul_one] at hr
  exact hr
def BytesOut (w : World) (N : Nat) (e : Ending) (w' : World) : Prop :=
  ∃ A n c ds, e = .returned (.slice A n c) ∧ Rd w' 1 A n (B8 ds) ∧ ds.map UInt8.ofNat = Pl.magOf N ∧ Below w.heap.size w w'
set_option maxRecDepth 100000 in
theorem Bytes_any (g B N : Nat) (w : World) (h : IntAt w g B false N) (hl : (Pl.digs M N).length ≤ 100000) :
    Calls Tryz.prog 146 #[.pointer (some ⟨g, 0, none⟩)] w (BytesOut w N) := by
  obtain ⟨v, hb, hn⟩ := h
  obtain ⟨A, c, rfl⟩ := own_form hn
  have hlt := Pl.digs_lt M N M_two
  have hvd := Pl.val_digs M N M_two
  obtain ⟨ws, hws⟩ : ∃ ws, Pl.digs M N = ws := ⟨_, rfl⟩
  unfold NatAt at hn
  rw [hws] at hn hlt hvd hl hb
  have hrd := Rd.of_own hn
  have hAlt : ∀ b o, A = some ⟨b, o, none⟩ → b < w.heap.size := fun b o e => (World.ownsRow.lt hn b (by rw [e]; rfl)).2
  obtain ⟨W, hW⟩ : ∃ W, w.alloc (.cells (madeCells #[.int .u8 0] (8 * ws.length)) 5) = W := ⟨_, rfl⟩
  have hbW : Below w.heap.size w W := by rw [← hW]; exact (Below.refl _ _).alloc (Nat.le_refl _) _
  have hbuf : BufAt W w.heap.size (8 * ws.length) (8 * ws.length) [] := by
    refine ⟨?_, by simp⟩
    rw [← hW]
    have := Blk.new w 5 (madeCells #[.int .u8 0] (8 * ws.length))
    have e : (madeCells #[.int .u8 0] (8 * ws.length)) = (B8 (List.replicate (8 * ws.length) 0 ++ ([] : List Nat).reverse)).toArray := by
      apply Array.ext'
      rw [toList_madeCells_one]
      simp [B8]
    rw [← e]
    exact this
  have hmk : (Instr.makeSlice 91 (.int .i64 ((ws.length : Int) * 8)) (.int .i64 ((ws.length : Int) * 8))).run Tryz.prog w = .ok (.slice (some ⟨w.heap.size, 0, none⟩) (8 * ws.length) (8 * ws.length)) W := by
    have := mk_bytes (8 * ws.length) (by omega) w
    rw [hW] at this
    rw [← this]
    congr 3 <;> simp [Int.mul_comm]
  have c1 := hb.cell 1
  simp at c1
  have c1W : W.cell? ⟨g, 1, none⟩ = some (.slice A ws.length c) := (hbW.cell (p := ⟨g, 1, none⟩) hb.lt).trans c1
  have HB := Lib.hid (natBytes_any A c w.heap.size ws W (hrd.below hbW) (fun b o e => by have := hAlt b o e; omega) hl hlt hbuf (8 * ws.length))
  have hgl : g < w.heap.size := hb.lt
  have HVD := Lib.hid hvd
  have HLT := Lib.hid hlt
  have HWS := Lib.hid hws
  clear hb hn hrd hAlt hW hvd hlt hws hbuf
  go_enter Tryz.func146, Tryz.ntmps146
  go_wp2_with fail
  refine HB.out.mono ?_; rintro e w1 ⟨i, hi, rfl, hbf, hgr, hz, hs⟩
  have HZ := Lib.hid hz
  have HS := Lib.hid hs
  clear hz hs
  have hbel1 : Below w.heap.size w w1 := hbW.grown hgr hbW.size (fun k hk => by injection hk with hk; omega)
  have hmag : ((Pl.lew ws).reverse.drop i).map UInt8.ofNat = Pl.magOf N := by
    have := Pl.mag_of_buf (Pl.lew ws) i (Pl.lew_lt ws) (by rw [Pl.lew_len]; exact hi) HZ.out HS.out
    rw [this, Pl.lew_val ws HLT.out]
    exact congrArg Pl.magOf HVD.out
  have HMAG := Lib.hid hmag
  clear hmag
  by_cases hin : i = 8 * ws.length
  · subst hin
    go_wp2
    go_ret
    refine ⟨_, _, _, [], rfl, by rw [Nat.sub_self]; exact Rd.nil _ _ _, ?_, hbel1⟩
    rw [← HMAG.out, List.drop_of_length_le (by rw [List.length_reverse, Pl.lew_len]; exact Nat.le_refl _)]
  · have hin2 : i < 8 * ws.length := by omega
    go_wp2
    go_ret
    refine ⟨_, _, _, (Pl.lew ws).reverse.drop i, rfl, ⟨?_, fun _ => ⟨_, _, rfl, fun j u hu => ?_⟩⟩, HMAG.out, hbel1⟩
    · rw [B8_len, List.length_drop, List.length_reverse, Pl.lew_len]; omega
    · rw [hbf.1.cell (i + j), ← hu]
      simp [B8]
theorem zzPlain_any (Z B N : Nat) (w : World) (h : IntAt w Z B false N) (hl : (Pl.digs M N).length ≤ 100000) :
    Calls Tryz.prog 126 #[.pointer (some ⟨Z, 0, none⟩)] w fun e w' => e = .returned (.agg #[.bool false, S (Pl.magOf N)]) ∧ Below w.heap.size w w' := by
  have hs : ¬ signN N < 0 := by unfold signN; split <;> omega
  have HB := Lib.hid h
  obtain ⟨W, hW⟩ : ∃ W, w.alloc (.cells #[.bool false, .string ⟨#[]⟩] 118) = W := ⟨_, rfl⟩
  have hbW : Below w.heap.size w W := by rw [← hW]; exact (Below.refl _ _).alloc (Nat.le_refl _) _
  have hRW : Blk W w.heap.size 118 #[.bool false, .string ⟨#[]⟩] := by rw [← hW]; exact Blk.new _ _ _
  have HS := Lib.hid (Sign_any Z B N W (h.below hbW) (by omega))
  have HY := Lib.hid (Bytes_any Z B N W (h.below hbW) hl)
  have HW := Lib.hid hW
  clear hW h
  obtain ⟨q, hq⟩ : ∃ q, signN N = q := ⟨_, rfl⟩
  rw [hq] at HS hs
  clear hq
  go_enter Tryz.func126, Tryz.ntmps126
  go_wp2_with fail
  rw [HW.out]
  refine HS.out.mono ?_; rintro e w1 ⟨rfl, rfl⟩
  go_wp2_with fail
  refine HY.out.mono ?_; rintro e w2 ⟨A, n, c, ds, rfl, hrd, hm, hb2⟩
  have hR2 := hRW.below hb2 hRW.lt
  have c0 := hR2.cell 0
  have c1 := hR2.cell 1
  have f0 := hR2.frozen 0
  have f1 := hR2.frozen 1
  simp at c0 c1
  have HM := Lib.hid hm
  clear hm
  go_wp2_with (refine wpList_conv_S _ rfl (.tmp 7) 91 9 5 rfl Tryz.underlying91 Tryz.underlying5 Tryz.underlying9 A n c ds rfl hrd ?_)
  have hd : decide (q < 0) = false := by rw [decide_eq_false_iff_not]; omega
  refine bodyPost_ret (v := .agg #[.bool (decide (q < 0)), S (ds.map UInt8.ofNat)]) (by simp [results, Tryz.results126, go_sem, c0, c1]) rfl ⟨by rw [hd, HM.out], ?_⟩
  exact ((hbW.trans (hb2.mono hbW.size)).setCell (Nat.le_refl _) _).setCell (Nat.le_refl _) _
theorem wpList_app2 {P : Program} (w : World) {ops : Array Oper} {rest : List Oper} {o : Oper} {a : Act} {Q : Exit → Act → World → Prop} (hgd : o.guard = none) (s x : Operand) (t : TypeId)
    (ho : o.op = .call { callee := .builtin .append, args := #[s, x], argTypes := #[t, t] })
    (base : Nat) (e : TypeId) (i : TypeInfo) (z : Value) (bytes : Nat) (ht : P.underlying t = some (.slice e)) (hi : P.info? e = some i) (hz : i.zero = some z)
    (hsize : i.size = 2) (hby : i.bytes = bytes) (hzs : z.cells.size = 2)
    (v : Value) (n : Nat) (xs : List Value) (hs : a.eval s = v) (hown : w.ownsRow base e 2 v n xs)
    (u1 u2 : Value) (hx : a.eval x = .slice (some ⟨w.heap.size, 0, none⟩) 1 1) (h1 : u1.oneCell' = true) (h2 : u2.oneCell' = true) (hbt : bytes ≤ 64) (hn : n ≤ 1000000) (hbase : base ≤ w.heap.size)
    (h : ∀ g cap w', w'.ownsRow base e 2 (.slice (some ⟨g, 0, none⟩) (n + 1) cap) (n + 1) (xs ++ [u1, u2]) → w.grownBy w' v.ownBlock → (v.ownBlock = some g ∨ w.heap.size ≤ g) → Below base w w' →
      wpList P ops Q rest (a.put o.dst (.slice (some ⟨g, 0, none⟩) (n + 1) cap)) w') : wpList P ops Q (o :: rest) a (w.alloc (.cells #[u1, u2] e)) := by
  have hbytes : (n + 1) * bytes ≤ 140737488355328 :=
    Nat.le_trans (Nat.mul_le_mul (show n + 1 ≤ 1000001 by omega) hbt) (by omega)
  refine wpList_append_lies (w.alloc (.cells #[u1, u2] e)) hgd s x t ho base e i z 2 bytes ht hi hz hsize hby hzs (by omega) v n xs hs (hown.alloc _) ⟨w.heap.size, 0, none⟩ 1 1 [u1, u2] hx rfl
    (World.news_of_block (heap_alloc_new w _)) (by simp [h1, h2]) (by omega) (by unfold maxLen; omega) hbytes (by simp; omega) (w.heap.size + 1) (by simp) ?_
  intro g cap w' hown' hg hat _
  have hg2 : w.grownBy w' v.ownBlock := ⟨hg.os, hg.tape, hg.output, Nat.le_trans (by simp) hg.size, fun k hk hne => (hg.block k (by simp; omega) hne).trans (Below.heap_alloc _ _ _ hk)⟩
  refine h g cap w' hown' hg2 (hat.imp id (by omega)) ?_
  exact (Below.refl base w).grown hg2 hbase (fun k hk => (hown.lt k hk).1)
theorem IntC_snoc (ns : List Nat) (k : Nat) (h : k < ns.length) : IntC (ns.take k) ++ [.bool false, S (Pl.magOf ns[k])] = IntC (ns.take (k + 1)) := by
  rw [List.take_succ_eq_append_getElem h, IntC, IntC, List.flatMap_append]; rfl
theorem info118 : (Tryz.prog.info? 118).map (fun i => (i.zero, i.size, i.bytes)) = some (some (.agg #[.bool false, .string ⟨#[]⟩]), 2, 24) := by kernel_rfl
def PlainsBack (t : TypeId) (w : World) (ns : List Nat) (e : Ending) (w' : World) : Prop :=
  ∃ A c, e = .returned (.slice A ns.length c) ∧ w'.ownsRow w.heap.size t 2 (.slice A ns.length c) ns.length (IntC ns) ∧ Below w.heap.size w w'
set_option maxRecDepth 100000 in
set_option maxHeartbeats 1000000 in
theorem zzPlains_any (A : Option Addr) (c : Nat) (ns : List Nat) (w : World) (hB : Bigs w A ns) (hl : ns.length ≤ 40000) (hw : ∀ n ∈ ns, (Pl.digs M n).length ≤ 100000) :
    Calls Tryz.prog 109 #[.slice A ns.length c] w (PlainsBack 118 w ns) := by
  obtain ⟨i0, hi, hz0, hz1, hz2⟩ := info_parts info118
  have HW := Lib.hid hw
  clear hw
  go_enter Tryz.func109, Tryz.ntmps109
  go_wp2
  go_loopw [3, 8] (fun v iv wr => ∃ k : Nat, k ≤ ns.length ∧ iv = .int .i64 (k : Int) ∧ wr.ownsRow w.heap.size 118 2 v k (IntC (ns.take k)) ∧ Below w.heap.size w wr) (fun _ iv _ => ns.length - (intOf iv).toNat)
  case atStart => exact ⟨0, Nat.zero_le _, rfl, World.ownsRow_nil _ _ _ _, Below.refl _ _⟩
  case round =>
    obtain ⟨k, hk, rfl, hown, hbel⟩ := hrel
    by_cases hlt : k < ns.length
    · obtain ⟨b, o, Z, B, rfl, hc, hI⟩ := (hB.below hbel).at hlt
      have hwk := HW.out _ (List.getElem_mem hlt)
      have hsn := IntC_snoc ns k hlt
      obtain ⟨N, hN⟩ : ∃ N, ns[k] = N := ⟨_, rfl⟩
      rw [hN] at hI hwk hsn
      have HSN := Lib.hid hsn
      clear hN hsn
      have HI := Lib.hid hI
      clear hI
      go_wp2_with fail
      refine (zzPlain_any Z B N _ HI.out hwk).mono ?_; rintro e w1 ⟨rfl, hb1⟩
      have hown1 := own_below hown hb1
      have hbel1 := hbel.trans (hb1.mono hbel.size)
      go_wp2_with (at_builtin; refine wpList_app2 _ rfl (.tmp 12) (.tmp 15) 60 rfl w.heap.size 118 i0 _ 24 Tryz.underlying60 hi hz0 hz1 hz2 rfl _ _ _ rfl hown1 _ _ rfl rfl rfl (by omega) (by omega) hbel1.size ?_; intro g cap w2 hown2 hg2 hat2 hb2; clear hg2 hat2)
      go_roundw
      case rel => exact ⟨k + 1, by omega, by go_num, own_cast hown2 rfl HSN.out, hbel1.trans hb2⟩
      case measure => simp [intOf]; omega
    · obtain rfl : k = ns.length := by omega
      rw [List.take_length] at hown
      obtain ⟨A', c', rfl⟩ := own_form hown
      go_wp2
      go_ret
      exact ⟨A', c', rfl, hown, hbel⟩
set_option maxRecDepth 100000 in
set_option maxHeartbeats 1000000 in
theorem plains_any (A : Option Addr) (c : Nat) (ns : List Nat) (w : World) (hr : Rd w 2 A ns.length (IntC ns)) (hl : ns.length ≤ 40000) :
    Calls Tryz.prog 90 #[.slice A ns.length c] w (PlainsBack 46 w ns) := by
  obtain ⟨i0, hi, hz0, hz1, hz2⟩ := info_parts info46
  go_enter Tryz.func90, Tryz.ntmps90
  go_wp2
  go_loopw [3, 8] (fun v iv wr => ∃ k : Nat, k ≤ ns.length ∧ iv = .int .i64 (k : Int) ∧ wr.ownsRow w.heap.size 46 2 v k (IntC (ns.take k)) ∧ Below w.heap.size w wr) (fun _ iv _ => ns.length - (intOf iv).toNat)
  case atStart => exact ⟨0, Nat.zero_le _, rfl, World.ownsRow_nil _ _ _ _, Below.refl _ _⟩
  case round =>
    obtain ⟨k, hk, rfl, hown, hbel⟩ := hrel
    by_cases hlt : k < ns.length
    · obtain ⟨b, o, rfl, hc0, hc1⟩ := (hr.below hbel).int_at hlt
      obtain ⟨l1, l2, l3, l4⟩ := cell_lts hc0
      have hsn := IntC_snoc ns k hlt
      obtain ⟨x, hx⟩ : ∃ x, Pl.magOf ns[k] = x := ⟨_, rfl⟩
      rw [hx] at hc1 hsn
      have HSN := Lib.hid hsn
      clear hx hsn
      have hown1 := hown.alloc (.cells #[.bool false, S x] 118)
      have hbel1 := hbel.alloc hbel.size (.cells #[.bool false, S x] 118)
      have hs1 : w.heap.size ≤ (wr.alloc (.cells #[.bool false, S x] 118)).heap.size := hbel1.size
      go_wp2_with (at_builtin; refine wpList_app2 _ rfl (.tmp 12) (.tmp 14) 25 rfl w.heap.size 46 i0 _ 24 Tryz.underlying25 hi hz0 hz1 hz2 rfl _ _ _ rfl hown1 _ _ (show Value.slice (some ⟨wr.heap.size + 1, 0, none⟩) 1 1 = _ by rw [World.size_alloc]) rfl rfl (by omega) (by omega) hs1 ?_; intro g cap w2 hown2 hg2 hat2 hb2; clear hg2 hat2)
      go_roundw
      case rel => exact ⟨k + 1, by omega, by go_num, own_cast hown2 rfl HSN.out, hbel1.trans hb2⟩
      case measure => simp [intOf]; omega
    · obtain rfl : k = ns.length := by omega
      rw [List.take_length] at hown
      obtain ⟨A', c', rfl⟩ := own_form hown
      go_wp2
      go_ret
      exact ⟨A', c', rfl, hown, hbel⟩
def PartsBack (t : TypeId) (w : World) (v : Bool) (ns : List Nat) (bd og : ByteArray) (e : Ending) (w' : World) : Prop :=
  ∃ A c, e = .returned (.agg #[.bool v, .slice A ns.length c, .string bd, .string og]) ∧ w'.ownsRow w.heap.size t 2 (.slice A ns.length c) ns.length (IntC ns) ∧ Below w.heap.size w w'
theorem parts_end {w w1 : World} {g B n : Nat} {t tr : TypeId} {cs : Array Value} {sl : Value} {xs : List Value} (hown : w1.ownsRow B t 2 sl n xs) (hR : Blk w1 g tr cs) (ht : t ≠ tr) (hB : w.heap.size ≤ B) (hg : w.heap.size ≤ g) (hb : Below w.heap.size w w1) (a b c d : Value) :
    ((((w1.setCell ⟨g, 0, none⟩ a).setCell ⟨g, 1, none⟩ b).setCell ⟨g, 2, none⟩ c).setCell ⟨g, 3, none⟩ d).ownsRow w.heap.size t 2 sl n xs ∧ Below w.heap.size w ((((w1.setCell ⟨g, 0, none⟩ a).setCell ⟨g, 1, none⟩ b).setCell ⟨g, 2, none⟩ c).setCell ⟨g, 3, none⟩ d) := by
  have hne := own_blk_ne hown hR ht
  refine ⟨own_lower ?_ hB, (((hb.setCell hg _).setCell hg _).setCell hg _).setCell hg _⟩
  exact own_far (own_far (own_far (own_far hown hne _) hne _) hne _) hne _
def rcell (w : World) (a : Addr) : Value := (w.cell? a).getD undef
theorem rcell_at {w : World} {g i : Nat} {t : TypeId} {cs : Array Value} (h : Blk w g t cs) (hi : i < cs.size) : w.cell? ⟨g, i, none⟩ = some (rcell w ⟨g, i, none⟩) := by
  unfold rcell
  rw [h.cell i, Array.getElem?_eq_getElem hi]; rfl
structure TurnSt (t r : TypeId) (w : World) (v : Bool) (A : Option Addr) (n c : Nat) (bd og : ByteArray) (w' : World) : Prop where
  par : Blk w' w.heap.size t #[.bool v, .slice A n c, .string bd, .string og]
  res : ∃ cs, Blk w' (w.heap.size + 1) r cs ∧ cs.size = 4
  bel : Below w.heap.size w w'
section
variable {t r : TypeId} {w w' w1 : World} {v : Bool} {A : Option Addr} {n c : Nat} {bd og : ByteArray}
theorem TurnSt.start (h : (w.alloc (.cells #[.bool v, .slice A n c, .string bd, .string og] t)).alloc (.cells #[.bool false, .slice none 0 0, .string ⟨#[]⟩, .string ⟨#[]⟩] r) = w') : TurnSt t r w v A n c bd og w' := by
  refine ⟨?_, ⟨#[.bool false, .slice none 0 0, .string ⟨#[]⟩, .string ⟨#[]⟩], ?_, rfl⟩, ?_⟩
  · rw [← h]; exact (Blk.new _ _ _).alloc _
  · rw [← h]
    have := Blk.new (w.alloc (.cells #[.bool v, .slice A n c, .string bd, .string og] t)) r #[.bool false, .slice none 0 0, .string ⟨#[]⟩, .string ⟨#[]⟩]
    rw [World.size_alloc] at this
    exact this
  · rw [← h]; exact ((Below.refl _ _).alloc (Nat.le_refl _) _).alloc (by simp) _
theorem TurnSt.all (h : TurnSt t r w v A n c bd og w') :
    w'.cell? ⟨w.heap.size, 0, none⟩ = some (.bool v) ∧ w'.cell? ⟨w.heap.size, 1, none⟩ = some (.slice A n c) ∧ w'.cell? ⟨w.heap.size, 2, none⟩ = some (.string bd) ∧ w'.cell? ⟨w.heap.size, 3, none⟩ = some (.string og) ∧ w'.cell? ⟨w.heap.size + 1, 0, none⟩ = some (rcell w' ⟨w.heap.size + 1, 0, none⟩) ∧ w'.cell? ⟨w.heap.size + 1, 1, none⟩ = some (rcell w' ⟨w.heap.size + 1, 1, none⟩) ∧ w'.cell? ⟨w.heap.size + 1, 2, none⟩ = some (rcell w' ⟨w.heap.size + 1, 2, none⟩) ∧ w'.cell? ⟨w.heap.size + 1, 3, none⟩ = some (rcell w' ⟨w.heap.size + 1, 3, none⟩) ∧ w'.frozen? ⟨w.heap.size + 1, 0, none⟩ = false ∧ w'.frozen? ⟨w.heap.size + 1, 1, none⟩ = false ∧ w'.frozen? ⟨w.heap.size + 1, 2, none⟩ = false ∧ w'.frozen? ⟨w.heap.size + 1, 3, none⟩ = false ∧ TurnSt t r w v A n c bd og w' := by
  obtain ⟨cs, h1, h2⟩ := h.res
  exact ⟨by simpa using h.par.cell 0, by simpa using h.par.cell 1, by simpa using h.par.cell 2, by simpa using h.par.cell 3, rcell_at h1 (by omega), rcell_at h1 (by omega), rcell_at h1 (by omega), rcell_at h1 (by omega), h1.frozen 0, h1.frozen 1, h1.frozen 2, h1.frozen 3, h⟩
theorem TurnSt.drew (h : TurnSt t r w v A n c bd og w') : TurnSt t r w v A n c bd og w'.drew := ⟨h.par, h.res, h.bel.drew⟩
theorem TurnSt.below (h : TurnSt t r w v A n c bd og w') (hb : Below w'.heap.size w' w1) : TurnSt t r w v A n c bd og w1 := by
  obtain ⟨cs, h1, h2⟩ := h.res
  exact ⟨h.par.below hb h.par.lt, ⟨cs, h1.below hb h1.lt, h2⟩, h.bel.trans (hb.mono h.bel.size)⟩
theorem TurnSt.stored (h : TurnSt t r w v A n c bd og w') (x0 x1 x2 x3 : Value) :
    TurnSt t r w v A n c bd og ((((w'.setCell ⟨w.heap.size + 1, 0, none⟩ x0).setCell ⟨w.heap.size + 1, 1, none⟩ x1).setCell ⟨w.heap.size + 1, 2, none⟩ x2).setCell ⟨w.heap.size + 1, 3, none⟩ x3) := by
  have hne : w.heap.size ≠ w.heap.size + 1 := by omega
  obtain ⟨cs, h1, h2⟩ := h.res
  exact ⟨(((h.par.far hne _).far hne _).far hne _).far hne _, ⟨_, (((h1.set_ 0 x0).set_ 1 x1).set_ 2 x2).set_ 3 x3, by simp [h2]⟩, (((h.bel.setCell (by simp) _).setCell (by simp) _).setCell (by simp) _).setCell (by simp) _⟩
end
end Go.Proofs.YtgfkdjmoflbmdaaGreatDoor
