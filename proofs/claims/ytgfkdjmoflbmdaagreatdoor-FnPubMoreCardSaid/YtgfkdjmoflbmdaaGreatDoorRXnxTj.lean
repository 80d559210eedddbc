/- Contracts; Contract; Contract. -/
import Derived.Test.YtgfkdjmoflbmdaaGreatDoorRXcxXg
import Derived.Test.YtgfkdjmoflbmdaaGreatDoorRPlTxWl
import Derived.Deep.RegionWith
namespace Go.Proofs.YtgfkdjmoflbmdaaGreatDoor
open Go.RowKit
open Go.Proofs
theorem make_none (w : World) : Calls Tryz.prog 168 #[.slice none 0 0, .int .i64 0] w fun e w' => e = .returned (.slice none 0 0) ∧ w = w' := by
  go_enter Tryz.func168, Tryz.ntmps168
  go_wp2
  go_ret
  exact ⟨rfl, rfl⟩
def SetBytesBack (w : World) (N : Nat) (e : Ending) (w' : World) : Prop := ∃ v, e = .returned v ∧ NatAt w' w.heap.size v N ∧ Below w.heap.size w w'
theorem setBytes_nil (c : Nat) (A : Option Addr) (w : World) : Calls Tryz.prog 157 #[.slice none 0 0, .slice A 0 c] w (SetBytesBack w 0) := by
  have HN := Lib.hid (norm_any none 0 0 [] w rfl (Nat.le_refl _) (by omega) (Rd.nil _ _ _) (by simp))
  rw [show Pl.val M [] = 0 from rfl, Pl.digs_zero] at HN
  go_enter Tryz.func157, Tryz.ntmps157
  go_wp2_with fail
  refine (make_none w).mono ?_; rintro e w1 ⟨rfl, rfl⟩
  go_wp2
  go_loop [5] (fun iv => iv = .int .i64 0) (fun _ => 0)
  case atStart => rfl
  case round =>
    obtain rfl := hrel
    go_wp2_with (go_at_call 170; refine HN.out.mono ?_; rintro e w' ⟨rfl, _, _, rfl⟩)
    go_ret
    exact ⟨_, rfl, by unfold NatAt; rw [Pl.digs_zero]; exact World.ownsRow_nil _ _ _ _, Below.refl _ _⟩
theorem or_byte (d x j : Nat) (hd : d < 256 ^ j) (hx : x < 256) (hj : j < 8) : bits .or .u64 (d : Int) (IntKind.u64.wrap ((x : Int) * 2 ^ (8 * j))) = ((d + x * 256 ^ j : Nat) : Int) := by
  have e : (2 : Int) ^ (8 * j) = ((256 ^ j : Nat) : Int) := by
    rw [show ((256 ^ j : Nat) : Int) = (256 : Int) ^ j from by simp, Int.pow_mul]; rfl
  have h1 : 256 ^ j * 256 ≤ 18446744073709551616 := by
    have := Nat.pow_le_pow_right (n := 256) (by omega) (show j + 1 ≤ 8 by omega)
    rw [Nat.pow_succ] at this
    exact this
  have h2 : x * 256 ^ j ≤ 255 * 256 ^ j := Nat.mul_le_mul_right _ (by omega)
  have e2 : (x : Int) * ((256 ^ j : Nat) : Int) = ((x * 256 ^ j : Nat) : Int) := by simp
  rw [e, e2]
  rw [u64_wrap_id _ (by omega) (by omega)]
  rw [bits_join_low .u64 64 (by decide) wraps_u64 (8 * j) (d : Int) ((x * 256 ^ j : Nat) : Int) (by omega) (by rw [e]; omega) (by omega) (by omega) (by rw [e, ← e2]; exact Int.mul_emod_left _ _) (by omega)]
  omega
theorem rev_part (L : List Nat) (a r : Nat) (h : a + r ≤ L.length) : ((L.drop a).take r).reverse = (L.reverse.drop (L.length - a - r)).take r := by
  apply List.ext_getElem
  · simp; omega
  · intro i h1 h2
    simp only [List.length_reverse, List.length_take, List.length_drop] at h1
    rw [List.getElem_reverse, List.getElem_take, List.getElem_drop, List.getElem_take, List.getElem_drop, List.getElem_reverse]
    congr 1
    simp; omega
theorem ByAt.sub {w : World} {b o : Nat} {xs : List Nat} (h : ByAt w b o xs) (p r : Nat) : ByAt w b (o + p) ((xs.drop p).take r) := by
  intro j hj
  rw [List.length_take, List.length_drop] at hj
  have := h (p + j) (by omega)
  rw [show o + p + j = o + (p + j) from by omega, this]
  simp
theorem ByAt.keep {w w' : World} {b o : Nat} {xs : List Nat} (h : ByAt w b o xs) (hk : ∀ p u, p.block = b → w.cell? p = some u → w'.cell? p = some u) : ByAt w' b o xs := fun j hj => hk _ _ rfl (h j hj)
theorem Rd.of_words {w : World} {g : Nat} {ws : List Nat} {tl : List Value} (h : Blk w g 179 (WC ws ++ tl).toArray) : Rd w 1 (some ⟨g, 0, none⟩) ws.length (WC ws) := by
  refine ⟨by rw [WC_len]; omega, fun _ => ⟨g, 0, rfl, fun j u hu => ?_⟩⟩
  rw [Nat.zero_add, h.cell j]
  have hj := (List.getElem?_eq_some_iff.1 hu).1
  simp [List.getElem?_append_left hj, hu]
set_option maxRecDepth 100000 in
set_option maxHeartbeats 1000000 in
theorem setBytes_any (b o c : Nat) (L : List Nat) (w : World) (h0 : 0 < L.length) (hl : L.length ≤ 100000) (hc : L.length ≤ c) (hlt : ∀ d ∈ L, d < 256) (hB : ByAt w b o L.reverse) :
    Calls Tryz.prog 157 #[.slice none 0 0, .slice (some ⟨b, o, none⟩) L.length c] w (SetBytesBack w (Pl.val 256 L)) := by
  obtain ⟨m, hm⟩ : ∃ m, (L.length + 7) / 8 = m := ⟨_, rfl⟩
  have hm1 : 1 ≤ m ∧ m ≤ 100000 ∧ L.length ≤ 8 * m ∧ 8 * m < L.length + 8 := by omega
  obtain ⟨hm1, hm2, hm3, hm4⟩ := hm1
  have HLT := Lib.hid hlt
  have HB := Lib.hid hB
  have HMK := Lib.hid (make_any w.heap.size 0 0 m none [] w (World.ownsRow_nil _ _ _ _) hm1 (by omega) (Nat.le_refl _))
  have HM := Lib.hid hm
  clear hlt hB hm
  go_enter Tryz.func157, Tryz.ntmps157
  have hq : ((L.length : Int) + 8 - 1) / 8 = (m : Int) := by omega
  have HQ := Lib.hid hq
  clear hq
  go_wp2_with fail
  rw [HQ.out]
  refine HMK.out.mono ?_; rintro e w1 ⟨g, cap', tail, rfl, hg0, hBlk, hts, hmc, hcm, hb1, hor⟩
  clear hor
  have hbw : b < w.heap.size := World.block_lt_of_cell? w _ (HB.out 0 (by simpa using h0))
  have HB1 : Hid (ByAt w1 b o L.reverse) := Lib.hid (HB.out.keep fun p u hp hu => (hb1.cell (by omega)).trans hu)
  go_wp2
  go_loopw [5, 6] (fun iv kv wr => ∃ (k p : Nat) (ws : List Nat), ws.length = k ∧ 8 * k + p = L.length ∧ iv = .int .i64 (p : Int) ∧ kv = .int .i64 (k : Int) ∧ Blk wr g 179 (WC ws ++ tail.toList.drop k).toArray ∧ Pl.val M ws = Pl.val 256 (L.take (8 * k)) ∧ (∀ d ∈ ws, d < M) ∧ w1.grownBy wr (some g)) (fun iv _ _ => (intOf iv).toNat)
  case atStart => exact ⟨0, L.length, [], rfl, by omega, rfl, rfl, by simpa [WC] using hBlk, by simp [Pl.val], by simp, World.grownBy.refl _ _⟩
  case round =>
    obtain ⟨k, p, ws, hwk, hkp, rfl, rfl, hblk, hval, hws, hgr⟩ := hrel
    have HVAL := Lib.hid hval
    have HWS := Lib.hid hws
    have HWK := Lib.hid hwk
    clear hval hws hwk
    have HBR : Hid (ByAt wr b o L.reverse) := Lib.hid (HB1.out.keep fun p u hp hu => hgr.cell hu (by intro e; injection e with e; omega))
    by_cases h8 : 8 ≤ p
    · obtain ⟨q, rfl⟩ : ∃ q, p = q + 8 := ⟨p - 8, by omega⟩
      have hby : ByAt wr b (o + q) ((L.drop (8 * k)).take 8).reverse := by
        rw [rev_part L (8 * k) 8 (by omega), show L.length - 8 * k - 8 = q from by omega]
        exact HBR.out.sub q 8
      have hyl : ((L.drop (8 * k)).take 8).length = 8 := by simp; omega
      have hylt : ∀ y ∈ (L.drop (8 * k)).take 8, y < 256 := fun y hy => HLT.out y (List.mem_of_mem_drop (List.mem_of_mem_take hy))
      have HW := Lib.hid (beWord_any b (o + q) 8 (c - q) _ wr (by omega) (by omega) hyl hylt hby)
      have hst := Pl.word_step L ws k 8 HWK.out HVAL.out (by omega)
      have hwl := Pl.word_lt L HLT.out (8 * k) 8 (by omega)
      obtain ⟨x, hx⟩ : ∃ x, Pl.val 256 ((L.drop (8 * k)).take 8) = x := ⟨_, rfl⟩
      rw [hx] at HW hst hwl
      have HST := Lib.hid hst
      clear hst hx hby hyl hylt
      have hkm : k < m := by omega
      have hkc : k < cap' := by omega
      obtain ⟨u, hu⟩ : ∃ u, wr.cell? ⟨g, k, none⟩ = some u := by
        rw [hblk.cell k]
        have : k < (WC ws ++ tail.toList.drop k).toArray.size := by have := HWK.out; simp [WC]; omega
        exact ⟨_, Array.getElem?_eq_getElem this⟩
      have hf := hblk.frozen k
      go_wp2_with fail
      refine HW.out.mono ?_; rintro e w2 ⟨rfl, nq, rfl⟩
      have hblk2 : Blk (wr.drewN nq) g 179 (WC ws ++ tail.toList.drop k).toArray := hblk
      have hu2 : (wr.drewN nq).cell? ⟨g, k, none⟩ = some u := hu
      have hf2 : (wr.drewN nq).frozen? ⟨g, k, none⟩ = false := hf
      have hgr2 : w1.grownBy (wr.drewN nq) (some g) := hgr.trans (grown_drewN _ _ _)
      generalize wr.drewN nq = W2 at hblk2 hu2 hf2 hgr2 ⊢
      clear hu hf hblk hgr
      go_wp2
      go_roundw
      case rel =>
        refine ⟨k + 1, q, ws ++ [x], by simp [HWK.out], by omega, by go_num, by go_num, ?_, ?_, ?_, hgr2.trans (grown_set _ _ _ _)⟩
        · have := hblk2.set_ k (.int .u64 (x : Int))
          rw [set_mid (WC ws) tail.toList k (by rw [Array.length_toList]; omega) (by rw [WC_len, HWK.out])] at this
          rw [WC_append]; exact this
        · rw [show 8 * (k + 1) = 8 * k + 8 from by omega]; exact HST.out
        · intro d hd
          rcases List.mem_append.1 hd with hd | hd
          · exact HWS.out d hd
          · rw [List.mem_singleton] at hd; subst hd; exact hwl
      case measure => simp [intOf] <;> omega
    · by_cases hp0 : p = 0
      · subst hp0
        have hkm : k = m := by omega
        subst hkm
        have htk : L.take (8 * k) = L := List.take_of_length_le (by omega)
        have hrd := Rd.of_words hblk
        rw [HWK.out] at hrd
        have HN := Lib.hid (norm_any (some ⟨g, 0, none⟩) k cap' ws wr HWK.out hmc (by omega) hrd HWS.out)
        have HV2 : Hid (Pl.val M ws = Pl.val 256 L) := Lib.hid (by rw [HVAL.out, htk])
        rw [HV2.out] at HN
        clear htk hrd
        go_wp2_with (go_at_call 170; refine HN.out.mono ?_; rintro e w' ⟨rfl, hn1, hn2, rfl⟩)
        go_ret
        refine ⟨_, rfl, ?_, ?_⟩
        · unfold NatAt
          have := own_of_blk (base := w.heap.size) (n := (Pl.digs M (Pl.val 256 L)).length) (cap := cap') hblk hg0 (by have := HWK.out; omega) (by have := HWK.out; simp; omega) hcm
          rw [hn2] at this; exact this
        · exact hb1.grown hgr hb1.size (fun k hk => by injection hk with hk; omega)
      · have hm : m = k + 1 := by omega
        subst hm
        obtain ⟨R, hR⟩ : ∃ R, L.drop (8 * k) = R := ⟨_, rfl⟩
        have hRl : R.length = p := by rw [← hR, List.length_drop]; omega
        have hRlt : ∀ y ∈ R, y < 256 := fun y hy => HLT.out y (List.mem_of_mem_drop (by rw [hR]; exact hy))
        have hRc : ∀ j (h : j < R.length), wr.cell? ⟨b, o + (p - 1 - j), none⟩ = some (.int .u8 ((R[j] : Nat) : Int)) := by
          intro j hj
          rw [HBR.out (p - 1 - j) (by simp; omega), List.getElem_reverse]
          congr 3
          subst hR
          rw [List.getElem_drop]
          congr 1
          omega
        have HR := Lib.hid hR
        have HRL := Lib.hid hRl
        have HRLT := Lib.hid hRlt
        have HRC := Lib.hid hRc
        clear hR hRl hRlt hRc
        go_wp2
        go_loop [5, 7, 8] (fun iv dv sv => ∃ j : Nat, j ≤ p ∧ iv = .int .i64 ((p - j : Nat) : Int) ∧ dv = .int .u64 ((Pl.val 256 (R.take j) : Nat) : Int) ∧ sv = .int .u64 ((8 * j : Nat) : Int)) (fun iv _ _ => (intOf iv).toNat)
        case atStart => exact ⟨0, Nat.zero_le _, rfl, by simp [Pl.val], rfl⟩
        case round =>
          obtain ⟨j, hj, rfl, rfl, rfl⟩ := hrel
          by_cases hjp : j < p
          · obtain ⟨q, hq⟩ : ∃ q, p - j = q + 1 := ⟨p - j - 1, by omega⟩
            have hcell := HRC.out j (by rw [HRL.out]; exact hjp)
            have hx256 := HRLT.out _ (List.getElem_mem (show j < R.length by rw [HRL.out]; exact hjp))
            have hstep := Pl.byte_step R j (by rw [HRL.out]; exact hjp)
            have hvl := Pl.val_lt 256 (R.take j) (fun y hy => HRLT.out y (List.mem_of_mem_take hy))
            rw [List.length_take, HRL.out, Nat.min_eq_left (by omega)] at hvl
            obtain ⟨x, hx⟩ : ∃ x, R[j]'(by rw [HRL.out]; exact hjp) = x := ⟨_, rfl⟩
            obtain ⟨d, hd⟩ : ∃ d, Pl.val 256 (R.take j) = d := ⟨_, rfl⟩
            rw [hx] at hcell hx256 hstep
            rw [show p - 1 - j = q from by omega] at hcell
            rw [hd] at hstep hvl ⊢
            rw [hq]
            have HSTEP := Lib.hid hstep
            have HVL := Lib.hid hvl
            have HQ2 := Lib.hid hq
            have hql : q < L.length := by omega
            have hj7 : j < 7 := by omega
            clear hx hd hstep hvl hq
            go_wp2
            go_round
            case rel =>
              refine ⟨j + 1, by omega, ?_, ?_, ?_⟩
              · rw [show p - (j + 1) = q from by have := HQ2.out; omega]
              · rw [or_byte d x j HVL.out hx256 (by omega), HSTEP.out]
              · go_num
            case measure => simp [intOf] <;> omega
          · obtain rfl : j = p := by omega
            have htk : R.take j = R := List.take_of_length_le (by rw [HRL.out]; exact Nat.le_refl _)
            rw [htk]
            have hst := Pl.word_step L ws k j HWK.out HVAL.out (by omega)
            rw [HR.out, htk, show L.take (8 * k + j) = L from List.take_of_length_le (by omega)] at hst
            have hwl := Pl.word_lt L HLT.out (8 * k) j (by omega)
            rw [HR.out, htk] at hwl
            obtain ⟨x, hx⟩ : ∃ x, Pl.val 256 R = x := ⟨_, rfl⟩
            rw [hx] at hst hwl ⊢
            have hblk3 := hblk.set_ k (.int .u64 (x : Int))
            rw [set_mid (WC ws) tail.toList k (by rw [Array.length_toList]; omega) (by rw [WC_len, HWK.out])] at hblk3
            have hblk4 : Blk (wr.setCell ⟨g, k, none⟩ (.int .u64 (x : Int))) g 179 (WC (ws ++ [x]) ++ tail.toList.drop (k + 1)).toArray := by rw [WC_append]; exact hblk3
            have hrd := Rd.of_words hblk4
            rw [show (ws ++ [x]).length = k + 1 from by simp [HWK.out]] at hrd
            have hall : ∀ d ∈ ws ++ [x], d < M := by
              intro d hd
              rcases List.mem_append.1 hd with hd | hd
              · exact HWS.out d hd
              · rw [List.mem_singleton] at hd; subst hd; exact hwl
            have HN := Lib.hid (norm_any (some ⟨g, 0, none⟩) (k + 1) cap' (ws ++ [x]) _ (by simp [HWK.out]) hmc (by omega) hrd hall)
            rw [show Pl.val M (ws ++ [x]) = Pl.val 256 L from hst] at HN
            obtain ⟨u, hu⟩ : ∃ u, wr.cell? ⟨g, k, none⟩ = some u := by
              rw [hblk.cell k]
              have : k < (WC ws ++ tail.toList.drop k).toArray.size := by have := HWK.out; simp [WC]; omega
              exact ⟨_, Array.getElem?_eq_getElem this⟩
            have hf := hblk.frozen k
            have hkc : k < cap' := by omega
            have hgr3 : w1.grownBy (wr.setCell ⟨g, k, none⟩ (.int .u64 (x : Int))) (some g) := hgr.trans (grown_set _ _ _ _)
            have HX := Lib.hid hx
            clear hst hx htk hrd hall hblk3
            go_wp2_with (go_at_call 170; refine HN.out.mono ?_; rintro e w' ⟨rfl, hn1, hn2, rfl⟩)
            go_ret
            refine ⟨_, rfl, ?_, ?_⟩
            · unfold NatAt
              have := own_of_blk (base := w.heap.size) (n := (Pl.digs M (Pl.val 256 L)).length) (cap := cap') hblk4 hg0 (by have := HWK.out; simp; omega) (by have := HWK.out; simp; omega) hcm
              rw [hn2] at this; exact this
            · exact hb1.grown hgr3 hb1.size (fun k hk => by injection hk with hk; omega)
theorem shown_le_of {v n0 a k : Nat} (e : a + 1 = 3 * k) (h : v < 256 ^ n0) (hl : n0 ≤ k) : (Pl.shown v).length ≤ a + 1 := Pl.shown_len a v (by rw [e, Nat.pow_mul]; exact Nat.lt_of_lt_of_le h (Nat.le_trans (Nat.pow_le_pow_right (by omega) hl) (Nat.pow_le_pow_left (by decide) _)))
theorem Pl.div10_snoc : ∀ (a : List Nat) (x r : Nat), Pl.div10 (a ++ [x]) r = ((Pl.div10 a r).1 ++ [((Pl.div10 a r).2 * 256 + x) / 10], ((Pl.div10 a r).2 * 256 + x) % 10)
  | [], x, r => by simp [Pl.div10]
  | y :: a, x, r => by
    rw [List.cons_append, Pl.div10_cons, Pl.div10_snoc a x, Pl.div10_cons]
    rfl
abbrev U8s (l : List Nat) : Pl.Bytes := l.map UInt8.ofNat
theorem u8_nat {d : Nat} (h : d < 256) : (UInt8.ofNat d).toNat = d := by rw [UInt8.toNat_ofNat']; exact Nat.mod_eq_of_lt h
theorem any_zero {l : List Nat} {b : Bool} (h : b = l.any (fun d => d != 0)) : (b = false → ∀ d ∈ l, d = 0) ∧ (b = true → ∃ d ∈ l, d ≠ 0) := by
  subst h
  constructor
  · intro h d hd
    rw [List.any_eq_false] at h
    simpa using h d hd
  · intro h
    rw [List.any_eq_true] at h
    obtain ⟨d, hd, h⟩ := h
    exact ⟨d, hd, by simpa using h⟩
theorem cons_S (c : UInt8) (l : List UInt8) : Value.string ((⟨#[c]⟩ : ByteArray) ++ ⟨l.toArray⟩) = S (c :: l) := by
  have h : ((⟨#[c]⟩ : ByteArray) ++ ⟨l.toArray⟩).data.toList = c :: l := by simp
  rw [string_S, h]
set_option maxRecDepth 100000 in
set_option maxHeartbeats 2000000 in
theorem written_any (n : Nat) (w : World) (hl : (Pl.magOf n).length ≤ 2000) :
    Calls Tryz.prog 47 #[.agg #[.bool false, S (Pl.magOf n)]] w fun e w' => e = .returned (S (Pl.shownB n)) ∧ Below w.heap.size w w' := by
  obtain ⟨W, hW⟩ : ∃ W, w.alloc (.cells #[.bool false, S (Pl.magOf n)] 46) = W := ⟨_, rfl⟩
  have hbW : Below w.heap.size w W := by rw [← hW]; exact (Below.refl _ _).alloc (Nat.le_refl _) _
  have hBW : Blk W w.heap.size 46 #[.bool false, S (Pl.magOf n)] := by rw [← hW]; exact Blk.new _ _ _
  have hc1 := hBW.cell 1
  simp at hc1
  have hst := lowSt_start ⟨(Pl.magOf n).toArray⟩ W
  have hcv := Lib.run_convert_string_bytes (P := Tryz.prog) W 9 91 5 ⟨(Pl.magOf n).toArray⟩ Tryz.underlying9 Tryz.underlying91 Tryz.underlying5
  obtain ⟨l0, hl0⟩ : ∃ l0, (Pl.digs 256 n).reverse = l0 := ⟨_, rfl⟩
  have hm : Pl.magOf n = U8s l0 := by rw [← hl0]; rfl
  have hv0 : Pl.vB l0 = n := by rw [← hl0]; exact Pl.vB_digs n
  have hl256 : ∀ d ∈ l0, d < 256 := by rw [← hl0]; intro d hd; exact Pl.digs_lt 256 n (by omega) d (List.mem_reverse.1 hd)
  rw [hm] at hl hst hcv hc1 hW ⊢
  have hls : (⟨(U8s l0).toArray⟩ : ByteArray).size = l0.length := by rw [S_size, List.length_map]
  rw [hls] at hcv
  rw [List.length_map] at hl
  obtain ⟨cap, hcap⟩ : ∃ cap, grownCap W l0.length 0 5 = cap := ⟨_, rfl⟩
  obtain ⟨sz, hsz⟩ : ∃ sz, (Lib.bytesCells W 5 ⟨(U8s l0).toArray⟩).size = sz := ⟨_, rfl⟩
  obtain ⟨W2, hW2⟩ : ∃ W2, Lib.bytesWorld W 5 ⟨(U8s l0).toArray⟩ = W2 := ⟨_, rfl⟩
  rw [hcap, hW2] at hcv
  rw [hsz, hW2] at hst
  obtain ⟨mb, hmb⟩ : ∃ mb, W.heap.size = mb := ⟨_, rfl⟩
  rw [hmb] at hcv hst
  have hmw : w.heap.size ≤ mb := by rw [← hmb]; exact hbW.size
  obtain ⟨n0, hn0⟩ : ∃ n0, l0.length = n0 := ⟨_, rfl⟩
  rw [hn0] at hcv hl
  have HCV := Lib.hid hcv
  have HST := Lib.hid hst
  have HW := Lib.hid hW
  have HL0 := Lib.hid (And.intro hv0 (And.intro hl256 hn0))
  have HSH : Hid ((Pl.shown n).length ≤ 6000) := Lib.hid (by
    have h1 := Pl.val_lt 256 l0.reverse (fun d hd => hl256 d (List.mem_reverse.1 hd))
    rw [List.length_reverse, hn0] at h1
    rw [← hv0]
    exact shown_le_of (a := 5999) (k := 2000) (by omega) h1 hl)
  clear hcv hst hW hcap hsz hW2 hm hv0 hl256 hl0 hls hn0 hmb
  go_enter Tryz.func47, Tryz.ntmps47
  go_wp2_with fail
  rw [HW.out, HCV.out]
  go_wp2_with fail
  go_loopw [4] (fun sv wr => ∃ l tl : List Nat, l.length = n0 ∧ (∀ d ∈ l, d < 256) ∧ sv = S (U8s tl) ∧ Pl.shown n = Pl.shown (Pl.vB l) ++ tl ∧ LowSt W mb sz (U8s l) wr) (fun sv _ => (Pl.shown n).length - strLen sv)
  case atStart => exact ⟨l0, [], HL0.out.2.2, HL0.out.2.1, rfl, by rw [HL0.out.1]; simp, HST.out⟩
  case round =>
    obtain ⟨l, tl, hl0, hlt, rfl, hsh, hLS⟩ := hrel
    have HL := Lib.hid (And.intro hl0 (And.intro hlt hsh))
    clear hl0 hlt hsh
    go_wp2_with fail
    go_loopw [5, 6, 13] (fun rv av iv wx => ∃ k : Nat, k ≤ n0 ∧ rv = .int .i64 (((Pl.div10 (l.take k) 0).2 : Nat) : Int) ∧ av = .bool ((Pl.div10 (l.take k) 0).1.any (fun d => d != 0)) ∧ iv = .int .i64 (k : Int) ∧ LowSt W mb sz (U8s ((Pl.div10 (l.take k) 0).1 ++ l.drop k)) wx) (fun _ _ iv _ => n0 - (intOf iv).toNat)
    case atStart => exact ⟨0, Nat.zero_le _, rfl, rfl, rfl, by simpa [Pl.div10] using hLS⟩
    case round =>
      obtain ⟨k, hk, rfl, rfl, rfl, hLk⟩ := hrel
      have hr10 := Pl.div10_rest (l.take k) 0 (by omega)
      have hdl := Pl.div10_len (l.take k) 0
      rw [List.length_take, HL.out.1, Nat.min_eq_left hk] at hdl
      obtain ⟨a, ha⟩ : ∃ a, (Pl.div10 (l.take k) 0).1 = a := ⟨_, rfl⟩
      obtain ⟨r, hr⟩ : ∃ r, (Pl.div10 (l.take k) 0).2 = r := ⟨_, rfl⟩
      have HAR := Lib.hid (And.intro ha hr)
      rw [ha] at hdl hLk ⊢
      rw [hr] at hr10 ⊢
      clear ha hr
      obtain ⟨ab, hab⟩ : ∃ ab, a.any (fun d => d != 0) = ab := ⟨_, rfl⟩
      rw [hab]
      have HAB := Lib.hid hab
      clear hab
      by_cases hlt : k < n0
      · have hkl : k < l.length := by rw [HL.out.1]; exact hlt
        obtain ⟨c, hc⟩ : ∃ c, l[k] = c := ⟨_, rfl⟩
        have hc256 : c < 256 := by rw [← hc]; exact HL.out.2.1 _ (List.getElem_mem _)
        have hdr : l.drop k = c :: l.drop (k + 1) := by rw [List.drop_eq_getElem_cons hkl, hc]
        have hsplit : U8s (a ++ l.drop k) = U8s a ++ UInt8.ofNat c :: U8s (l.drop (k + 1)) := by rw [hdr]; simp [U8s]
        rw [hsplit] at hLk
        have hal : (U8s a).length = k := by simp [U8s, hdl]
        have hcell := hLk.cell (j := k) (by simp; omega)
        have hfro := hLk.frozen (j := k) (by simp; omega)
        have hce : (U8s a ++ UInt8.ofNat c :: U8s (l.drop (k + 1)))[k]'(by simp; omega) = UInt8.ofNat c := by
          rw [List.getElem_append_right (by omega)]; simp [hal]
        rw [hce, u8_nat hc256] at hcell
        obtain ⟨y, hy⟩ : ∃ y, r * 256 + c = y := ⟨_, rfl⟩
        obtain ⟨d, hd⟩ : ∃ d, y / 10 = d := ⟨_, rfl⟩
        obtain ⟨r2, hr2⟩ : ∃ r2, y % 10 = r2 := ⟨_, rfl⟩
        have hd256 : d < 256 := by omega
        have hset := hLk.set_ (d := UInt8.ofNat d)
        rw [hal, u8_nat hd256] at hset
        have hput := hset.cell (j := k) (by simp; omega)
        have hpe : (U8s a ++ UInt8.ofNat d :: U8s (l.drop (k + 1)))[k]'(by simp; omega) = UInt8.ofNat d := by
          rw [List.getElem_append_right (by omega)]; simp [hal]
        rw [hpe, u8_nat hd256] at hput
        have htk : l.take (k + 1) = l.take k ++ [c] := by rw [List.take_succ_eq_append_getElem hkl, hc]
        have hnx : Pl.div10 (l.take (k + 1)) 0 = (a ++ [d], r2) := by
          rw [htk, Pl.div10_snoc, HAR.out.1, HAR.out.2, hy, hd, hr2]
        have hLn : U8s (a ++ [d] ++ l.drop (k + 1)) = U8s a ++ UInt8.ofNat d :: U8s (l.drop (k + 1)) := by simp [U8s]
        have m1 : IntKind.i64.wrap ((r : Int) * 256) = (r : Int) * 256 := IntWalk.i64_in _ (by omega)
        have m2 : IntKind.i64.wrap ((r : Int) * 256 + (c : Int)) = (y : Int) := by rw [IntWalk.i64_in _ (by omega)]; omega
        have m3 : (y : Int) / 10 = (d : Int) := by omega
        have m4 : (y : Int) % 10 = (r2 : Int) := by omega
        have HN := Lib.hid (And.intro hnx (And.intro hLn hset))
        clear hc hdr hsplit hal hce hset hpe htk hnx hLn hy hd hr2 hdl
        have hbne : ((d : Int) != 0) = (d != 0) := by
          rw [Bool.eq_iff_iff, bne_iff_ne, bne_iff_ne]; omega
        have HBN := Lib.hid hbne
        clear hbne
        cases ab with
        | false =>
          go_wp2
          go_roundw
          case rel =>
            refine ⟨k + 1, by omega, by rw [HN.out.1]; exact congrArg (Value.int .i64) m4, ?_, by go_num, ?_⟩
            · rw [HN.out.1, HBN.out, List.any_append, HAB.out]; simp
            · rw [HN.out.1, HN.out.2.1]; exact HN.out.2.2
          case measure => simp [intOf]; omega
        | true =>
          go_wp2
          go_roundw
          case rel =>
            refine ⟨k + 1, by omega, by rw [HN.out.1]; exact congrArg (Value.int .i64) m4, ?_, by go_num, ?_⟩
            · rw [HN.out.1, List.any_append, HAB.out]; simp
            · rw [HN.out.1, HN.out.2.1]; exact HN.out.2.2
          case measure => simp [intOf]; omega
      · obtain rfl : k = n0 := by omega
        have htk : l.take k = l := List.take_of_length_le (by rw [HL.out.1]; exact Nat.le_refl _)
        have hdk : l.drop k = [] := List.drop_of_length_le (by rw [HL.out.1]; exact Nat.le_refl _)
        rw [hdk, List.append_nil] at hLk
        have hal : a.length = k := hdl
        obtain ⟨h1, h2⟩ := HAR.out
        rw [htk] at h1 h2
        have hst := Pl.shown_step l tl n HL.out.2.2
        have ha256 : ∀ d ∈ a, d < 256 := by rw [← h1]; exact Pl.div10_lt l 0 (by omega) HL.out.2.1
        rw [h1, h2] at hst
        have haz := any_zero HAB.out.symm
        obtain ⟨x, hx⟩ : ∃ x, 48 + r = x := ⟨_, rfl⟩
        have hx127 : x ≤ 127 := by omega
        obtain ⟨u, hu⟩ : ∃ u, UInt8.ofNat x = u := ⟨_, rfl⟩
        have hcv := fun W => conv_ascii u (by rw [← hu, u8_nat (by omega)]; omega) W
        rw [show u.toNat = x from by rw [← hu, u8_nat (by omega)]] at hcv
        have m1 : IntKind.i64.wrap (48 + (r : Int)) = (x : Int) := by rw [IntWalk.i64_in _ (by omega)]; omega
        have htx : Value.string (⟨#[u]⟩ ++ ⟨(U8s tl).toArray⟩) = S (U8s (x :: tl)) := by
          rw [← hu]
          exact cons_S _ _
        have HTX := Lib.hid htx
        have HXR := Lib.hid hx
        have HX := Lib.hid (And.intro hst (And.intro ha256 haz))
        have HLK := Lib.hid hLk
        clear htk hdk h1 h2 hst ha256 haz htx hLk hdl hx hu
        have hcl : ¬ 9223372036854775807 < 1 + tl.length := by
          have h1 := congrArg List.length HL.out.2.2
          have h2 := HSH.out
          rw [List.length_append] at h1
          omega
        cases ab with
        | false =>
          have e1 := HX.out.1.1 (Pl.vB_zero a (HX.out.2.2.1 rfl))
          have HE := Lib.hid (show S (U8s (x :: tl)) = S (Pl.shownB n) by rw [← HXR.out, ← e1]; rfl)
          clear e1
          go_wp2
          go_ret
          exact ⟨congrArg Ending.returned (HTX.out.trans HE.out), hbW.trans (HLK.out.bel.mono hmw)⟩
        | true =>
          have e1 := HX.out.1.2 (by have := Pl.vB_pos a (HX.out.2.2.2 rfl); omega)
          rw [HXR.out] at e1
          have HE := Lib.hid (And.intro e1 HX.out.2.1)
          clear e1
          go_wp2
          rw [HTX.out]
          refine ⟨⟨a, x :: tl, hal, HE.out.2, rfl, HE.out.1, HLK.out⟩, ?_⟩
          have h1 := congrArg List.length HE.out.1
          have h2 : 0 < (Pl.shown (Pl.vB a)).length := List.length_pos_iff.2 (Pl.shown_ne _)
          rw [List.length_append] at h1
          simp only [strLen, S_size, List.length_map, List.length_cons] at h1 ⊢
          omega
theorem cat3 (a b : List UInt8) : Value.string ((⟨a.toArray⟩ : ByteArray) ++ ((⟨#[46]⟩ : ByteArray) ++ ⟨b.toArray⟩)) = S (a ++ (46 :: b)) := by
  have h : ((⟨a.toArray⟩ : ByteArray) ++ ((⟨#[46]⟩ : ByteArray) ++ ⟨b.toArray⟩)).data.toList = a ++ (46 :: b) := by simp
  rw [string_S, h]
set_option maxRecDepth 100000 in
set_option maxHeartbeats 4000000 in
theorem kept_any (lv : Bool) (A : Option Addr) (n c m base : Nat) (ns : List Nat) (bd og : ByteArray) (w : World) (hO : w.ownsRow base 46 2 (.slice A n c) n (IntC ns)) (hn : ns.length = n) (hm : m ≤ 100) (hnl : n ≤ 100000) (hf : ∀ x ∈ ns, (Pl.magOf x).length ≤ 2000) (hb : bd.size ≤ 30000) (ht : (Pl.tailB (ns.drop m)).length ≤ 100000) :
    Calls Tryz.prog 16 #[.agg #[.bool lv, .slice A n c, .string bd, .string og], .int .i64 (m : Int)] w fun e w' =>
      e = .returned (.agg #[.bool lv, .slice A (min m n) c, S (bd.data.toList ++ Pl.tailB (ns.drop m)), .string og]) ∧ Below w.heap.size w w' := by
  obtain ⟨W1, hW1⟩ : ∃ W1, (w.alloc (.cells #[.bool lv, .slice A n c, .string bd, .string og] 27)).alloc (.cells #[.bool false, .slice none 0 0, .string ⟨#[]⟩, .string ⟨#[]⟩] 27) = W1 := ⟨_, rfl⟩
  have hb1 : Below w.heap.size w W1 := by rw [← hW1]; go_grown
  have hP1 : Blk W1 w.heap.size 27 #[.bool lv, .slice A n c, .string bd, .string og] := by rw [← hW1]; exact (Blk.new _ _ _).alloc _
  have hQ1 : Blk W1 (w.heap.size + 1) 27 #[.bool false, .slice none 0 0, .string ⟨#[]⟩, .string ⟨#[]⟩] := by
    rw [← hW1]
    have := Blk.new (w.alloc (.cells #[.bool lv, .slice A n c, .string bd, .string og] 27)) 27 #[.bool false, .slice none 0 0, .string ⟨#[]⟩, .string ⟨#[]⟩]
    rw [World.size_alloc] at this
    exact this
  have HI := Lib.hid (And.intro hO (And.intro hn (And.intro hf (And.intro ht (And.intro hb1 (And.intro hP1 hQ1))))))
  have HW := Lib.hid hW1
  clear hO hn hf ht hb1 hP1 hQ1 hW1
  go_enter Tryz.func16, Tryz.ntmps16
  go_wp2_with fail
  go_loopw [5] (fun iv wr => ∃ k : Nat, m ≤ k ∧ (k ≤ n ∨ k = m) ∧ iv = .int .i64 (k : Int) ∧ Blk wr w.heap.size 27 #[.bool lv, .slice A n c, S (bd.data.toList ++ Pl.tailB ((ns.drop m).take (k - m))), .string og] ∧ Blk wr (w.heap.size + 1) 27 #[.bool false, .slice none 0 0, .string ⟨#[]⟩, .string ⟨#[]⟩] ∧ Below w.heap.size w wr) (fun iv _ => n - (intOf iv).toNat)
  case atStart =>
    rw [HW.out]
    refine ⟨m, Nat.le_refl _, Or.inr rfl, rfl, ?_, HI.out.2.2.2.2.2.2, HI.out.2.2.2.2.1⟩
    rw [Nat.sub_self, List.take_zero, Pl.tailB_nil, List.append_nil]
    exact HI.out.2.2.2.2.2.1
  case round =>
    obtain ⟨w1, hw1⟩ : ∃ w1, w1 = wr := ⟨_, rfl⟩
    subst hw1
    obtain ⟨k, hmk, hkn, rfl, hP, hQ, hbel⟩ := hrel
    have p1 := hP.cell 1
    have p2 := hP.cell 2
    have f2 := hP.frozen 2
    simp at p1 p2
    by_cases hlt : k < n
    · have hkz : (k : Int) < (n : Int) := by omega
      have hkl : k < ns.length := by rw [HI.out.2.1]; exact hlt
      have hRd : Rd w 2 A ns.length (IntC ns) := by have := Rd.of_own HI.out.1; rw [← HI.out.2.1] at this; exact this
      obtain ⟨b, o, rfl, hc0, hc1⟩ := (hRd.below hbel).int_at hkl
      obtain ⟨N, hN⟩ : ∃ N, ns[k] = N := ⟨_, rfl⟩
      rw [hN] at hc1
      have hNf := HI.out.2.2.1 N (by rw [← hN]; exact List.getElem_mem _)
      have HWR := Lib.hid (written_any N w1.drew hNf)
      obtain ⟨bb, hbb⟩ : ∃ bb, bd.data.toList ++ Pl.tailB ((ns.drop m).take (k - m)) = bb := ⟨_, rfl⟩
      have hnx : bb ++ (46 :: Pl.shownB N) = bd.data.toList ++ Pl.tailB ((ns.drop m).take (k + 1 - m)) := by
        rw [← hbb, show k + 1 - m = (k - m) + 1 from by omega, List.take_succ_eq_append_getElem (by rw [List.length_drop]; omega), Pl.tailB_snoc, List.append_assoc, List.getElem_drop]
        congr 4
        rw [← hN]
        congr 1
        omega
      have hlen : bb.length + (1 + (Pl.shownB N).length) ≤ 200000 := by
        have h1 := congrArg List.length hnx
        have h2 : (Pl.tailB ((ns.drop m).take (k + 1 - m))).length ≤ (Pl.tailB (ns.drop m)).length := by
          have h : Pl.tailB (ns.drop m) = Pl.tailB ((ns.drop m).take (k + 1 - m)) ++ Pl.tailB ((ns.drop m).drop (k + 1 - m)) := by rw [← Pl.tailB_app, List.take_append_drop]
          rw [h, List.length_append]; omega
        have h3 := HI.out.2.2.2.1
        rw [List.length_append, List.length_cons, List.length_append, len_list] at h1
        omega
      rw [hbb] at p2 hP
      have HX := Lib.hid (And.intro hP (And.intro hQ (And.intro hbel (And.intro hnx hlen))))
      obtain ⟨T, hT⟩ : ∃ T, Pl.shownB N = T := ⟨_, rfl⟩
      rw [hT] at HWR HX hlen
      have q1 : ¬ 9223372036854775807 < 1 + T.length := by omega
      have q2 : ¬ 9223372036854775807 < bb.length + (1 + T.length) := by omega
      clear hP hQ hbel hnx hlen hN hbb hT hRd hkl
      have hPl := HX.out.1.lt
      have hcl0 := World.block_lt_of_cell? _ _ hc0
      simp only at hcl0
      go_wp2_with fail
      go_region_with (first
        | (go_at_call 47; refine HWR.out.mono ?_; rintro e w2 ⟨rfl, hb2⟩; obtain ⟨kc, kf⟩ := bcell hb2; have r1 := (kc _ _ hPl).trans p1; have r2 := (kc _ _ hPl).trans p2; have r3 := (kf _ _ hPl).trans f2; have r4 := (kc _ _ hcl0).trans hc0; have r5 := (kc _ _ hcl0).trans hc1))
      all_goals go_wp2_with fail
      all_goals
        go_roundw
        case rel =>
          obtain ⟨hP, hQ, hbel, hnx, _⟩ := HX.out
          have hb2' : Below w1.heap.size w1 w2 := ((Below.refl w1.heap.size w1).drew).trans hb2
          refine ⟨k + 1, by omega, Or.inl (by omega), by go_num, ?_, ?_, ?_⟩
          · rw [← hnx, ← cat3]
            exact (hP.below hb2' hP.lt).set_ 2 _
          · exact (hQ.below hb2' hQ.lt).far (by simp) _
          · exact (hbel.trans (hb2'.mono hbel.size)).setCell (Nat.le_refl _) _
        case measure => simp [intOf]; omega
    · have hkz : ¬ (k : Int) < (n : Int) := by omega
      have hdone : (ns.drop m).take (k - m) = ns.drop m := List.take_of_length_le (by rw [List.length_drop, HI.out.2.1]; omega)
      rw [hdone] at p2 hP
      obtain ⟨bb, hbb⟩ : ∃ bb, bd.data.toList ++ Pl.tailB (ns.drop m) = bb := ⟨_, rfl⟩
      rw [hbb] at p2 hP
      have HBB := Lib.hid hbb
      clear hbb
      have p0 := hP.cell 0
      have p3 := hP.cell 3
      have f1 := hP.frozen 1
      have d0 := hQ.cell 0
      have d1 := hQ.cell 1
      have d2 := hQ.cell 2
      have d3 := hQ.cell 3
      have g0 := hQ.frozen 0
      have g1 := hQ.frozen 1
      have g2 := hQ.frozen 2
      have g3 := hQ.frozen 3
      simp at p0 p3 d0 d1 d2 d3
      have HB := Lib.hid hbel
      clear hbel hdone hP hQ
      have hAf : (A = none ∧ n = 0 ∧ c = 0) ∨ ∃ g, A = some ⟨g, 0, none⟩ ∧ n ≤ c := by
        rcases HI.out.1.2 with ⟨h1, h2⟩ | ⟨g, cap, cur, h1, h2, h3, h4, _⟩
        · injection h1 with h1 _ h3
          exact Or.inl ⟨h1, h2, h3⟩
        · injection h1 with h1 _ h5
          exact Or.inr ⟨g, h1, by omega⟩
      rcases hAf with ⟨rfl, rfl, rfl⟩ | ⟨g, rfl, hnc⟩
      · go_wp2_with fail
        refine bodyPost_ret (v := .agg #[.bool lv, .slice none (min (m : Int) 0).toNat 0, S bb, .string og]) (by simp [results, Tryz.results16, go_sem, d0, d1, d2, d3]) rfl ⟨?_, (((((HB.out.setCell (by simp) _).setCell (by simp) _).setCell (by simp) _).setCell (by simp) _).setCell (by simp) _)⟩
        rw [← HBB.out, show (min (m : Int) 0).toNat = 0 from by omega]
      · go_wp2_with fail
        refine bodyPost_ret (v := .agg #[.bool lv, .slice (some ⟨g, 0, none⟩) (min (m : Int) (n : Int)).toNat c, S bb, .string og]) (by simp [results, Tryz.results16, go_sem, d0, d1, d2, d3]) rfl ⟨?_, (((((HB.out.setCell (by simp) _).setCell (by simp) _).setCell (by simp) _).setCell (by simp) _).setCell (by simp) _)⟩
        rw [← HBB.out, show (min (m : Int) (n : Int)).toNat = min m n from by omega]
theorem own_take2 {w : World} {base m n c : Nat} {A : Option Addr} {ns : List Nat} (h : w.ownsRow base 46 2 (.slice A n c) n (IntC ns)) (hn : ns.length = n) : Rd w 2 A (ns.take m).length (IntC (ns.take m)) := by
  have hr := Rd.of_own h
  refine ⟨IntC_len _, fun h0 => ?_⟩
  have hl : (ns.take m).length = min m n := by rw [List.length_take, hn]
  obtain ⟨b, o, hA, hc⟩ := hr.2 (by omega)
  refine ⟨b, o, hA, fun j u hu => hc j u ?_⟩
  have e : IntC ns = IntC (ns.take m) ++ IntC (ns.drop m) := by
    unfold IntC
    rw [← List.flatMap_append, List.take_append_drop]
  rw [e, List.getElem?_append_left (by
    have := (List.getElem?_eq_some_iff.1 hu).1
    exact this)]
  exact hu
def TpAt (l : Pl.Bytes) (i : Nat) (N : List Nat) : Prop := (i = 0 ∧ N = [] ∧ Pl.vo l = 1) ∨ (Pl.vo l ≤ i ∧ Pl.Scan (Pl.restV l) (i - Pl.vo l) N)
theorem TpAt.start (l : Pl.Bytes) : TpAt l 0 [] := by
  have h : Pl.vo l = 0 ∨ Pl.vo l = 1 := by unfold Pl.vo; split <;> simp
  rcases h with h | h
  · exact Or.inr ⟨by omega, by rw [h]; exact Pl.Scan.start _⟩
  · exact Or.inl ⟨rfl, rfl, h⟩
theorem vo_one {l : Pl.Bytes} (h : Pl.vo l = 1) : l[0]? = some 118 := by
  unfold Pl.vo at h
  by_cases hs : Pl.startsV l = true
  · unfold Pl.startsV at hs
    simpa using hs
  · rw [if_neg hs] at h; omega
theorem vo_zero {l : Pl.Bytes} (h : Pl.vo l = 0) : l[0]? ≠ some 118 := by
  intro e
  unfold Pl.vo Pl.startsV at h
  rw [e] at h
  simp at h
theorem TpAt.scan {l : Pl.Bytes} {i : Nat} {N : List Nat} {c : UInt8} (h : TpAt l i N) (hc : l[i]? = some c) (h118 : c ≠ 118) : Pl.vo l ≤ i ∧ Pl.Scan (Pl.restV l) (i - Pl.vo l) N ∧ (Pl.restV l)[i - Pl.vo l]? = some c := by
  rcases h with ⟨rfl, _, hv⟩ | ⟨h1, h2⟩
  · rw [vo_one hv] at hc
    exact absurd (Option.some.inj hc).symm h118
  · exact ⟨h1, h2, by rw [Pl.restV_at, Nat.sub_add_cancel h1]; exact hc⟩
theorem TpAt.dot {l : Pl.Bytes} {i : Nat} {N : List Nat} (h : TpAt l i N) (hc : l[i]? = some 46) : TpAt l (i + 1) N := by
  obtain ⟨h1, h2, h3⟩ := h.scan hc (by decide)
  exact Or.inr ⟨by omega, by rw [Nat.sub_add_comm h1]; exact h2.dot h3⟩
theorem TpAt.vee {l : Pl.Bytes} {N : List Nat} (h : TpAt l 0 N) (hc : l[0]? = some 118) : TpAt l 1 N := by
  rcases h with ⟨_, rfl, hv⟩ | ⟨h1, _⟩
  · exact Or.inr ⟨by omega, by rw [hv]; exact Pl.Scan.start _⟩
  · exact absurd hc (vo_zero (by omega))
theorem dig_not118 {c : UInt8} (h : Pl.isDig c = true) : c ≠ 118 := by rintro rfl; exact absurd h (by decide)
theorem TpAt.run {l : Pl.Bytes} {i k : Nat} {N : List Nat} (h : TpAt l i N) (hik : i < k) (hd : ∀ x, i ≤ x → x < k → ∃ c, l[x]? = some c ∧ Pl.isDig c = true) (he : ∀ c, l[k]? = some c → Pl.isDig c = false) : TpAt l k (N ++ [Pl.natOf ((l.drop i).take (k - i))]) := by
  obtain ⟨c, hc, hg⟩ := hd i (Nat.le_refl _) hik
  obtain ⟨h1, h2, _⟩ := h.scan hc (dig_not118 hg)
  have h3 := h2.run (m := k - i) (by omega) (fun x hx => by
    rw [Pl.restV_at, show i - Pl.vo l + x + Pl.vo l = i + x from by omega]
    exact hd (i + x) (by omega) (by omega)) (fun c hc => by
    rw [Pl.restV_at, show i - Pl.vo l + (k - i) + Pl.vo l = k from by omega] at hc
    exact he c hc)
  refine Or.inr ⟨by omega, ?_⟩
  rw [show k - Pl.vo l = i - Pl.vo l + (k - i) from by omega]
  have e : (Pl.restV l).drop (i - Pl.vo l) = l.drop i := by rw [Pl.restV_drop, List.drop_drop, show Pl.vo l + (i - Pl.vo l) = i from by omega]
  rw [e] at h3
  exact h3
theorem TpAt.stop {l : Pl.Bytes} {i : Nat} {N : List Nat} (h : TpAt l i N) (he : i = l.length ∨ ∃ c, l[i]? = some c ∧ Pl.coreB c = false ∧ (i = 0 → c ≠ 118)) : Pl.numsOf l = N := by
  rcases h with ⟨rfl, _, hv⟩ | ⟨h1, h2⟩
  · exfalso
    have h0 := vo_one hv
    rcases he with e | ⟨c, hc, _, h3⟩
    · rw [List.getElem?_eq_none (by omega)] at h0; cases h0
    · rw [h0] at hc; exact h3 rfl (Option.some.inj hc).symm
  · refine h2.stop rfl ?_
    rcases he with e | ⟨c, hc, h3, _⟩
    · left
      rw [Pl.restV_drop, List.length_drop]; omega
    · exact Or.inr ⟨c, by rw [Pl.restV_at, Nat.sub_add_cancel h1]; exact hc, h3⟩
theorem TpAt.count {l : Pl.Bytes} {i : Nat} {N : List Nat} (h : TpAt l i N) : N.length ≤ l.length + 2 := by
  rcases h with ⟨_, rfl, _⟩ | ⟨_, h2⟩
  · simp
  · have := h2.count
    rw [Pl.restV_drop, List.length_drop] at this
    omega
end Go.Proofs.YtgfkdjmoflbmdaaGreatDoor
