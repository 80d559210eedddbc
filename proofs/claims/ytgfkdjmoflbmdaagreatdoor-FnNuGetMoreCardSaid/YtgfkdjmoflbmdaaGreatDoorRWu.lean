/- Contract: nat.scan (at base 10). -/
import Derived.Test.YtgfkdjmoflbmdaaGreatDoorRWtxPlH
namespace Go.Proofs.YtgfkdjmoflbmdaaGreatDoor
open Go.RowKit
open Go.Proofs
def ScanVars (w : World) (pe pn : Addr) : Prop := w.cell? ⟨4, 0, none⟩ = some (.iface 305 (.pointer (some pe))) ∧ w.cell? ⟨8, 0, none⟩ = some (.iface 305 (.pointer (some pn)))
theorem ScanVars.grown {w w' : World} {pe pn : Addr} {g : Nat} (h : ScanVars w pe pn) (hg : w.grownBy w' (some g)) (h8 : 8 < g) : ScanVars w' pe pn :=
  ⟨hg.cell h.1 (by simp; omega), hg.cell h.2 (by simp; omega)⟩
def restOf (s : ByteArray) (i : Nat) : List UInt8 := s.data.toList.drop i
def digRun (l : List UInt8) : List UInt8 := l.takeWhile Pl.isDig
def ScanBack (w : World) (g : Nat) (s : ByteArray) (i0 : Nat) (pn : Addr) (e : Ending) (w' : World) : Prop :=
  ∃ (v : Value) (c : Int), e = .returned (.tuple #[v, .int .i64 10, .int .i64 c, if digRun (restOf s i0) = [] then .iface 305 (.pointer (some pn)) else .nilIface]) ∧
    NatAt w' w.heap.size v (Pl.natOf (digRun (restOf s i0))) ∧ RdrAt w' g s (i0 + (digRun (restOf s i0)).length) ∧ w.grownBy w' (some g)
theorem natAt_grown {w w' : World} {base g N : Nat} {v : Value} (h : NatAt w base v N) (hg : w.grownBy w' (some g)) (hlt : g < base) : NatAt w' base v N := by
  refine own_grown h hg (Or.inr fun e => ?_)
  have := (World.ownsRow.lt h g e.symm).1
  omega
theorem grown_below {w wr w' : World} {g : Nat} (h : w.grownBy wr (some g)) (hb : Below w.heap.size wr w') : w.grownBy w' (some g) :=
  ⟨hb.os.trans h.os, hb.tape.trans h.tape, hb.output.trans h.output, Nat.le_trans h.size hb.size, fun k hk hne => (hb.block k hk).trans (h.block k hk hne)⟩
theorem ten_words {N k : Nat} (h : N < 10 ^ k) (hk : k ≤ 30000) : (Pl.digs M N).length ≤ 30000 := by
  refine Nat.le_trans (Pl.digs_len_le M_two (Nat.lt_of_lt_of_le h ?_)) hk
  exact Nat.pow_le_pow_left (show 10 ≤ M by rw [M_eq]; omega) k
structure ScanSt (w : World) (g : Nat) (s : ByteArray) (i0 k j N D : Nat) (zv : Value) (wx : World) : Prop where
  dig : ((restOf s i0).take k).all Pl.isDig = true
  acc : Pl.natOf ((restOf s i0).take k) = N * 10 ^ j + D
  low : D < 10 ^ j
  few : j < 19
  zero : k = 0 → N = 0 ∧ j = 0 ∧ D = 0
  len : i0 + k ≤ s.size
  nat : NatAt wx w.heap.size zv N
  gr : w.grownBy wx (some g)
theorem rest_len (s : ByteArray) (i0 : Nat) : (restOf s i0).length = s.size - i0 := by rw [restOf, List.length_drop, len_list]
theorem rest_get (s : ByteArray) (i0 k : Nat) (h : i0 + k < s.size) : (restOf s i0)[k]? = some s[i0 + k] := by
  rw [restOf, List.getElem?_drop, get_list s (i0 + k) h]
section
variable {w wx w' : World} {g i0 k j N D : Nat} {s : ByteArray} {zv : Value}
theorem ScanSt.start {w1 : World} (hi : i0 ≤ s.size) (hg : w.grownBy w1 (some g)) : ScanSt w g s i0 0 0 0 0 (.slice none 0 0) w1 :=
  ⟨by simp, by simp [Pl.natOf, Pl.natAcc], by simp, by omega, fun _ => ⟨rfl, rfl, rfl⟩, by omega, by unfold NatAt; rw [Pl.digs_zero]; exact World.ownsRow_nil _ _ _ _, hg⟩
theorem ScanSt.grown (h : ScanSt w g s i0 k j N D zv wx) (hg : wx.grownBy w' (some g)) (hlt : g < w.heap.size) : ScanSt w g s i0 k j N D zv w' :=
  { h with nat := natAt_grown h.nat hg hlt, gr := h.gr.trans hg }
theorem ScanSt.N_lt (h : ScanSt w g s i0 k j N D zv wx) : N < 10 ^ k := by
  have h1 := Pl.natOf_lt _ h.dig
  rw [h.acc, List.length_take] at h1
  have h2 : 10 ^ (min k (restOf s i0).length) ≤ 10 ^ k := Nat.pow_le_pow_right (by omega) (Nat.min_le_left _ _)
  have h3 : N ≤ N * 10 ^ j := Nat.le_mul_of_pos_right _ (Nat.pow_pos (by omega))
  omega
theorem ScanSt.words (h : ScanSt w g s i0 k j N D zv wx) (hs : s.size ≤ 30000) : (Pl.digs M N).length ≤ 30000 := ten_words h.N_lt (by have := h.len; omega)
theorem ScanSt.D_le (h : ScanSt w g s i0 k j N D zv wx) : D ≤ 999999999999999999 := by
  have := ten_le (k := j) (by have := h.few; omega)
  have := h.low
  omega
theorem ScanSt.step (h : ScanSt w g s i0 k j N D zv wx) (hk : i0 + k < s.size) (hd : Pl.isDig s[i0 + k] = true) :
    ((restOf s i0).take (k + 1)).all Pl.isDig = true ∧ Pl.natOf ((restOf s i0).take (k + 1)) = N * 10 ^ (j + 1) + (D * 10 + (s[i0 + k].toNat - 48)) ∧ D * 10 + (s[i0 + k].toNat - 48) < 10 ^ (j + 1) := by
  have hkl : k < (restOf s i0).length := by rw [rest_len]; omega
  have hg : (restOf s i0)[k] = s[i0 + k] := by
    have h1 := rest_get s i0 k hk
    rw [List.getElem?_eq_getElem hkl] at h1
    exact Option.some.inj h1
  have hd9 : s[i0 + k].toNat - 48 ≤ 9 := by simp [Pl.isDig] at hd; omega
  rw [List.take_succ_eq_append_getElem hkl, hg]
  refine ⟨by rw [List.all_append, h.dig]; simp [hd], ?_, ?_⟩
  · have e := h.acc
    rw [Pl.natOf] at e ⊢
    rw [Pl.natAcc_snoc, e, Nat.add_mul, Nat.mul_assoc, ← Nat.pow_succ, Nat.add_assoc]
  · have := h.low
    rw [Nat.pow_succ]
    omega
theorem ScanSt.run (h : ScanSt w g s i0 k j N D zv wx) (he : i0 + k = s.size ∨ ∃ hk : i0 + k < s.size, Pl.isDig s[i0 + k] = false) : digRun (restOf s i0) = (restOf s i0).take k := by
  refine (Pl.while_at (p := Pl.isDig) _ k h.dig ?_).1
  rcases he with he | ⟨hk, hd⟩
  · exact Or.inl (by rw [rest_len]; omega)
  · exact Or.inr ⟨_, rest_get s i0 k hk, hd⟩
end
def prevV (k : Nat) : Value := .int .i32 (if k = 0 then 46 else 48)
def ScanOut (w : World) (g : Nat) (s : ByteArray) (i0 : Nat) (pe : Addr) (s0 s3 s10 s11 s13 s14 s20 s21 s22 : Value) (wx : World) : Prop :=
  ∃ k j N D : Nat, ScanSt w g s i0 k j N D s0 wx ∧ digRun (restOf s i0) = (restOf s i0).take k ∧ RdrAt wx g s (i0 + k) ∧ (s11 = .nilIface ∨ s11 = .iface 305 (.pointer (some pe))) ∧
    s3 = .bool false ∧ s10 = .int .i64 (k : Int) ∧ s13 = prevV k ∧ s14 = .bool false ∧ s20 = .int .u64 (D : Int) ∧ s21 = .int .i64 (j : Int) ∧ s22 = .int .i64 (-1)
def LookAt (w : World) (g : Nat) (s : ByteArray) (i0 k : Nat) (pe : Addr) (ch err : Value) : Prop :=
  (∃ h : i0 + k < s.size, ch = .int .u8 (s[i0 + k].toNat : Int) ∧ err = .nilIface ∧ RdrAt w g s (i0 + k + 1)) ∨
  (i0 + k = s.size ∧ ch = .int .u8 0 ∧ err = .iface 305 (.pointer (some pe)) ∧ RdrAt w g s (i0 + k))
theorem look_any (g : Nat) (s : ByteArray) (i0 k : Nat) (pe pn : Addr) (w : World) (hs : s.size ≤ 30000) (hk : i0 + k ≤ s.size) (hR : RdrAt w g s (i0 + k)) (hV : ScanVars w pe pn) (h8 : 8 < g) :
    Calls Tryz.prog 322 #[.pointer (some ⟨g, 0, none⟩)] w fun e w' => ∃ ch err, e = .returned (.tuple #[ch, err]) ∧ LookAt w' g s i0 k pe ch err ∧ w.grownBy w' (some g) := by
  by_cases h : i0 + k < s.size
  · refine (ReadByte_hit g s (i0 + k) w hR h hs).mono ?_
    rintro e w' ⟨rfl, h1, h2⟩
    exact ⟨_, _, rfl, Or.inl ⟨h, rfl, rfl, h1⟩, h2⟩
  · refine (ReadByte_end g s (i0 + k) w _ hV.1 hR (by omega) hs (by omega) (by omega)).mono ?_
    rintro e w' ⟨rfl, h1, h2⟩
    exact ⟨_, _, rfl, Or.inr ⟨by omega, rfl, rfl, h1⟩, h2⟩
set_option maxRecDepth 100000 in
set_option maxHeartbeats 4000000 in
theorem scan_any (g : Nat) (s : ByteArray) (i0 : Nat) (pe pn : Addr) (w : World) (hs : s.size ≤ 30000) (hi : i0 ≤ s.size) (hR : RdrAt w g s i0) (hV : ScanVars w pe pn) (h8 : 8 < g) :
    Calls Tryz.prog 161 #[.slice none 0 0, .iface 144 (.pointer (some ⟨g, 0, none⟩)), .int .i64 10, .bool false] w (ScanBack w g s i0 pn) := by
  go_enter Tryz.func161, Tryz.ntmps161
  have hgw : g < w.heap.size := Blk.lt hR
  go_wp2_with fail
  refine (look_any g s i0 0 pe pn _ hs hi hR hV h8).mono ?_; rintro e w1 ⟨ch, err, rfl, hlook, hg1⟩
  go_upto_block 2 with (go_at_call 172; refine (maxPow_ten _).mono ?_; rintro e w2 ⟨rfl, rfl⟩)
  go_cut [0, 3, 10, 11, 13, 14, 20, 21, 22] (fun s0 s3 s10 s11 s13 s14 s20 s21 s22 wx => ScanOut w g s i0 pe s0 s3 s10 s11 s13 s14 s20 s21 s22 wx)
  case first =>
    go_wp2
    go_loopw [0, 3, 10, 11, 13, 14, 15, 20, 21, 22] (fun s0 s3 s10 s11 s13 s14 s15 s20 s21 s22 wr => ∃ k j N D : Nat, ScanSt w g s i0 k j N D s0 wr ∧ LookAt wr g s i0 k pe s15 s11 ∧
      s3 = .bool false ∧ s10 = .int .i64 (k : Int) ∧ s13 = prevV k ∧ s14 = .bool false ∧ s20 = .int .u64 (D : Int) ∧ s21 = .int .i64 (j : Int) ∧ s22 = .int .i64 (-1)) (fun _ _ s10 _ _ _ _ _ _ _ _ => s.size + 1 - (intOf s10).toNat)
    case atStart => exact ⟨0, 0, 0, 0, ScanSt.start hi hg1, hlook, rfl, rfl, rfl, rfl, rfl, rfl, rfl⟩
    case round =>
      obtain ⟨k, j, N, D, hst, hlk, rfl, rfl, rfl, rfl, rfl, rfl, rfl⟩ := hrel
      have HST := Lib.hid hst
      clear hst
      rcases hlk with ⟨hk, rfl, rfl, hRd⟩ | ⟨hk, rfl, rfl, hRd⟩
      · have hstep := HST.out.step hk
        have hD := HST.out.D_le
        have hj := HST.out.few
        obtain ⟨c, hc⟩ : ∃ c, s[i0 + k] = c := ⟨_, rfl⟩
        have hrun0 : Pl.isDig c = false → digRun (restOf s i0) = (restOf s i0).take k := fun h => HST.out.run (Or.inr ⟨hk, by rw [hc]; exact h⟩)
        rw [hc] at hstep
        have hclt : c.toNat < 256 := c.toNat_lt
        by_cases hdig : Pl.isDig c = true
        · have hstep1 := hstep hdig
          have HSTEP := Lib.hid hstep1
          clear hstep hrun0 hstep1
          have hcb : 48 ≤ c.toNat ∧ c.toNat ≤ 57 := by simpa [Pl.isDig, UInt8.le_iff_toNat_le] using hdig
          obtain ⟨hc1, hc2⟩ := hcb
          have a1 : (48 : Int) ≤ (c.toNat : Int) := by omega
          have a2 : (c.toNat : Int) ≤ 57 := by omega
          have e1 : ((c.toNat : Int) == 46) = false := by rw [beq_eq_false_iff_ne]; omega
          have e2 : ((c.toNat : Int) == 95) = false := by rw [beq_eq_false_iff_ne]; omega
          have hVr := hV.grown HST.out.gr h8
          have hDz : (D : Int) ≤ 999999999999999999 := by omega
          by_cases hj19 : j + 1 = 19
          · have hjz : ((j : Int) + 1 == 19) = true := by rw [beq_iff_eq]; omega
            have hC : Calls Tryz.prog 173 #[u0, u0, .int .u64 10000000000000000000, .int .u64 ((D : Int) * 10 + ((c.toNat : Int) - 48))] wr (NatBack w.heap.size (N * 10000000000000000000 + (D * 10 + (c.toNat - 48))) wr) := by
              have e : (D : Int) * 10 + ((c.toNat : Int) - 48) = ((D * 10 + (c.toNat - 48) : Nat) : Int) := by omega
              rw [e]
              exact mulAddWW_any w.heap.size u0 N 10000000000000000000 (D * 10 + (c.toNat - 48)) wr HST.out.nat (Nat.le_trans (HST.out.words hs) (by omega)) (by omega) (by rw [M_eq]; omega) (by rw [M_eq]; omega) HST.out.gr.size
            have HC := Lib.hid hC
            clear hC
            go_wp2_with (first
              | (go_at_call 173; refine HC.out.mono ?_; rintro e w2 ⟨v2, rfl, hn2, hb2⟩; have hgr2 := grown_below HST.out.gr hb2; have hRd2 : RdrAt w2 g s (i0 + k + 1) := Blk.below hRd hb2 hgw; have hV2 := hV.grown hgr2 h8)
              | (go_at_call 322; refine (look_any g s i0 (k + 1) pe pn _ hs (by omega) hRd2 hV2 h8).mono ?_; rintro e w3 ⟨ch2, err2, rfl, hlook2, hg2⟩))
            go_roundw
            case rel =>
              obtain ⟨t1, t2, t3⟩ := HSTEP.out
              exact ⟨k + 1, 0, N * 10000000000000000000 + (D * 10 + (c.toNat - 48)), 0, ⟨t1, by rw [t2, hj19, ten_19]; simp, by simp, by omega, by omega, by omega, natAt_grown hn2 hg2 hgw, hgr2.trans hg2⟩, hlook2, rfl, by go_num, by simp [prevV], rfl, rfl, rfl, rfl⟩
            case measure => simp [intOf]; omega
          · have hjz : ((j : Int) + 1 == 19) = false := by rw [beq_eq_false_iff_ne]; omega
            go_wp2_with (go_at_call 322; refine (look_any g s i0 (k + 1) pe pn _ hs (by omega) hRd hVr h8).mono ?_; rintro e w2 ⟨ch2, err2, rfl, hlook2, hg2⟩)
            go_roundw
            case rel =>
              obtain ⟨t1, t2, t3⟩ := HSTEP.out
              exact ⟨k + 1, j + 1, N, D * 10 + (c.toNat - 48), ⟨t1, t2, t3, by omega, by omega, by omega, (HST.out.grown hg2 hgw).nat, (HST.out.grown hg2 hgw).gr⟩, hlook2, rfl, by go_num, by simp [prevV], rfl, w_nat _ (by omega), by go_num, rfl⟩
            case measure => simp [intOf]; omega
        · have hdig1 : Pl.isDig c = false := by simpa using hdig
          have hrun1 := hrun0 hdig1
          have HRUN := Lib.hid hrun1
          have hcb : ¬ (48 ≤ c.toNat ∧ c.toNat ≤ 57) := by simpa [Pl.isDig, UInt8.le_iff_toNat_le] using hdig
          clear hstep hrun0 hrun1 hdig
          have hiv : (0 ≤ c.toNat ∧ c.toNat ≤ 45) ∨ (46 ≤ c.toNat ∧ c.toNat ≤ 46) ∨ (47 ≤ c.toNat ∧ c.toNat ≤ 47) ∨ (58 ≤ c.toNat ∧ c.toNat ≤ 64) ∨ (65 ≤ c.toNat ∧ c.toNat ≤ 90) ∨ (91 ≤ c.toNat ∧ c.toNat ≤ 94) ∨ (95 ≤ c.toNat ∧ c.toNat ≤ 95) ∨ (96 ≤ c.toNat ∧ c.toNat ≤ 96) ∨ (97 ≤ c.toNat ∧ c.toNat ≤ 122) ∨ (123 ≤ c.toNat ∧ c.toNat ≤ 255) := by omega
          rcases hiv with ⟨v1, v2⟩ | ⟨v1, v2⟩ | ⟨v1, v2⟩ | ⟨v1, v2⟩ | ⟨v1, v2⟩ | ⟨v1, v2⟩ | ⟨v1, v2⟩ | ⟨v1, v2⟩ | ⟨v1, v2⟩ | ⟨v1, v2⟩
          · have a1 : (c.toNat : Int) < 48 := by omega
            have a2 : (c.toNat : Int) ≤ 57 := by omega
            have a3 : (c.toNat : Int) < 97 := by omega
            have a4 : (c.toNat : Int) ≤ 122 := by omega
            have a5 : (c.toNat : Int) < 65 := by omega
            have a6 : (c.toNat : Int) ≤ 90 := by omega
            have e1 : ((c.toNat : Int) == 46) = false := by rw [beq_eq_false_iff_ne]; omega
            have e2 : ((c.toNat : Int) == 95) = false := by rw [beq_eq_false_iff_ne]; omega
            go_wp2_with (go_at_call 323; refine (UnreadByte_any g s (i0 + k) _ hRd (by omega)).mono ?_; rintro e w2 ⟨rfl, hr2, hg2⟩)
            go_meet
            exact ⟨k, j, N, D, HST.out.grown hg2 hgw, HRUN.out, hr2, Or.inl rfl, rfl, rfl, rfl, rfl, rfl, rfl, rfl⟩
          · have a1 : (c.toNat : Int) < 48 := by omega
            have a2 : (c.toNat : Int) ≤ 57 := by omega
            have a3 : (c.toNat : Int) < 97 := by omega
            have a4 : (c.toNat : Int) ≤ 122 := by omega
            have a5 : (c.toNat : Int) < 65 := by omega
            have a6 : (c.toNat : Int) ≤ 90 := by omega
            have e1 : ((c.toNat : Int) == 46) = true := by rw [beq_iff_eq]; omega
            have e2 : ((c.toNat : Int) == 95) = false := by rw [beq_eq_false_iff_ne]; omega
            go_wp2_with (go_at_call 323; refine (UnreadByte_any g s (i0 + k) _ hRd (by omega)).mono ?_; rintro e w2 ⟨rfl, hr2, hg2⟩)
            go_meet
            exact ⟨k, j, N, D, HST.out.grown hg2 hgw, HRUN.out, hr2, Or.inl rfl, rfl, rfl, rfl, rfl, rfl, rfl, rfl⟩
          · have a1 : (c.toNat : Int) < 48 := by omega
            have a2 : (c.toNat : Int) ≤ 57 := by omega
            have a3 : (c.toNat : Int) < 97 := by omega
            have a4 : (c.toNat : Int) ≤ 122 := by omega
            have a5 : (c.toNat : Int) < 65 := by omega
            have a6 : (c.toNat : Int) ≤ 90 := by omega
            have e1 : ((c.toNat : Int) == 46) = false := by rw [beq_eq_false_iff_ne]; omega
            have e2 : ((c.toNat : Int) == 95) = false := by rw [beq_eq_false_iff_ne]; omega
            go_wp2_with (go_at_call 323; refine (UnreadByte_any g s (i0 + k) _ hRd (by omega)).mono ?_; rintro e w2 ⟨rfl, hr2, hg2⟩)
            go_meet
            exact ⟨k, j, N, D, HST.out.grown hg2 hgw, HRUN.out, hr2, Or.inl rfl, rfl, rfl, rfl, rfl, rfl, rfl, rfl⟩
          · have a1 : (48 : Int) ≤ (c.toNat : Int) := by omega
            have a2 : (57 : Int) < (c.toNat : Int) := by omega
            have a3 : (c.toNat : Int) < 97 := by omega
            have a4 : (c.toNat : Int) ≤ 122 := by omega
            have a5 : (c.toNat : Int) < 65 := by omega
            have a6 : (c.toNat : Int) ≤ 90 := by omega
            have e1 : ((c.toNat : Int) == 46) = false := by rw [beq_eq_false_iff_ne]; omega
            have e2 : ((c.toNat : Int) == 95) = false := by rw [beq_eq_false_iff_ne]; omega
            go_wp2_with (go_at_call 323; refine (UnreadByte_any g s (i0 + k) _ hRd (by omega)).mono ?_; rintro e w2 ⟨rfl, hr2, hg2⟩)
            go_meet
            exact ⟨k, j, N, D, HST.out.grown hg2 hgw, HRUN.out, hr2, Or.inl rfl, rfl, rfl, rfl, rfl, rfl, rfl, rfl⟩
          · have a1 : (48 : Int) ≤ (c.toNat : Int) := by omega
            have a2 : (57 : Int) < (c.toNat : Int) := by omega
            have a3 : (c.toNat : Int) < 97 := by omega
            have a4 : (c.toNat : Int) ≤ 122 := by omega
            have a5 : (65 : Int) ≤ (c.toNat : Int) := by omega
            have a6 : (c.toNat : Int) ≤ 90 := by omega
            have e1 : ((c.toNat : Int) == 46) = false := by rw [beq_eq_false_iff_ne]; omega
            have e2 : ((c.toNat : Int) == 95) = false := by rw [beq_eq_false_iff_ne]; omega
            go_wp2_with (go_at_call 323; refine (UnreadByte_any g s (i0 + k) _ hRd (by omega)).mono ?_; rintro e w2 ⟨rfl, hr2, hg2⟩)
            go_meet
            exact ⟨k, j, N, D, HST.out.grown hg2 hgw, HRUN.out, hr2, Or.inl rfl, rfl, rfl, rfl, rfl, rfl, rfl, rfl⟩
          · have a1 : (48 : Int) ≤ (c.toNat : Int) := by omega
            have a2 : (57 : Int) < (c.toNat : Int) := by omega
            have a3 : (c.toNat : Int) < 97 := by omega
            have a4 : (c.toNat : Int) ≤ 122 := by omega
            have a5 : (65 : Int) ≤ (c.toNat : Int) := by omega
            have a6 : (90 : Int) < (c.toNat : Int) := by omega
            have e1 : ((c.toNat : Int) == 46) = false := by rw [beq_eq_false_iff_ne]; omega
            have e2 : ((c.toNat : Int) == 95) = false := by rw [beq_eq_false_iff_ne]; omega
            go_wp2_with (go_at_call 323; refine (UnreadByte_any g s (i0 + k) _ hRd (by omega)).mono ?_; rintro e w2 ⟨rfl, hr2, hg2⟩)
            go_meet
            exact ⟨k, j, N, D, HST.out.grown hg2 hgw, HRUN.out, hr2, Or.inl rfl, rfl, rfl, rfl, rfl, rfl, rfl, rfl⟩
          · have a1 : (48 : Int) ≤ (c.toNat : Int) := by omega
            have a2 : (57 : Int) < (c.toNat : Int) := by omega
            have a3 : (c.toNat : Int) < 97 := by omega
            have a4 : (c.toNat : Int) ≤ 122 := by omega
            have a5 : (65 : Int) ≤ (c.toNat : Int) := by omega
            have a6 : (90 : Int) < (c.toNat : Int) := by omega
            have e1 : ((c.toNat : Int) == 46) = false := by rw [beq_eq_false_iff_ne]; omega
            have e2 : ((c.toNat : Int) == 95) = true := by rw [beq_iff_eq]; omega
            go_wp2_with (go_at_call 323; refine (UnreadByte_any g s (i0 + k) _ hRd (by omega)).mono ?_; rintro e w2 ⟨rfl, hr2, hg2⟩)
            go_meet
            exact ⟨k, j, N, D, HST.out.grown hg2 hgw, HRUN.out, hr2, Or.inl rfl, rfl, rfl, rfl, rfl, rfl, rfl, rfl⟩
          · have a1 : (48 : Int) ≤ (c.toNat : Int) := by omega
            have a2 : (57 : Int) < (c.toNat : Int) := by omega
            have a3 : (c.toNat : Int) < 97 := by omega
            have a4 : (c.toNat : Int) ≤ 122 := by omega
            have a5 : (65 : Int) ≤ (c.toNat : Int) := by omega
            have a6 : (90 : Int) < (c.toNat : Int) := by omega
            have e1 : ((c.toNat : Int) == 46) = false := by rw [beq_eq_false_iff_ne]; omega
            have e2 : ((c.toNat : Int) == 95) = false := by rw [beq_eq_false_iff_ne]; omega
            go_wp2_with (go_at_call 323; refine (UnreadByte_any g s (i0 + k) _ hRd (by omega)).mono ?_; rintro e w2 ⟨rfl, hr2, hg2⟩)
            go_meet
            exact ⟨k, j, N, D, HST.out.grown hg2 hgw, HRUN.out, hr2, Or.inl rfl, rfl, rfl, rfl, rfl, rfl, rfl, rfl⟩
          · have a1 : (48 : Int) ≤ (c.toNat : Int) := by omega
            have a2 : (57 : Int) < (c.toNat : Int) := by omega
            have a3 : (97 : Int) ≤ (c.toNat : Int) := by omega
            have a4 : (c.toNat : Int) ≤ 122 := by omega
            have a5 : (65 : Int) ≤ (c.toNat : Int) := by omega
            have a6 : (90 : Int) < (c.toNat : Int) := by omega
            have e1 : ((c.toNat : Int) == 46) = false := by rw [beq_eq_false_iff_ne]; omega
            have e2 : ((c.toNat : Int) == 95) = false := by rw [beq_eq_false_iff_ne]; omega
            go_wp2_with (go_at_call 323; refine (UnreadByte_any g s (i0 + k) _ hRd (by omega)).mono ?_; rintro e w2 ⟨rfl, hr2, hg2⟩)
            go_meet
            exact ⟨k, j, N, D, HST.out.grown hg2 hgw, HRUN.out, hr2, Or.inl rfl, rfl, rfl, rfl, rfl, rfl, rfl, rfl⟩
          · have a1 : (48 : Int) ≤ (c.toNat : Int) := by omega
            have a2 : (57 : Int) < (c.toNat : Int) := by omega
            have a3 : (97 : Int) ≤ (c.toNat : Int) := by omega
            have a4 : (122 : Int) < (c.toNat : Int) := by omega
            have a5 : (65 : Int) ≤ (c.toNat : Int) := by omega
            have a6 : (90 : Int) < (c.toNat : Int) := by omega
            have e1 : ((c.toNat : Int) == 46) = false := by rw [beq_eq_false_iff_ne]; omega
            have e2 : ((c.toNat : Int) == 95) = false := by rw [beq_eq_false_iff_ne]; omega
            go_wp2_with (go_at_call 323; refine (UnreadByte_any g s (i0 + k) _ hRd (by omega)).mono ?_; rintro e w2 ⟨rfl, hr2, hg2⟩)
            go_meet
            exact ⟨k, j, N, D, HST.out.grown hg2 hgw, HRUN.out, hr2, Or.inl rfl, rfl, rfl, rfl, rfl, rfl, rfl, rfl⟩
      · go_wp2
        go_meet
        exact ⟨k, j, N, D, HST.out, HST.out.run (Or.inl hk), hRd, Or.inr rfl, rfl, rfl, rfl, rfl, rfl, rfl, rfl⟩
  case rest =>
    obtain ⟨k, j, N, D, hst, hrun, hRd, herr, rfl, rfl, rfl, rfl, rfl, rfl, rfl⟩ := hcut
    have hVc := hV.grown hst.gr h8
    obtain ⟨hE, hNV⟩ := hVc
    have hq1 := err_eq_same pe
    have hq2 := err_eq_nil pe
    have hj := hst.few
    have HST := Lib.hid hst
    have HRUN := Lib.hid hrun
    clear hst hrun hV hlook hg1 hR
    by_cases hk0 : k = 0
    · subst hk0
      obtain ⟨z1, z2, z3⟩ := HST.out.zero rfl
      subst z1; subst z2; subst z3
      have hp : prevV 0 = .int .i32 46 := rfl
      have hnil : digRun (restOf s i0) = [] := by rw [HRUN.out]; rfl
      have HNIL := Lib.hid hnil
      clear hnil
      rcases herr with rfl | rfl
      all_goals
        go_wp2
        refine bodyPost_ret (v := .tuple #[u0, .int .i64 10, .int .i64 0, .iface 305 (.pointer (some pn))]) (by simp [results, Tryz.results161, go_sem]) rfl ⟨u0, 0, ?_, ?_, ?_, HST.out.gr⟩
        · rw [if_pos HNIL.out]
        · rw [HNIL.out]; exact HST.out.nat
        · rw [HNIL.out]; exact hRd
    · have hp : prevV k = .int .i32 48 := by rw [prevV, if_neg hk0]
      have hkz : ((k : Int) == 0) = false := by rw [beq_eq_false_iff_ne]; omega
      have hrl : (digRun (restOf s i0)).length = k := by
        rw [HRUN.out, List.length_take, rest_len]
        have := HST.out.len
        omega
      have hnn : digRun (restOf s i0) ≠ [] := by intro e; rw [e] at hrl; exact hk0 hrl.symm
      have hval : Pl.natOf (digRun (restOf s i0)) = N * 10 ^ j + D := by rw [HRUN.out]; exact HST.out.acc
      have HRL := Lib.hid hrl
      have HNN := Lib.hid hnn
      have HVAL := Lib.hid hval
      clear hrl hnn hval
      by_cases hj0 : j = 0
      · subst hj0
        have hD0 : D = 0 := by have := HST.out.low; omega
        subst hD0
        rcases herr with rfl | rfl
        all_goals
          go_wp2
          refine bodyPost_ret (v := .tuple #[u0, .int .i64 10, .int .i64 k, .nilIface]) (by simp [results, Tryz.results161, go_sem]) rfl ⟨u0, k, ?_, ?_, ?_, HST.out.gr⟩
          · rw [if_neg HNN.out]
          · rw [HVAL.out]; simpa using HST.out.nat
          · rw [HRL.out]; exact hRd
      · have hjz : (0 : Int) < (j : Int) := by omega
        have hten := ten_le (k := j) (by omega)
        have hC : Calls Tryz.prog 173 #[u0, u0, .int .u64 ((10 ^ j : Nat) : Int), .int .u64 (D : Int)] wc (NatBack w.heap.size (N * 10 ^ j + D) wc) :=
          mulAddWW_any w.heap.size u0 N (10 ^ j) D wc HST.out.nat (Nat.le_trans (HST.out.words hs) (by omega)) (Nat.pow_pos (by omega)) (by rw [M_eq]; omega) (by rw [M_eq]; have := HST.out.D_le; omega) HST.out.gr.size
        have hP := fun W => pow_ten j (by omega) W
        obtain ⟨q, hq⟩ : ∃ q : Nat, 10 ^ j = q := ⟨_, rfl⟩
        rw [hq] at hC hP HVAL
        have HC := Lib.hid hC
        have HP := Lib.hid hP
        clear hC hP hq hten
        rcases herr with rfl | rfl
        all_goals
          go_wp2_with (first
            | (go_at_call 174; refine (HP.out _).mono ?_; rintro e w2 ⟨rfl, rfl⟩)
            | (go_at_call 173; refine HC.out.mono ?_; rintro e w2 ⟨v2, rfl, hn2, hb2⟩))
          refine bodyPost_ret (v := .tuple #[v2, .int .i64 10, .int .i64 k, .nilIface]) (by simp [results, Tryz.results161, go_sem]) rfl ⟨v2, k, ?_, ?_, ?_, grown_below HST.out.gr hb2⟩
          · rw [if_neg HNN.out]
          · rw [HVAL.out]; exact hn2
          · rw [HRL.out]; exact Blk.below hRd hb2 hgw
end Go.Proofs.YtgfkdjmoflbmdaaGreatDoor
