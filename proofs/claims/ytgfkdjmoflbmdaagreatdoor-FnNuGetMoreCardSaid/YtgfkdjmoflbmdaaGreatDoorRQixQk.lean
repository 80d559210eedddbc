/- Contracts; Contracts. -/
import Derived.Test.YtgfkdjmoflbmdaaGreatDoorRQh
namespace Go.Proofs.YtgfkdjmoflbmdaaGreatDoor
open Go.RowKit
open Go.Proofs
def H32 : Nat := 4294967296
theorem H32_eq : H32 = 4294967296 := rfl
theorem M_H : M = H32 * H32 := rfl
theorem and32 (x : Nat) (h : x < M) : bits .and .u64 (x : Int) 4294967295 = ((x % H32 : Nat) : Int) := by
  rw [M_eq] at h
  have := bits_mask .u64 64 (by decide) wraps_u64 32 (by decide) (x : Int) (by omega) (by rw [show (2 : Int) ^ 64 = 18446744073709551616 from by decide]; omega)
  rw [show (2 : Int) ^ 32 = 4294967296 from by decide] at this
  rw [show (4294967295 : Int) = 4294967296 - 1 from by decide, this, H32_eq]
  omega
set_option maxRecDepth 100000 in
set_option maxHeartbeats 2000000 in
theorem bitsDiv64_zero (lo y : Nat) (w : World) (hy : 0 < y) (hyM : y < M) (hlo : lo < M) :
    Calls Tryz.prog 276 #[.int .u64 0, .int .u64 (lo : Int), .int .u64 (y : Int)] w fun e w' => e = .returned (.tuple #[.int .u64 ((lo / y : Nat) : Int), .int .u64 ((lo % y : Nat) : Int)]) ∧ Below w.heap.size w w' := by
  rw [M_eq] at *
  have h1 : ((y : Int) == 0) = false := by rw [beq_eq_false_iff_ne]; omega
  have h2 : ¬ (y : Int) ≤ 0 := by omega
  have h3 : ¬ (y : Int) = 0 := by omega
  have h4 : (0 : Int) < (y : Int) := by omega
  obtain ⟨q, hq⟩ : ∃ q, lo / y = q := ⟨_, rfl⟩
  obtain ⟨r, hr⟩ : ∃ r, lo % y = r := ⟨_, rfl⟩
  have f1 : IntKind.u64.wrap ((lo : Int) / (y : Int)) = (q : Int) := by
    have h5 := Nat.div_le_self lo y
    rw [← Int.natCast_ediv, hq, IntKind.wrap_u64]
    omega
  have f2 : (lo : Int) % (y : Int) = (r : Int) := by rw [← Int.natCast_emod, hr]
  rw [hq, hr]
  clear hq hr
  go_enter Tryz.func276, Tryz.ntmps276
  go_wp2_with fail
  go_quiet (fail)
  go_wp2
  exact bodyPost_ret (v := .tuple #[.int .u64 (q : Int), .int .u64 (r : Int)]) (by (simp [results, Tryz.results276, go_sem]; try exact f2)) rfl ⟨rfl, below_drewN (Below.refl _ _) _⟩
set_option maxRecDepth 100000 in
set_option maxHeartbeats 4000000 in
theorem bitsDiv64_top (hi lo y : Nat) (w : World) (h0 : 0 < hi) (hhi : hi < y) (hy : 2 ^ 63 ≤ y) (hyM : y < M) (hlo : lo < M) :
    Calls Tryz.prog 276 #[.int .u64 (hi : Int), .int .u64 (lo : Int), .int .u64 (y : Int)] w fun e w' => e = .returned (.tuple #[.int .u64 (((hi * M + lo) / y : Nat) : Int), .int .u64 (((hi * M + lo) % y : Nat) : Int)]) ∧ w = w' := by
  have hb := bitLen_of (y := y) (k := 63) hy hyM (by omega)
  have HL := Lib.hid (Tryz.bits_LeadingZeros64 (y : Int) w (by omega) (by rw [M_eq] at hyM; omega))
  rw [Int.toNat_natCast, hb] at HL
  have k1 : ((y : Int) == 0) = false := by rw [beq_eq_false_iff_ne]; omega
  have k2 : ¬ (y : Int) ≤ (hi : Int) := by omega
  have k3 : ((hi : Int) == 0) = false := by rw [beq_eq_false_iff_ne]; omega
  clear hb
  have e63 : M = 2 * 2 ^ 63 := rfl
  obtain ⟨y1, hy1⟩ : ∃ a, y / H32 = a := ⟨_, rfl⟩
  obtain ⟨y0, hy0⟩ : ∃ a, y % H32 = a := ⟨_, rfl⟩
  obtain ⟨u1, hu1⟩ : ∃ a, lo / H32 = a := ⟨_, rfl⟩
  obtain ⟨u0, hu0⟩ : ∃ a, lo % H32 = a := ⟨_, rfl⟩
  have a1 := and32 y hyM
  have a2 := and32 lo hlo
  rw [hy0] at a1
  rw [hu0] at a2
  have g1 : y = y1 * H32 + y0 ∧ y0 < H32 ∧ H32 ≤ 2 * y1 ∧ y1 < H32 := by rw [H32_eq] at *; rw [M_eq] at *; omega
  have g2 : lo = u1 * H32 + u0 ∧ u0 < H32 ∧ u1 < H32 := by rw [H32_eq] at *; rw [M_eq] at *; omega
  obtain ⟨gy, gy0, gy1, gy2⟩ := g1
  obtain ⟨gl, gu0, gu1⟩ := g2
  have f1 : IntKind.u64.wrap (y : Int) = (y : Int) := by rw [IntKind.wrap_u64]; rw [M_eq] at hyM; omega
  have f2 : IntKind.u64.wrap (hi : Int) = (hi : Int) := by rw [IntKind.wrap_u64]; rw [M_eq] at hyM; omega
  have f3 : IntKind.u64.wrap (lo : Int) = (lo : Int) := by rw [IntKind.wrap_u64]; rw [M_eq] at hlo; omega
  have f4 : (lo : Int) / 18446744073709551616 = 0 := by rw [M_eq] at hlo; omega
  have f5 : bits .or .u64 (hi : Int) 0 = (hi : Int) := by
    have := bits_join .u64 64 (by decide) wraps_u64 0 (hi : Int) 0 (by omega) (by simp) (by rw [show (2 : Int) ^ 64 = 18446744073709551616 from by decide]; rw [M_eq] at hyM; omega) (by omega) (by simp) (by decide)
    rw [this]; omega
  have f6 : (y : Int) / 4294967296 = (y1 : Int) := by rw [H32_eq] at hy1; omega
  have f7 : (lo : Int) / 4294967296 = (u1 : Int) := by rw [H32_eq] at hu1; omega
  have f8 : ¬ (y1 : Int) = 0 := by rw [H32_eq] at *; omega
  obtain ⟨q, hq⟩ : ∃ q, hi / y1 = q := ⟨_, rfl⟩
  have hst := Pl.dig_start (U := hi) (d := u1) gy1 gy0 (by omega) gu1
  rw [hq] at hst
  have hqy : q * y1 ≤ hi := by rw [← hq]; exact Nat.div_mul_le_self _ _
  obtain ⟨p, hp⟩ : ∃ p, q * y1 = p := ⟨_, rfl⟩
  obtain ⟨r, hr⟩ : ∃ r, hi - p = r := ⟨_, rfl⟩
  rw [hp] at hst hqy
  rw [hr] at hst
  have f9 : IntKind.u64.wrap ((hi : Int) / (y1 : Int)) = (q : Int) := by
    have h5 := Nat.div_le_self hi y1
    rw [← Int.natCast_ediv, hq, IntKind.wrap_u64]
    rw [M_eq] at hyM
    omega
  have f10 : IntKind.u64.wrap ((q : Int) * (y1 : Int)) = (p : Int) := by
    rw [← Int.natCast_mul, hp, IntKind.wrap_u64]
    rw [M_eq] at hyM
    omega
  have f11 : IntKind.u64.wrap ((hi : Int) - (p : Int)) = (r : Int) := by
    rw [IntKind.wrap_u64]
    rw [M_eq] at hyM
    omega
  have hqr : hi < q * y1 + y1 := by
    have := Nat.lt_div_mul_add (a := hi) (b := y1) (by rw [H32_eq] at gy1; omega)
    rw [hq] at this; exact this
  have hrH : r < H32 := by rw [hp] at hqr; omega
  have HST := Lib.hid hst
  have GY := Lib.hid gy
  have GL := Lib.hid gl
  clear hqr gy gl hst hr hp hq hy1 hy0 hu1 hu0 e63
  have hhi' : hi < y := hhi
  have htd := Pl.two_digits (H := H32) (hi := hi) (u1 := u1) (u0 := u0) (y := y) (by omega)
  rw [show hi * (H32 * H32) + u1 * H32 + u0 = hi * M + lo from by rw [← M_H, Nat.add_assoc, ← GL.out]] at htd
  obtain ⟨Q1, hQ1⟩ : ∃ a, (hi * H32 + u1) / y = a := ⟨_, rfl⟩
  obtain ⟨R1, hR1e⟩ : ∃ a, (hi * H32 + u1) % y = a := ⟨_, rfl⟩
  rw [hQ1, hR1e] at htd
  obtain ⟨Q0, hQ0⟩ : ∃ a, (R1 * H32 + u0) / y = a := ⟨_, rfl⟩
  obtain ⟨R0, hR0e⟩ : ∃ a, (R1 * H32 + u0) % y = a := ⟨_, rfl⟩
  rw [hQ0, hR0e] at htd
  have hR1 : R1 < y := by rw [← hR1e]; exact Nat.mod_lt _ (by omega)
  have hR0 : R0 < y := by rw [← hR0e]; exact Nat.mod_lt _ (by omega)
  have hd1 := Nat.div_add_mod (hi * H32 + u1) y
  rw [hQ1, hR1e, Nat.mul_comm y] at hd1
  have hd0 := Nat.div_add_mod (R1 * H32 + u0) y
  rw [hQ0, hR0e, Nat.mul_comm y] at hd0
  have hQ1l := Pl.dig_lt (U := hi) (d := u1) (by rw [← GY.out]; exact hhi) gu1
  rw [← GY.out, hQ1] at hQ1l
  have hQ0l := Pl.dig_lt (U := R1) (d := u0) (by rw [← GY.out]; exact hR1) gu0
  rw [← GY.out, hQ0] at hQ0l
  have HQ1 := Lib.hid hQ1
  have HQ0 := Lib.hid hQ0
  -- between the loops
  obtain ⟨A, hA⟩ : ∃ a, (hi * H32) % M = a := ⟨_, rfl⟩
  obtain ⟨B, hB⟩ : ∃ a, (hi * H32 + u1) % M = a := ⟨_, rfl⟩
  obtain ⟨C, hC⟩ : ∃ a, (Q1 * y) % M = a := ⟨_, rfl⟩
  have b1 : IntKind.u64.wrap ((hi : Int) * 4294967296) = (A : Int) := by rw [IntKind.wrap_u64]; rw [H32_eq, M_eq] at hA; omega
  have b2 : IntKind.u64.wrap ((A : Int) + (u1 : Int)) = (B : Int) := by rw [IntKind.wrap_u64]; rw [H32_eq, M_eq] at *; omega
  have b3 : IntKind.u64.wrap ((Q1 : Int) * (y : Int)) = (C : Int) := by rw [← Int.natCast_mul, IntKind.wrap_u64]; rw [M_eq] at hC; omega
  have b4 : IntKind.u64.wrap ((B : Int) - (C : Int)) = (R1 : Int) := by
    rw [IntKind.wrap_u64]
    generalize Q1 * y = X at *
    rw [H32_eq] at *
    rw [M_eq] at *
    omega
  obtain ⟨q2, hq2⟩ : ∃ q, R1 / y1 = q := ⟨_, rfl⟩
  have hst2 := Pl.dig_start (U := R1) (d := u0) gy1 gy0 (by rw [← GY.out]; exact hR1) gu0
  rw [hq2] at hst2
  have hqy2 : q2 * y1 ≤ R1 := by rw [← hq2]; exact Nat.div_mul_le_self _ _
  have hqr2 : R1 < q2 * y1 + y1 := by
    have := Nat.lt_div_mul_add (a := R1) (b := y1) (by rw [H32_eq] at gy1; omega)
    rw [hq2] at this; exact this
  obtain ⟨p2, hp2⟩ : ∃ p, q2 * y1 = p := ⟨_, rfl⟩
  obtain ⟨r2, hr2⟩ : ∃ r, R1 - p2 = r := ⟨_, rfl⟩
  rw [hp2] at hst2 hqy2 hqr2
  rw [hr2] at hst2
  have hr2H : r2 < H32 := by omega
  have b5 : IntKind.u64.wrap ((R1 : Int) / (y1 : Int)) = (q2 : Int) := by
    have h5 := Nat.div_le_self R1 y1
    rw [← Int.natCast_ediv, hq2, IntKind.wrap_u64]
    rw [M_eq] at hyM
    omega
  have b6 : IntKind.u64.wrap ((q2 : Int) * (y1 : Int)) = (p2 : Int) := by
    rw [← Int.natCast_mul, hp2, IntKind.wrap_u64]
    rw [M_eq] at hyM
    omega
  have b7 : IntKind.u64.wrap ((R1 : Int) - (p2 : Int)) = (r2 : Int) := by
    rw [IntKind.wrap_u64]
    rw [M_eq] at hyM
    omega
  have HST2 := Lib.hid hst2
  -- behind the loops
  obtain ⟨D, hD⟩ : ∃ a, (R1 * H32) % M = a := ⟨_, rfl⟩
  obtain ⟨E, hE⟩ : ∃ a, (R1 * H32 + u0) % M = a := ⟨_, rfl⟩
  obtain ⟨F, hF⟩ : ∃ a, (Q0 * y) % M = a := ⟨_, rfl⟩
  obtain ⟨G, hG⟩ : ∃ a, Q1 * H32 = a := ⟨_, rfl⟩
  obtain ⟨K, hK⟩ : ∃ a, G + Q0 = a := ⟨_, rfl⟩
  have b8 : IntKind.u64.wrap ((R1 : Int) * 4294967296) = (D : Int) := by rw [IntKind.wrap_u64]; rw [H32_eq, M_eq] at hD; omega
  have b9 : IntKind.u64.wrap ((D : Int) + (u0 : Int)) = (E : Int) := by rw [IntKind.wrap_u64]; rw [H32_eq, M_eq] at *; omega
  have b10 : IntKind.u64.wrap ((Q0 : Int) * (y : Int)) = (F : Int) := by rw [← Int.natCast_mul, IntKind.wrap_u64]; rw [M_eq] at hF; omega
  have b11 : IntKind.u64.wrap ((E : Int) - (F : Int)) = (R0 : Int) := by
    rw [IntKind.wrap_u64]
    generalize Q0 * y = X at *
    rw [H32_eq] at *
    rw [M_eq] at *
    omega
  have b12 : IntKind.u64.wrap ((Q1 : Int) * 4294967296) = (G : Int) := by rw [IntKind.wrap_u64]; rw [H32_eq] at *; omega
  have b13 : IntKind.u64.wrap ((G : Int) + (Q0 : Int)) = (K : Int) := by rw [IntKind.wrap_u64]; rw [H32_eq] at *; omega
  rw [hG, hK] at htd
  rw [htd.1, htd.2]
  have hhi := hhi'
  have hu1 := gu1
  have hu0 := gu0
  clear htd hD hE hF hG hK hst2 hr2 hp2 hq2 hqy2 hqr2 hA hB hC hd1 hd0 hQ1 hQ0 hR1e hR0e hhi' hR0
  go_enter Tryz.func276, Tryz.ntmps276
  go_wp2_with fail
  refine HL.out.mono ?_; rintro e w2 ⟨rfl, rfl⟩
  go_upto_block 0 with fail
  go_cut [15] (fun qv wx => qv = .int .u64 (Q1 : Int) ∧ w2 = wx)
  case first =>
    go_wp2_with fail
    go_loopw [15, 16] (fun qv rv wx => ∃ q r : Nat, qv = .int .u64 (q : Int) ∧ rv = .int .u64 (r : Int) ∧ Pl.Dig H32 hi y1 y0 u1 q r ∧ r < H32 ∧ wx = w2) (fun qv _ _ => (intOf qv).toNat)
    case atStart => exact ⟨q, r, rfl, rfl, HST.out, hrH, rfl⟩
    case round =>
      obtain ⟨q, r, rfl, rfl, hdg, hrH, rfl⟩ := hrel
      have HDG := Lib.hid hdg
      have hqle := hdg.le
      clear hdg
      by_cases hqH : H32 ≤ q
      · obtain ⟨hq0, hnx⟩ := Pl.dig_down hu1 (by rw [← GY.out]; exact hhi) HDG.out (Or.inl hqH)
        have HNX := Lib.hid hnx
        have c1 : (4294967296 : Int) ≤ (q : Int) := by rw [H32_eq] at hqH; omega
        have c2 : IntKind.u64.wrap ((q : Int) - 1) = ((q - 1 : Nat) : Int) := by rw [IntKind.wrap_u64]; rw [H32_eq] at hqle; omega
        have c3 : IntKind.u64.wrap ((r : Int) + (y1 : Int)) = ((r + y1 : Nat) : Int) := by rw [IntKind.wrap_u64]; rw [H32_eq] at hrH gy2; omega
        obtain ⟨qn, hqn⟩ : ∃ a, q - 1 = a := ⟨_, rfl⟩
        obtain ⟨rn, hrn⟩ : ∃ a, r + y1 = a := ⟨_, rfl⟩
        rw [hqn] at c2 HNX
        rw [hrn] at c3 HNX
        have hqn1 : qn ≤ H32 ∧ qn < q := by omega
        clear hqH hqle hqn hrn hnx
        by_cases hrb : H32 ≤ rn
        · have c4 : (4294967296 : Int) ≤ (rn : Int) := by rw [H32_eq] at hrb; omega
          have hqe := Pl.dig_break gy0 (by rw [← GY.out]; exact hhi) HNX.out hqn1.1 hrb
          rw [← GY.out, HQ1.out] at hqe
          subst hqe
          clear hrb
          go_wp2
          go_meet
          case rel => exact ⟨rfl, rfl⟩
        · have c4 : ¬ (4294967296 : Int) ≤ (rn : Int) := by rw [H32_eq] at hrb; omega
          have hrl : rn < H32 := by omega
          clear hrb
          go_wp2
          go_roundw
          case rel => exact ⟨qn, rn, rfl, rfl, HNX.out, hrl, trivial⟩
          case measure => simp [intOf]; omega
      · have c1 : ¬ (4294967296 : Int) ≤ (q : Int) := by rw [H32_eq] at hqH; omega
        have hP : q * y0 < H32 * H32 := Nat.mul_lt_mul'' (by omega) gy0
        have hR : H32 * r + u1 < H32 * H32 := by
          have := Nat.mul_le_mul_left H32 (show r + 1 ≤ H32 by omega)
          rw [Nat.mul_add, Nat.mul_one] at this
          omega
        obtain ⟨P, hPe⟩ : ∃ a, q * y0 = a := ⟨_, rfl⟩
        obtain ⟨R, hRe⟩ : ∃ a, H32 * r = a := ⟨_, rfl⟩
        obtain ⟨S2, hSe⟩ : ∃ a, R + u1 = a := ⟨_, rfl⟩
        have c2 : IntKind.u64.wrap ((q : Int) * (y0 : Int)) = (P : Int) := by
          rw [← Int.natCast_mul, hPe, IntKind.wrap_u64]
          rw [hPe, ← M_H, M_eq] at hP
          omega
        have c3 : IntKind.u64.wrap (4294967296 * (r : Int)) = (R : Int) := by
          rw [hRe, ← M_H, M_eq] at hR
          rw [H32_eq] at hRe
          rw [IntKind.wrap_u64]
          omega
        have c5 : IntKind.u64.wrap ((R : Int) + (u1 : Int)) = (S2 : Int) := by
          rw [hRe, ← M_H, M_eq] at hR
          rw [IntKind.wrap_u64]
          omega
        rw [hRe] at hR
        by_cases hgt : S2 < P
        · obtain ⟨hq0, hnx⟩ := Pl.dig_down hu1 (by rw [← GY.out]; exact hhi) HDG.out (Or.inr (by rw [hPe, hRe, hSe]; exact hgt))
          have HNX := Lib.hid hnx
          have c6 : (S2 : Int) < (P : Int) := by omega
          have c7 : IntKind.u64.wrap ((q : Int) - 1) = ((q - 1 : Nat) : Int) := by rw [IntKind.wrap_u64]; rw [H32_eq] at hqle; omega
          have c8 : IntKind.u64.wrap ((r : Int) + (y1 : Int)) = ((r + y1 : Nat) : Int) := by rw [IntKind.wrap_u64]; rw [H32_eq] at hrH gy2; omega
          obtain ⟨qn, hqn⟩ : ∃ a, q - 1 = a := ⟨_, rfl⟩
          obtain ⟨rn, hrn⟩ : ∃ a, r + y1 = a := ⟨_, rfl⟩
          rw [hqn] at c7 HNX
          rw [hrn] at c8 HNX
          have hqn1 : qn ≤ H32 ∧ qn < q := by omega
          clear hqH hqle hqn hrn hnx hgt hP hR hPe hRe hSe
          by_cases hrb : H32 ≤ rn
          · have c4 : (4294967296 : Int) ≤ (rn : Int) := by rw [H32_eq] at hrb; omega
            have hqe := Pl.dig_break gy0 (by rw [← GY.out]; exact hhi) HNX.out hqn1.1 hrb
            rw [← GY.out, HQ1.out] at hqe
            subst hqe
            clear hrb
            go_wp2
            go_meet
            case rel => exact ⟨rfl, rfl⟩
          · have c4 : ¬ (4294967296 : Int) ≤ (rn : Int) := by rw [H32_eq] at hrb; omega
            have hrl : rn < H32 := by omega
            clear hrb
            go_wp2
            go_roundw
            case rel => exact ⟨qn, rn, rfl, rfl, HNX.out, hrl, trivial⟩
            case measure => simp [intOf]; omega
        · have hqe := Pl.dig_stop (by rw [← GY.out]; exact hhi) HDG.out (by rw [hPe, hRe, hSe]; omega)
          rw [← GY.out, HQ1.out] at hqe
          have c6 : ¬ (S2 : Int) < (P : Int) := by omega
          clear hgt hP hR hPe hRe hSe hqH hqle
          subst hqe
          go_wp2
          go_meet
          case rel => exact ⟨rfl, rfl⟩
  case rest =>
    obtain ⟨rfl, rfl⟩ := hcut
    go_upto_block 2 with fail
    go_cut [18] (fun qv wx => qv = .int .u64 (Q0 : Int) ∧ w2 = wx)
    case first =>
      go_wp2_with fail
      go_loopw [18, 16] (fun qv rv wx => ∃ q r : Nat, qv = .int .u64 (q : Int) ∧ rv = .int .u64 (r : Int) ∧ Pl.Dig H32 R1 y1 y0 u0 q r ∧ r < H32 ∧ wx = w2) (fun qv _ _ => (intOf qv).toNat)
      case atStart => exact ⟨q2, r2, rfl, rfl, HST2.out, hr2H, rfl⟩
      case round =>
        obtain ⟨q, r, rfl, rfl, hdg, hrH, rfl⟩ := hrel
        have HDG := Lib.hid hdg
        have hqle := hdg.le
        clear hdg
        by_cases hqH : H32 ≤ q
        · obtain ⟨hq0, hnx⟩ := Pl.dig_down hu0 (by rw [← GY.out]; exact hR1) HDG.out (Or.inl hqH)
          have HNX := Lib.hid hnx
          have c1 : (4294967296 : Int) ≤ (q : Int) := by rw [H32_eq] at hqH; omega
          have c2 : IntKind.u64.wrap ((q : Int) - 1) = ((q - 1 : Nat) : Int) := by rw [IntKind.wrap_u64]; rw [H32_eq] at hqle; omega
          have c3 : IntKind.u64.wrap ((r : Int) + (y1 : Int)) = ((r + y1 : Nat) : Int) := by rw [IntKind.wrap_u64]; rw [H32_eq] at hrH gy2; omega
          obtain ⟨qn, hqn⟩ : ∃ a, q - 1 = a := ⟨_, rfl⟩
          obtain ⟨rn, hrn⟩ : ∃ a, r + y1 = a := ⟨_, rfl⟩
          rw [hqn] at c2 HNX
          rw [hrn] at c3 HNX
          have hqn1 : qn ≤ H32 ∧ qn < q := by omega
          clear hqH hqle hqn hrn hnx
          by_cases hrb : H32 ≤ rn
          · have c4 : (4294967296 : Int) ≤ (rn : Int) := by rw [H32_eq] at hrb; omega
            have hqe := Pl.dig_break gy0 (by rw [← GY.out]; exact hR1) HNX.out hqn1.1 hrb
            rw [← GY.out, HQ0.out] at hqe
            subst hqe
            clear hrb
            go_wp2
            go_meet
            case rel => exact ⟨rfl, rfl⟩
          · have c4 : ¬ (4294967296 : Int) ≤ (rn : Int) := by rw [H32_eq] at hrb; omega
            have hrl : rn < H32 := by omega
            clear hrb
            go_wp2
            go_roundw
            case rel => exact ⟨qn, rn, rfl, rfl, HNX.out, hrl, trivial⟩
            case measure => simp [intOf]; omega
        · have c1 : ¬ (4294967296 : Int) ≤ (q : Int) := by rw [H32_eq] at hqH; omega
          have hP : q * y0 < H32 * H32 := Nat.mul_lt_mul'' (by omega) gy0
          have hR : H32 * r + u0 < H32 * H32 := by
            have := Nat.mul_le_mul_left H32 (show r + 1 ≤ H32 by omega)
            rw [Nat.mul_add, Nat.mul_one] at this
            omega
          obtain ⟨P, hPe⟩ : ∃ a, q * y0 = a := ⟨_, rfl⟩
          obtain ⟨R, hRe⟩ : ∃ a, H32 * r = a := ⟨_, rfl⟩
          obtain ⟨S2, hSe⟩ : ∃ a, R + u0 = a := ⟨_, rfl⟩
          have c2 : IntKind.u64.wrap ((q : Int) * (y0 : Int)) = (P : Int) := by
            rw [← Int.natCast_mul, hPe, IntKind.wrap_u64]
            rw [hPe, ← M_H, M_eq] at hP
            omega
          have c3 : IntKind.u64.wrap (4294967296 * (r : Int)) = (R : Int) := by
            rw [hRe, ← M_H, M_eq] at hR
            rw [H32_eq] at hRe
            rw [IntKind.wrap_u64]
            omega
          have c5 : IntKind.u64.wrap ((R : Int) + (u0 : Int)) = (S2 : Int) := by
            rw [hRe, ← M_H, M_eq] at hR
            rw [IntKind.wrap_u64]
            omega
          rw [hRe] at hR
          by_cases hgt : S2 < P
          · obtain ⟨hq0, hnx⟩ := Pl.dig_down hu0 (by rw [← GY.out]; exact hR1) HDG.out (Or.inr (by rw [hPe, hRe, hSe]; exact hgt))
            have HNX := Lib.hid hnx
            have c6 : (S2 : Int) < (P : Int) := by omega
            have c7 : IntKind.u64.wrap ((q : Int) - 1) = ((q - 1 : Nat) : Int) := by rw [IntKind.wrap_u64]; rw [H32_eq] at hqle; omega
            have c8 : IntKind.u64.wrap ((r : Int) + (y1 : Int)) = ((r + y1 : Nat) : Int) := by rw [IntKind.wrap_u64]; rw [H32_eq] at hrH gy2; omega
            obtain ⟨qn, hqn⟩ : ∃ a, q - 1 = a := ⟨_, rfl⟩
            obtain ⟨rn, hrn⟩ : ∃ a, r + y1 = a := ⟨_, rfl⟩
            rw [hqn] at c7 HNX
            rw [hrn] at c8 HNX
            have hqn1 : qn ≤ H32 ∧ qn < q := by omega
            clear hqH hqle hqn hrn hnx hgt hP hR hPe hRe hSe
            by_cases hrb : H32 ≤ rn
            · have c4 : (4294967296 : Int) ≤ (rn : Int) := by rw [H32_eq] at hrb; omega
              have hqe := Pl.dig_break gy0 (by rw [← GY.out]; exact hR1) HNX.out hqn1.1 hrb
              rw [← GY.out, HQ0.out] at hqe
              subst hqe
              clear hrb
              go_wp2
              go_meet
              case rel => exact ⟨rfl, rfl⟩
            · have c4 : ¬ (4294967296 : Int) ≤ (rn : Int) := by rw [H32_eq] at hrb; omega
              have hrl : rn < H32 := by omega
              clear hrb
              go_wp2
              go_roundw
              case rel => exact ⟨qn, rn, rfl, rfl, HNX.out, hrl, trivial⟩
              case measure => simp [intOf]; omega
          · have hqe := Pl.dig_stop (by rw [← GY.out]; exact hR1) HDG.out (by rw [hPe, hRe, hSe]; omega)
            rw [← GY.out, HQ0.out] at hqe
            have c6 : ¬ (S2 : Int) < (P : Int) := by omega
            clear hgt hP hR hPe hRe hSe hqH hqle
            subst hqe
            go_wp2
            go_meet
            case rel => exact ⟨rfl, rfl⟩
    case rest =>
      obtain ⟨rfl, rfl⟩ := hcut
      go_wp2
      exact bodyPost_ret (v := .tuple #[.int .u64 (K : Int), .int .u64 (R0 : Int)]) (by simp [results, Tryz.results276, go_sem]) rfl ⟨rfl, rfl⟩
theorem bitsDiv_any (hi lo y : Nat) (w : World) (hhi : hi < y) (hy : hi = 0 ∨ 2 ^ 63 ≤ y) (hyM : y < M) (hlo : lo < M) :
    Calls Tryz.prog 241 #[.int .u64 (hi : Int), .int .u64 (lo : Int), .int .u64 (y : Int)] w fun e w' => e = .returned (.tuple #[.int .u64 (((hi * M + lo) / y : Nat) : Int), .int .u64 (((hi * M + lo) % y : Nat) : Int)]) ∧ Below w.heap.size w w' := by
  have HC : Hid (Calls Tryz.prog 276 #[.int .u64 (hi : Int), .int .u64 (lo : Int), .int .u64 (y : Int)] w fun e w' => e = .returned (.tuple #[.int .u64 (((hi * M + lo) / y : Nat) : Int), .int .u64 (((hi * M + lo) % y : Nat) : Int)]) ∧ Below w.heap.size w w') := by
    refine Lib.hid ?_
    by_cases h0 : hi = 0
    · subst h0
      have := bitsDiv64_zero lo y w hhi hyM hlo
      rw [Nat.zero_mul, Nat.zero_add]
      exact this
    · exact (bitsDiv64_top hi lo y w (by omega) hhi (by omega) hyM hlo).mono fun e w' h => ⟨h.1, h.2 ▸ Below.refl _ _⟩
  obtain ⟨q, hq⟩ : ∃ q, (hi * M + lo) / y = q := ⟨_, rfl⟩
  obtain ⟨r, hr⟩ : ∃ q, (hi * M + lo) % y = q := ⟨_, rfl⟩
  rw [hq, hr] at HC ⊢
  clear hq hr hhi hy
  go_enter Tryz.func241, Tryz.ntmps241
  go_wp2_with fail
  refine HC.out.mono ?_; rintro e w2 ⟨rfl, hb⟩
  go_wp2
  exact bodyPost_ret (v := .tuple #[.int .u64 (q : Int), .int .u64 (r : Int)]) (by simp [results, Tryz.results241, go_sem]) rfl ⟨rfl, hb⟩
theorem xor_max {d : Nat} (h : d < M) : bits .xor .u64 IntKind.u64.max (d : Int) = ((M - 1 - d : Nat) : Int) := by
  rw [M_eq] at *
  have hx : (18446744073709551615 : Nat) ^^^ d = 18446744073709551616 - 1 - d := by
    have h1 : (BitVec.allOnes 64 ^^^ BitVec.ofNat 64 d) = ~~~(BitVec.ofNat 64 d) := BitVec.allOnes_xor
    have h2 := congrArg BitVec.toNat h1
    rw [BitVec.toNat_xor, BitVec.toNat_not, BitVec.toNat_allOnes, BitVec.toNat_ofNat, Nat.mod_eq_of_lt (by omega)] at h2
    simpa using h2
  have e : IntKind.u64.max = ((18446744073709551615 : Nat) : Int) := by decide
  have e64 : 2 ^ IntKind.u64.bits = 18446744073709551616 := by decide
  rw [e]
  simp only [bits, BitVec.ofInt_natCast, BitVec.toNat_xor, BitVec.toNat_ofNat, e64]
  rw [Nat.mod_eq_of_lt h, show 18446744073709551615 % 18446744073709551616 = 18446744073709551615 from by decide, hx, IntKind.wrap_u64]
  omega
theorem recip_any (y s : Nat) (w : World) (hs : s < 64) (hn1 : 2 ^ 63 ≤ y * 2 ^ s) (hn2 : y * 2 ^ s < M) :
    Calls Tryz.prog 242 #[.int .u64 (y : Int)] w fun e w' => e = .returned (.int .u64 ((Pl.recip M (y * 2 ^ s) : Nat) : Int)) ∧ Below w.heap.size w w' := by
  have HN := Lib.hid (nlz_any y s w hs hn1 hn2)
  obtain ⟨t, ht⟩ : ∃ t, s + t = 64 := ⟨64 - s, by omega⟩
  have hyt : y < 2 ^ t := by
    refine Nat.lt_of_mul_lt_mul_right (a := 2 ^ s) ?_
    rw [Nat.mul_comm (2 ^ t), two_st ht]; exact hn2
  have f5 := wrap_shl (x := y) ht
  rw [Nat.mod_eq_of_lt hyt] at f5
  obtain ⟨d, hde⟩ : ∃ a, y * 2 ^ s = a := ⟨_, rfl⟩
  rw [hde] at f5 hn1 hn2 ⊢
  have hs2 : (0 : Int) ≤ (s : Int) := by omega
  have hs3 : (s : Int) ≤ 64 := by omega
  have f6 := xor_max hn2
  have e63 : M = 2 * 2 ^ 63 := rfl
  have HB := Lib.hid (fun W => bitsDiv_any (M - 1 - d) (M - 1) d W (by omega) (Or.inr hn1) hn2 (by omega))
  rw [Pl.recip_words (by omega) hn2] at HB
  obtain ⟨g, hg⟩ : ∃ g, Pl.recip M d = g := ⟨_, rfl⟩
  obtain ⟨r, hr⟩ : ∃ g, ((M - 1 - d) * M + (M - 1)) % d = g := ⟨_, rfl⟩
  rw [hg, hr] at HB
  rw [hg]
  obtain ⟨hh, hhe⟩ : ∃ h, M - 1 - d = h := ⟨_, rfl⟩
  rw [hhe] at f6 HB
  have hm1 : ((M - 1 : Nat) : Int) = 18446744073709551615 := by rw [M_eq]; rfl
  rw [hm1] at HB
  clear hg hr hyt hde hn1 e63 hhe hm1
  go_enter Tryz.func242, Tryz.ntmps242
  go_wp2_with fail
  refine HN.out.mono ?_; rintro e w2 ⟨rfl, rfl⟩
  go_wp2_with fail
  refine (HB.out _).mono ?_; rintro e w3 ⟨rfl, hb⟩
  go_wp2
  go_ret
  exact ⟨rfl, hb⟩
theorem SrcD.below {w w' : World} {b o n bx ox : Nat} {xs : List Nat} (h : SrcD w b o n bx ox xs) (hb : Below w.heap.size w w') : SrcD w' b o n bx ox xs :=
  ⟨fun j hj => (hb.cell (p := ⟨bx, ox + j, none⟩) (World.block_lt_of_cell? w _ (h.at_ j hj))).trans (h.at_ j hj), h.off⟩
theorem grown_bel {w w' : World} (h : Below w.heap.size w w') (r : Option Nat) : w.grownBy w' r := ⟨h.os, h.tape, h.output, h.size, fun k hk _ => h.block k hk⟩
set_option maxRecDepth 100000 in
set_option maxHeartbeats 2000000 in
theorem divWVW_any (b o cz bx ox cx y s : Nat) (xs : List Nat) (l : List Value) (w : World) (h0 : 0 < xs.length) (hl : xs.length ≤ 1000000) (hs : s < 64) (hn1 : 2 ^ 63 ≤ y * 2 ^ s) (hn2 : y * 2 ^ s < M) (hB : Blk w b 179 l.toArray) (hfit : o + xs.length ≤ l.length) (hxlt : ∀ d ∈ xs, d < M)
    (hX : SrcD w b o xs.length bx ox xs) :
    Calls Tryz.prog 216 #[.slice (some ⟨b, o, none⟩) xs.length cz, .int .u64 0, .slice (some ⟨bx, ox, none⟩) xs.length cx, .int .u64 (y : Int)] w fun e w' =>
      e = .returned (.int .u64 (((Pl.divV M y xs 0).2 : Nat) : Int)) ∧ Blk w' b 179 (splice l o (WC (Pl.divV M y xs 0).1)).toArray ∧ w.grownBy w' (some b) := by
  have hy0 : 0 < y := by
    rcases Nat.eq_zero_or_pos y with h | h
    · subst h; simp at hn1
    · exact h
  have hyM : y < M := Nat.lt_of_le_of_lt (Nat.le_mul_of_pos_right _ (Nat.pow_pos (by omega))) hn2
  by_cases h1 : xs.length = 1
  · obtain ⟨x, rfl⟩ : ∃ x, xs = [x] := by
      match xs, h1 with
      | [x], _ => exact ⟨x, rfl⟩
    have hx := hxlt x (by simp)
    have cx := hX.at_ 0 (by simp)
    have HBD : Hid (∀ W : World, Calls Tryz.prog 241 #[.int .u64 0, .int .u64 (x : Int), .int .u64 (y : Int)] W fun e w' => e = .returned (.tuple #[.int .u64 ((x / y : Nat) : Int), .int .u64 ((x % y : Nat) : Int)]) ∧ Below W.heap.size W w') := by
      refine Lib.hid fun W => ?_
      have := bitsDiv_any 0 x y W hy0 (Or.inl rfl) hyM hx
      rw [Nat.zero_mul, Nat.zero_add] at this
      exact this
    have hdv : Pl.divV M y [x] 0 = ([x / y], x % y) := by simp [Pl.divV]
    rw [hdv]
    obtain ⟨q, hq⟩ : ∃ q, x / y = q := ⟨_, rfl⟩
    obtain ⟨r, hr⟩ : ∃ q, x % y = q := ⟨_, rfl⟩
    rw [hq, hr] at HBD ⊢
    simp only [List.getElem_cons_zero, Nat.add_zero] at cx
    simp only [List.length_cons, List.length_nil, Nat.zero_add] at hfit ⊢
    have HB := Lib.hid (fun w' (h : Below w.heap.size w w') => hB.below h hB.lt)
    clear hX hB hdv hq hr hn1 hn2 hxlt hl h0 h1
    go_enter Tryz.func216, Tryz.ntmps216
    go_wp2_with fail
    refine (HBD.out _).mono ?_; rintro e w2 ⟨rfl, hb2⟩
    have hb := HB.out w2 hb2
    have hz : ∃ u, w2.cell? ⟨b, o, none⟩ = some u := by
      rw [hb.cell o]
      exact ⟨_, Array.getElem?_eq_getElem (h := by simp only [List.size_toArray]; omega)⟩
    obtain ⟨u, hz⟩ := hz
    have hzz := hb.frozen o
    have hs2 := splice_up (l := l) (o := o) (zs := []) (by simp; omega) (.int .u64 (q : Int))
    have HS2 := Lib.hid hs2
    clear hs2
    go_wp2
    go_ret
    refine ⟨rfl, ?_, (grown_bel hb2 _).trans (grown_set _ _ _ _)⟩
    have e := HS2.out
    rw [splice_nil] at e
    show Blk _ b 179 (splice l o ([] ++ [Value.int .u64 (q : Int)])).toArray
    rw [← e]
    exact hb.set_ _ _
  · have h1z : ((xs.length : Int) == 1) = false := by rw [beq_eq_false_iff_ne]; omega
    have HR := Lib.hid (recip_any y s w hs hn1 hn2)
    have HXL := Lib.hid hxlt
    have HX := Lib.hid (fun w' (h : Below w.heap.size w w') => hX.below h)
    have HB := Lib.hid (fun w' (h : Below w.heap.size w w') => hB.below h hB.lt)
    obtain ⟨rc, hrc⟩ : ∃ r, Pl.recip M (y * 2 ^ s) = r := ⟨_, rfl⟩
    have HD := Lib.hid (fun x1 x0 W (k1 : x1 < y) (k2 : x0 < M) => divWW_any x1 x0 y s W hs hn1 hn2 k1 k2)
    rw [hrc] at HR HD
    clear hX hB hxlt hrc hn1 hn2
    go_enter Tryz.func216, Tryz.ntmps216
    go_wp2_with fail
    refine HR.out.mono ?_; rintro e w2 ⟨rfl, hb2⟩
    have hX2 := HX.out w2 hb2
    have hB2 := HB.out w2 hb2
    have HX2 := Lib.hid hX2
    have HB2 := Lib.hid hB2
    have hlw : IntKind.i64.wrap ((xs.length : Int) - 1) = ((xs.length - 1 : Nat) : Int) := by rw [IntWalk.i64_in _ (by omega)]; omega
    clear hX2 hB2
    go_wp2_with fail
    go_loopw [8, 12] (fun rv iv wr => ∃ k r : Nat, k ≤ xs.length ∧ iv = .int .i64 ((k : Int) - 1) ∧ rv = .int .u64 (r : Int) ∧ r < y ∧ r = (Pl.divV M y (xs.drop k) 0).2 ∧ Blk wr b 179 (splice l (o + k) (WC (Pl.divV M y (xs.drop k) 0).1)).toArray ∧ w2.grownBy wr (some b)) (fun _ iv _ => (intOf iv + 1).toNat)
    case atStart => exact ⟨xs.length, 0, Nat.le_refl _, by (congr 1; omega), rfl, hy0, by simp [Pl.divV], by simpa [Pl.divV, WC, splice_nil] using HB2.out, World.grownBy.refl _ _⟩
    case round =>
      obtain ⟨k, r, hk, rfl, rfl, hry, hre, hblk, hgr⟩ := hrel
      have HRE := Lib.hid hre
      clear hre
      rcases Nat.eq_zero_or_pos k with hk0 | hk0
      · subst hk0
        go_wp2
        go_ret
        have hre := HRE.out
        rw [List.drop_zero] at hre hblk
        exact ⟨ret_int (by rw [hre]), hblk, (grown_bel hb2 _).trans hgr⟩
      · obtain ⟨j, rfl⟩ : ∃ j, k = j + 1 := ⟨k - 1, by omega⟩
        have hdl : (Pl.divV M y (xs.drop (j + 1)) 0).1.length = xs.length - (j + 1) := by rw [Pl.divV_len, List.length_drop]
        have cx := HX2.out.read (k := j) (p := j + 1) HB2.out hblk hgr (by rw [WC_len, hdl]; omega) hfit (by omega) (by omega)
        have hxM := HXL.out xs[j] (List.getElem_mem (by omega))
        have hat := Pl.divV_at (b := M) (y := y) (l := xs) (k := j) (by omega) 0
        rw [← HRE.out] at hat
        have hslen : (splice l (o + (j + 1)) (WC (Pl.divV M y (xs.drop (j + 1)) 0).1)).length = l.length := splice_len (by rw [WC_len, hdl]; omega)
        have hzc : ∃ u, wr.cell? ⟨b, o + j, none⟩ = some u := by
          rw [hblk.cell (o + j)]
          exact ⟨_, Array.getElem?_eq_getElem (h := by simp only [List.size_toArray]; omega)⟩
        obtain ⟨u, hzc⟩ := hzc
        have hzz := hblk.frozen (o + j)
        have hdn := splice_down (l := l) (k := o + j) (zs := WC (Pl.divV M y (xs.drop (j + 1)) 0).1) (by rw [WC_len, hdl]; omega)
        obtain ⟨x, hx⟩ : ∃ x, xs[j] = x := ⟨_, rfl⟩
        rw [hx] at cx hxM hat
        have hcall := HD.out r x
        obtain ⟨q, hq⟩ : ∃ q, (r * M + x) / y = q := ⟨_, rfl⟩
        obtain ⟨r', hr'⟩ : ∃ q, (r * M + x) % y = q := ⟨_, rfl⟩
        have hr'y : r' < y := by rw [← hr']; exact Nat.mod_lt _ hy0
        rw [hq, hr'] at hcall hat
        have HCALL := Lib.hid hcall
        have HAT := Lib.hid hat
        have HDN := Lib.hid (hdn (.int .u64 (q : Int)))
        have hji : ((j + 1 : Nat) : Int) - 1 = (j : Int) := by omega
        rw [hji]
        have hjl : j < xs.length := by omega
        have hjz : (j : Int) < (xs.length : Int) := by omega
        have hjw : IntKind.i64.wrap ((j : Int) - 1) = (j : Int) - 1 := IntWalk.i64_in _ (by omega)
        clear hat hdn hx hq hr' hcall hdl hslen hji
        go_wp2_with fail
        refine (HCALL.out _ hry hxM).mono ?_; rintro e w5 ⟨rfl, rfl⟩
        go_wp2
        go_roundw
        case rel =>
          refine ⟨j, r', by omega, by go_num, rfl, hr'y, by rw [HAT.out], ?_, hgr.trans (grown_set _ _ _ _)⟩
          rw [HAT.out]
          have e : (splice l (o + j) (WC (q :: (Pl.divV M y (xs.drop (j + 1)) 0).1))).toArray = ((splice l (o + (j + 1)) (WC (Pl.divV M y (xs.drop (j + 1)) 0).1)).toArray).setIfInBounds (o + j) (.int .u64 (q : Int)) := HDN.out.symm
          rw [e]
          exact hblk.set_ _ _
        case measure => (simp [intOf]; try omega)
end Go.Proofs.YtgfkdjmoflbmdaaGreatDoor
