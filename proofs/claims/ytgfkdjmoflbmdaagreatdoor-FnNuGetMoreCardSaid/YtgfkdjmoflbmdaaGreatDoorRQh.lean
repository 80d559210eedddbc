/- Contracts: nlz, divWW. (printed by gendw.py) -/
import Derived.Test.YtgfkdjmoflbmdaaGreatDoorRQgxYp0
import Derived.Lib.BitFns
namespace Go.Proofs.YtgfkdjmoflbmdaaGreatDoor
open Go.RowKit
open Go.Proofs
theorem bitLen_of {y k : Nat} (h1 : 2 ^ k ≤ y) (h2 : y < 2 ^ (k + 1)) (hk : k < 64) : Lib.bitLen y = k + 1 := by
  have h64 : y < 2 ^ 64 := Nat.lt_of_lt_of_le h2 (Nat.pow_le_pow_right (by omega) (by omega))
  rw [Lib.bitLen_shift k y h1 h64]
  have hp : 0 < 2 ^ k := Nat.pow_pos (by omega)
  have : y / 2 ^ k = 1 := by
    rw [Nat.pow_succ] at h2
    have h3 : y / 2 ^ k < 2 := by rw [Nat.div_lt_iff_lt_mul hp]; omega
    have h4 : 1 ≤ y / 2 ^ k := by rw [Nat.le_div_iff_mul_le hp]; omega
    omega
  rw [this]; rfl
theorem norm_range {y s : Nat} (hs : s < 64) (h1 : 2 ^ 63 ≤ y * 2 ^ s) (h2 : y * 2 ^ s < M) : 2 ^ (63 - s) ≤ y ∧ y < 2 ^ (63 - s + 1) := by
  have hp : 0 < 2 ^ s := Nat.pow_pos (by omega)
  have e1 : 2 ^ 63 = 2 ^ (63 - s) * 2 ^ s := by rw [← Nat.pow_add]; congr 1; omega
  have e2 : M = 2 ^ (63 - s + 1) * 2 ^ s := by rw [← Nat.pow_add, show 63 - s + 1 + s = 64 from by omega]; rfl
  rw [e1] at h1
  rw [e2] at h2
  exact ⟨Nat.le_of_mul_le_mul_right h1 hp, Nat.lt_of_mul_lt_mul_right h2⟩
theorem nlz_any (y s : Nat) (w : World) (hs : s < 64) (h1 : 2 ^ 63 ≤ y * 2 ^ s) (h2 : y * 2 ^ s < M) :
    Calls Tryz.prog 227 #[.int .u64 (y : Int)] w fun e w' => e = .returned (.int .u64 (s : Int)) ∧ w = w' := by
  obtain ⟨r1, r2⟩ := norm_range hs h1 h2
  have hb := bitLen_of r1 r2 (by omega)
  have hyM : y < M := Nat.lt_of_le_of_lt (Nat.le_mul_of_pos_right _ (Nat.pow_pos (by omega))) h2
  rw [M_eq] at hyM
  have HC := Lib.hid (Tryz.bits_LeadingZeros (y : Int) w (by omega) (by omega))
  rw [Int.toNat_natCast, hb] at HC
  have e : (64 : Int) - ((63 - s + 1 : Nat) : Int) = (s : Int) := by omega
  rw [e] at HC
  clear h1 h2 r1 r2 hb e
  go_enter Tryz.func227, Tryz.ntmps227
  go_wp2_with fail
  refine HC.out.mono ?_; rintro e w1 ⟨rfl, rfl⟩
  go_wp2
  go_ret
  exact ⟨rfl, rfl⟩
theorem M_pos : 0 < M := by rw [M_eq]; omega
theorem Mul_any (x y : Nat) (hx : x < M) (hy : y < M) (w : World) :
    Calls Tryz.prog 229 #[.int .u64 (x : Int), .int .u64 (y : Int)] w fun e w' => e = .returned (.tuple #[.int .u64 ((x * y / M : Nat) : Int), .int .u64 ((x * y % M : Nat) : Int)]) ∧ w = w' := by
  rw [M_eq] at *
  refine (Tryz.bits_Mul x y hx hy w).mono ?_
  rintro e w1 ⟨rfl, rfl⟩
  refine ⟨?_, rfl⟩
  congr 4 <;> simp
theorem Sub0_any (x y : Nat) (w : World) :
    Calls Tryz.prog 277 #[.int .u64 (x : Int), .int .u64 (y : Int), .int .u64 0] w fun e w' => e = .returned (.tuple #[.int .u64 (((M + x - y) % M : Nat) : Int), .int .u64 ((if x < y then 1 else 0 : Nat) : Int)]) ∧ w = w' := Sub_any x y 0 (by omega) w
theorem Add0_any (x y : Nat) (w : World) :
    Calls Tryz.prog 244 #[.int .u64 (x : Int), .int .u64 (y : Int), .int .u64 0] w fun e w' => e = .returned (.tuple #[.int .u64 (((x + y) % M : Nat) : Int), .int .u64 (((x + y) / M : Nat) : Int)]) ∧ w = w' := AddC_any x y 0 (by omega) w
theorem divWW_words {X1 X0 d : Nat} (h1 : M ≤ 2 * d) (h2 : d < M) (hx1 : X1 < d) (hx0 : X0 < M) :
    ∃ m t1 t0 c lo qq dq1 dq0 b r0 r1 : Nat, Pl.recip M d = m ∧ m < M ∧ m * X1 / M = t1 ∧ m * X1 % M = t0 ∧ (t0 + X0) / M = c ∧ (t0 + X0) % M = lo ∧ c ≤ 1 ∧ (t1 + X1 + c) % M = qq ∧ qq < M ∧ d * qq / M = dq1 ∧ d * qq % M = dq0 ∧
      (M + X0 - dq0) % M = r0 ∧ (if X0 < dq0 then 1 else 0) = b ∧ b ≤ 1 ∧ (M + X1 - dq1 - b) % M = r1 ∧ r1 ≤ 1 ∧ r0 < M ∧ X1 * M + X0 = d * qq + r1 * M + r0 ∧ r1 * M + r0 < M + d := by
  obtain ⟨g1, g2⟩ := Pl.guess_ok h1 h2 hx1 hx0
  have hm := Pl.recip_lt h1 h2
  obtain ⟨m, hme⟩ : ∃ m, Pl.recip M d = m := ⟨_, rfl⟩
  rw [hme] at g1 g2 hm
  obtain ⟨q, hq⟩ : ∃ q, (m * X1 + X1 * M + X0) / M = q := ⟨_, rfl⟩
  rw [hq] at g1 g2
  have hqM : q < M := by
    refine Nat.lt_of_mul_lt_mul_left (a := d) (Nat.lt_of_le_of_lt g1 ?_)
    have : X1 * M + M ≤ d * M := by
      have := Nat.mul_le_mul_right M (show X1 + 1 ≤ d by omega)
      rw [Nat.add_mul, Nat.one_mul] at this
      exact this
    omega
  have hdm := Nat.div_add_mod (m * X1) M
  obtain ⟨t1, ht1⟩ : ∃ t1, m * X1 / M = t1 := ⟨_, rfl⟩
  obtain ⟨t0, ht0⟩ : ∃ t0, m * X1 % M = t0 := ⟨_, rfl⟩
  have ht0M : t0 < M := by rw [← ht0]; exact Nat.mod_lt _ M_pos
  rw [ht1, ht0] at hdm
  have hdd := Nat.div_add_mod (d * q) M
  obtain ⟨dq1, hdq1⟩ : ∃ a, d * q / M = a := ⟨_, rfl⟩
  obtain ⟨dq0, hdq0⟩ : ∃ a, d * q % M = a := ⟨_, rfl⟩
  have hdq0M : dq0 < M := by rw [← hdq0]; exact Nat.mod_lt _ M_pos
  rw [hdq1, hdq0] at hdd
  obtain ⟨c, hc⟩ : ∃ c, (t0 + X0) / M = c := ⟨_, rfl⟩
  obtain ⟨lo, hlo⟩ : ∃ c, (t0 + X0) % M = c := ⟨_, rfl⟩
  obtain ⟨b, hb⟩ : ∃ b : Nat, (if X0 < dq0 then 1 else 0) = b := ⟨_, rfl⟩
  obtain ⟨r0, hr0⟩ : ∃ r, (M + X0 - dq0) % M = r := ⟨_, rfl⟩
  obtain ⟨r1, hr1⟩ : ∃ r, (M + X1 - dq1 - b) % M = r := ⟨_, rfl⟩
  have hc1 : c ≤ 1 := by
    rw [← hc]
    clear hr1 hr0 hb hlo hc hdq0M hdq1 hdq0 hdd ht1 ht0 hq g1 g2
    rw [M_eq] at *
    omega
  have hq2 : t1 + X1 + c = q := by
    rw [← hq, ← hdm, ← hc]
    clear hr1 hr0 hb hlo hc hdq0M hdq1 hdq0 hdd ht1 ht0 hq g1 g2 hdm hm hme
    rw [M_eq]
    omega
  have hq3 : (t1 + X1 + c) % M = q := by
    rw [hq2]
    exact Nat.mod_eq_of_lt hqM
  have hb1 : b ≤ 1 := by rw [← hb]; split <;> omega
  have hfin : r1 ≤ 1 ∧ r0 < M ∧ X1 * M + X0 = d * q + r1 * M + r0 ∧ r1 * M + r0 < M + d := by
    clear hq hq2 hq3 ht1 ht0 hdm hdq1 hdq0 hm ht0M hme hc hlo hc1 hqM
    generalize d * q = p at *
    rw [M_eq] at *
    by_cases hlt : X0 < dq0
    · rw [if_pos hlt] at hb
      omega
    · rw [if_neg hlt] at hb
      omega
  exact ⟨m, t1, t0, c, lo, q, dq1, dq0, b, r0, r1, hme, hm, ht1, ht0, hc, hlo, hc1, hq3, hqM, hdq1, hdq0, hr0, hb, hb1, hr1, hfin⟩
theorem div_unique {X d q r : Nat} (h : X = d * q + r) (hr : r < d) : X / d = q ∧ X % d = r := by
  subst h
  constructor
  · rw [Nat.mul_add_div (by omega), Nat.div_eq_of_lt hr, Nat.add_zero]
  · rw [Nat.mul_add_mod, Nat.mod_eq_of_lt hr]
set_option maxRecDepth 100000 in
set_option maxHeartbeats 4000000 in
theorem divWW_any (x1 x0 y s : Nat) (w : World) (hs : s < 64) (hn1 : 2 ^ 63 ≤ y * 2 ^ s) (hn2 : y * 2 ^ s < M) (hx1 : x1 < y) (hx0 : x0 < M) :
    Calls Tryz.prog 243 #[.int .u64 (x1 : Int), .int .u64 (x0 : Int), .int .u64 (y : Int), .int .u64 ((Pl.recip M (y * 2 ^ s) : Nat) : Int)] w fun e w' =>
      e = .returned (.tuple #[.int .u64 (((x1 * M + x0) / y : Nat) : Int), .int .u64 (((x1 * M + x0) % y : Nat) : Int)]) ∧ w = w' := by
  have HN := Lib.hid (fun W => nlz_any y s W hs hn1 hn2)
  have e63 : M = 2 * 2 ^ 63 := rfl
  rcases Nat.eq_zero_or_pos s with hs0 | hs0
  · subst hs0
    rw [Nat.pow_zero, Nat.mul_one] at hn1 hn2 ⊢
    have hd1 : M ≤ 2 * y := by omega
    have hd2 := hn2
    have hX1 := hx1
    have hX0 := hx0
    have hres : ∀ q r : Nat, x1 * M + x0 = y * q + r → r < y → (x1 * M + x0) / y = q ∧ (x1 * M + x0) % y = r := fun q r h1 h2 => div_unique h1 h2
    clear hn1 e63 hs
    obtain ⟨m, t1, t0, c, lo, qq, dq1, dq0, b, r0, r1, hme, hmM, ht1, ht0, hc, hlo, hc1, hqq, hqM, hdq1, hdq0, hr0, hb, hb1, hr1, hr11, hr0M, hX, hXr⟩ := divWW_words hd1 hd2 hX1 hX0
    rw [hme]
    have H1 := Lib.hid (fun W => Mul_any m x1 hmM (by omega) W)
    rw [ht1, ht0] at H1
    have H2 := Lib.hid (fun W => Add0_any t0 x0 W)
    rw [hlo, hc] at H2
    have H3 := Lib.hid (fun W => AddC_any t1 x1 c hc1 W)
    rw [hqq] at H3
    have H4 := Lib.hid (fun W => Mul_any y qq hd2 hqM W)
    rw [hdq1, hdq0] at H4
    have H5 := Lib.hid (fun W => Sub0_any x0 dq0 W)
    rw [hr0, hb] at H5
    have H6 := Lib.hid (fun W => Sub_any x1 dq1 b hb1 W)
    rw [hr1] at H6
    obtain ⟨hi3, hhi3⟩ : ∃ h, (t1 + x1 + c) / M = h := ⟨_, rfl⟩
    rw [hhi3] at H3
    obtain ⟨b6, hb6⟩ : ∃ h : Nat, (if x1 < dq1 + b then 1 else 0) = h := ⟨_, rfl⟩
    rw [hb6] at H6
    have HU := Lib.hid (fun q r (h : x1 * M + x0 = y * q + r) (hr : r < y) => hres q r h hr)
    have HXX := Lib.hid hX
    have hqq1 : r1 = 1 ∨ y ≤ r0 → qq + 1 < M := by
      intro h
      have h2 : y * (qq + 1) ≤ x1 * M + x0 := by
        rw [Nat.mul_add, Nat.mul_one, hX]
        rcases h with h | h
        · rw [h, Nat.one_mul]; omega
        · omega
      refine Nat.lt_of_mul_lt_mul_left (a := y) (Nat.lt_of_le_of_lt h2 ?_)
      have h3 := Nat.mul_le_mul_right M (show x1 + 1 ≤ y by omega)
      rw [Nat.add_mul, Nat.one_mul] at h3
      omega
    have hqq2 : r1 = 1 → y ≤ M + r0 - y → qq + 2 < M := by
      intro h h4
      have h2 : y * (qq + 2) ≤ x1 * M + x0 := by
        rw [Nat.mul_add, hX, h, Nat.one_mul]; omega
      refine Nat.lt_of_mul_lt_mul_left (a := y) (Nat.lt_of_le_of_lt h2 ?_)
      have h3 := Nat.mul_le_mul_right M (show x1 + 1 ≤ y by omega)
      rw [Nat.add_mul, Nat.one_mul] at h3
      omega
    clear ht1 ht0 hc hlo hqq hdq1 hdq0 hr0 hb hr1 hhi3 hb6 hme hX hres
    have hr1c : r1 = 1 ∨ r1 = 0 := by omega
    rcases hr1c with hr1e | hr1e
    · subst hr1e
      have hr0d : r0 < y := by omega
      have hq1 := hqq1 (Or.inl rfl)
      have hw1 : IntKind.u64.wrap ((qq : Int) + 1) = ((qq + 1 : Nat) : Int) := by rw [IntKind.wrap_u64]; rw [M_eq] at hq1; omega
      have hw2 : IntKind.u64.wrap ((r0 : Int) - (y : Int)) = ((M + r0 - y : Nat) : Int) := by rw [IntKind.wrap_u64]; rw [M_eq] at *; omega
      obtain ⟨q1, hq1e⟩ : ∃ q1, qq + 1 = q1 := ⟨_, rfl⟩
      obtain ⟨ra, hra⟩ : ∃ ra, M + r0 - y = ra := ⟨_, rfl⟩
      rw [hq1e] at hw1 hq1
      rw [hra] at hw2 hqq2
      have hraM : ra < M := by omega
      by_cases hge : y ≤ ra
      · have hq2 := hqq2 rfl hge
        have hw3 : IntKind.u64.wrap ((q1 : Int) + 1) = ((qq + 2 : Nat) : Int) := by rw [IntKind.wrap_u64]; rw [M_eq] at hq2; omega
        have hw4 : IntKind.u64.wrap ((ra : Int) - (y : Int)) = ((ra - y : Nat) : Int) := by rw [IntKind.wrap_u64]; rw [M_eq] at hraM; omega
        have hgei : ((y : Nat) : Int) ≤ (ra : Int) := by omega
        obtain ⟨u1, u2⟩ := HU.out (qq + 2) (ra - y) (by rw [HXX.out]; simp only [Nat.mul_add, Nat.one_mul]; omega) (by omega)
        obtain ⟨rr, hrr⟩ : ∃ rr, ra - y = rr := ⟨_, rfl⟩
        rw [hrr] at u2
        rw [hrr] at hw4
        obtain ⟨q2, hq2e⟩ : ∃ q2, qq + 2 = q2 := ⟨_, rfl⟩
        rw [hq2e] at hw3 u1
        clear hq2e hrr hra hq1e hqq1 hqq2 hXr hr0d hq2 hge
        go_enter Tryz.func243, Tryz.ntmps243
        go_wp2_with fail
        refine (HN.out _).mono ?_; rintro e w2 ⟨rfl, rfl⟩
        go_wp2_with fail
        refine (H1.out _).mono ?_; rintro e w2 ⟨rfl, rfl⟩
        go_wp2_with fail
        refine (H2.out _).mono ?_; rintro e w2 ⟨rfl, rfl⟩
        go_wp2_with fail
        refine (H3.out _).mono ?_; rintro e w2 ⟨rfl, rfl⟩
        go_wp2_with fail
        refine (H4.out _).mono ?_; rintro e w2 ⟨rfl, rfl⟩
        go_wp2_with fail
        refine (H5.out _).mono ?_; rintro e w2 ⟨rfl, rfl⟩
        go_wp2_with fail
        refine (H6.out _).mono ?_; rintro e w2 ⟨rfl, rfl⟩
        go_wp2
        exact bodyPost_ret (v := .tuple #[.int .u64 ((q2 : Nat) : Int), .int .u64 ((rr : Nat) : Int)]) (by simp [results, Tryz.results243, go_sem]) rfl ⟨by rw [u1, u2], rfl⟩
      · have hgei : ¬ ((y : Nat) : Int) ≤ (ra : Int) := by omega
        obtain ⟨u1, u2⟩ := HU.out (qq + 1) (M + r0 - y) (by rw [HXX.out]; simp only [Nat.mul_add, Nat.mul_one, Nat.one_mul]; omega) (by omega)
        obtain ⟨rr, hrr⟩ : ∃ rr, M + r0 - y = rr := ⟨_, rfl⟩
        rw [hrr] at u2
        rw [hq1e] at u1
        rw [hra] at hrr
        subst hrr
        clear hra hq1e hqq1 hqq2 hXr hr0d hge
        go_enter Tryz.func243, Tryz.ntmps243
        go_wp2_with fail
        refine (HN.out _).mono ?_; rintro e w2 ⟨rfl, rfl⟩
        go_wp2_with fail
        refine (H1.out _).mono ?_; rintro e w2 ⟨rfl, rfl⟩
        go_wp2_with fail
        refine (H2.out _).mono ?_; rintro e w2 ⟨rfl, rfl⟩
        go_wp2_with fail
        refine (H3.out _).mono ?_; rintro e w2 ⟨rfl, rfl⟩
        go_wp2_with fail
        refine (H4.out _).mono ?_; rintro e w2 ⟨rfl, rfl⟩
        go_wp2_with fail
        refine (H5.out _).mono ?_; rintro e w2 ⟨rfl, rfl⟩
        go_wp2_with fail
        refine (H6.out _).mono ?_; rintro e w2 ⟨rfl, rfl⟩
        go_wp2
        exact bodyPost_ret (v := .tuple #[.int .u64 ((q1 : Nat) : Int), .int .u64 ((ra : Nat) : Int)]) (by simp [results, Tryz.results243, go_sem]) rfl ⟨by rw [u1, u2], rfl⟩
    · subst hr1e
      by_cases hge : y ≤ r0
      · have hq1 := hqq1 (Or.inr hge)
        have hw3 : IntKind.u64.wrap ((qq : Int) + 1) = ((qq + 1 : Nat) : Int) := by rw [IntKind.wrap_u64]; rw [M_eq] at hq1; omega
        have hw4 : IntKind.u64.wrap ((r0 : Int) - (y : Int)) = ((r0 - y : Nat) : Int) := by rw [IntKind.wrap_u64]; rw [M_eq] at hr0M; omega
        have hgei : ((y : Nat) : Int) ≤ (r0 : Int) := by omega
        obtain ⟨u1, u2⟩ := HU.out (qq + 1) (r0 - y) (by rw [HXX.out]; simp only [Nat.mul_add, Nat.mul_one, Nat.zero_mul]; omega) (by omega)
        obtain ⟨rr, hrr⟩ : ∃ rr, r0 - y = rr := ⟨_, rfl⟩
        rw [hrr] at u2
        rw [hrr] at hw4
        obtain ⟨q2, hq2e⟩ : ∃ q2, qq + 1 = q2 := ⟨_, rfl⟩
        rw [hq2e] at hw3 u1
        clear hq2e hrr hqq1 hqq2 hXr hge hq1
        go_enter Tryz.func243, Tryz.ntmps243
        go_wp2_with fail
        refine (HN.out _).mono ?_; rintro e w2 ⟨rfl, rfl⟩
        go_wp2_with fail
        refine (H1.out _).mono ?_; rintro e w2 ⟨rfl, rfl⟩
        go_wp2_with fail
        refine (H2.out _).mono ?_; rintro e w2 ⟨rfl, rfl⟩
        go_wp2_with fail
        refine (H3.out _).mono ?_; rintro e w2 ⟨rfl, rfl⟩
        go_wp2_with fail
        refine (H4.out _).mono ?_; rintro e w2 ⟨rfl, rfl⟩
        go_wp2_with fail
        refine (H5.out _).mono ?_; rintro e w2 ⟨rfl, rfl⟩
        go_wp2_with fail
        refine (H6.out _).mono ?_; rintro e w2 ⟨rfl, rfl⟩
        go_wp2
        exact bodyPost_ret (v := .tuple #[.int .u64 ((q2 : Nat) : Int), .int .u64 ((rr : Nat) : Int)]) (by simp [results, Tryz.results243, go_sem]) rfl ⟨by rw [u1, u2], rfl⟩
      · have hgei : ¬ ((y : Nat) : Int) ≤ (r0 : Int) := by omega
        obtain ⟨u1, u2⟩ := HU.out (qq) (r0) (by rw [HXX.out]; simp only [Nat.zero_mul]; omega) (by omega)
        obtain ⟨rr, hrr⟩ : ∃ rr, r0 = rr := ⟨_, rfl⟩
        rw [hrr] at u2
        subst hrr
        clear hqq1 hqq2 hXr hge
        go_enter Tryz.func243, Tryz.ntmps243
        go_wp2_with fail
        refine (HN.out _).mono ?_; rintro e w2 ⟨rfl, rfl⟩
        go_wp2_with fail
        refine (H1.out _).mono ?_; rintro e w2 ⟨rfl, rfl⟩
        go_wp2_with fail
        refine (H2.out _).mono ?_; rintro e w2 ⟨rfl, rfl⟩
        go_wp2_with fail
        refine (H3.out _).mono ?_; rintro e w2 ⟨rfl, rfl⟩
        go_wp2_with fail
        refine (H4.out _).mono ?_; rintro e w2 ⟨rfl, rfl⟩
        go_wp2_with fail
        refine (H5.out _).mono ?_; rintro e w2 ⟨rfl, rfl⟩
        go_wp2_with fail
        refine (H6.out _).mono ?_; rintro e w2 ⟨rfl, rfl⟩
        go_wp2
        exact bodyPost_ret (v := .tuple #[.int .u64 ((qq : Nat) : Int), .int .u64 ((r0 : Nat) : Int)]) (by simp [results, Tryz.results243, go_sem]) rfl ⟨by rw [u1, u2], rfl⟩
  · obtain ⟨t, ht⟩ : ∃ t, s + t = 64 := ⟨64 - s, by omega⟩
    have hp : 0 < 2 ^ s := Nat.pow_pos (by omega)
    have hT : 0 < 2 ^ t := Nat.pow_pos (by omega)
    have hst := two_st ht
    have hyt : y < 2 ^ t := by
      refine Nat.lt_of_mul_lt_mul_right (a := 2 ^ s) ?_
      rw [Nat.mul_comm (2 ^ t), hst]; exact hn2
    have f1 := wrap_shl (x := x1) ht
    have f2 := div_shr x0 t
    have f3 := or_shl (x := x1) ht hx0
    have f4 := wrap_shl (x := x0) ht
    have f5 := wrap_shl (x := y) ht
    rw [Nat.mod_eq_of_lt (show x1 < 2 ^ t by omega)] at f1 f3
    rw [Nat.mod_eq_of_lt hyt] at f5
    have f6 : IntKind.u64.wrap (64 - (s : Int)) = (t : Int) := by rw [IntKind.wrap_u64]; omega
    have hx0d := Nat.div_add_mod x0 (2 ^ t)
    have hval : (x1 * 2 ^ s + x0 / 2 ^ t) * M + (x0 % 2 ^ t) * 2 ^ s = (x1 * M + x0) * 2 ^ s := by
      have h1 : (x1 * 2 ^ s + x0 / 2 ^ t) * M = x1 * M * 2 ^ s + x0 / 2 ^ t * (2 ^ s * 2 ^ t) := by rw [Nat.add_mul, ← hst, Nat.mul_right_comm]
      have h2 : x0 * 2 ^ s = x0 / 2 ^ t * (2 ^ s * 2 ^ t) + (x0 % 2 ^ t) * 2 ^ s := by
        conv => lhs; rw [← hx0d]
        rw [Nat.add_mul, Nat.mul_comm (2 ^ t), Nat.mul_assoc, Nat.mul_comm (2 ^ t)]
      rw [h1, Nat.add_mul, h2]
      omega
    have hX0 : (x0 % 2 ^ t) * 2 ^ s < M := by
      rw [← hst, Nat.mul_comm (2 ^ s)]
      exact Nat.mul_lt_mul_of_pos_right (Nat.mod_lt _ hT) hp
    have hX1 : x1 * 2 ^ s + x0 / 2 ^ t < y * 2 ^ s := by
      have h1 : x0 / 2 ^ t < 2 ^ s := by rw [Nat.div_lt_iff_lt_mul hT, hst]; exact hx0
      have h2 := Nat.mul_le_mul_right (2 ^ s) (show x1 + 1 ≤ y by omega)
      rw [Nat.add_mul, Nat.one_mul] at h2
      omega
    have hres0 : ∀ q r : Nat, (x1 * M + x0) * 2 ^ s = y * 2 ^ s * q + r → r < y * 2 ^ s → (x1 * M + x0) / y = q ∧ (x1 * M + x0) % y = r / 2 ^ s := by
      intro q r h1 h2
      obtain ⟨g1, g2⟩ := div_unique h1 h2
      rw [Nat.mul_div_mul_right _ _ hp] at g1
      rw [Nat.mul_mod_mul_right] at g2
      exact ⟨g1, by rw [← g2, Nat.mul_div_cancel _ hp]⟩
    rw [← hval] at hres0
    have hd1 : M ≤ 2 * (y * 2 ^ s) := by omega
    have hd2 := hn2
    obtain ⟨A1, hA1⟩ : ∃ a, x1 * 2 ^ s = a := ⟨_, rfl⟩
    obtain ⟨q0, hq0⟩ : ∃ a, x0 / 2 ^ t = a := ⟨_, rfl⟩
    obtain ⟨X0, hX0e⟩ : ∃ a, (x0 % 2 ^ t) * 2 ^ s = a := ⟨_, rfl⟩
    obtain ⟨d, hde⟩ : ∃ a, y * 2 ^ s = a := ⟨_, rfl⟩
    rw [hA1] at f1 f3 hX1 hres0
    rw [hq0] at f2 f3 hX1 hres0
    rw [hX0e] at f4 hX0 hres0
    rw [hde] at f5 hX1 hd1 hd2 hres0 ⊢
    obtain ⟨X1, hX1e⟩ : ∃ a, A1 + q0 = a := ⟨_, rfl⟩
    rw [hX1e] at f3 hX1 hres0
    have hres := hres0
    have hs1 : ((s : Int) != 0) = true := by rw [bne_iff_ne]; omega
    have hs2 : (0 : Int) ≤ (s : Int) := by omega
    have hs3 : (s : Int) ≤ 64 := by omega
    have ht1' : (0 : Int) ≤ (t : Int) := by omega
    have ht2' : (t : Int) ≤ 64 := by omega
    clear hres0 hX1e hde hX0e hq0 hA1 hval hx0d hyt hst hp hT hn1 hn2 e63 ht
    obtain ⟨m, t1, t0, c, lo, qq, dq1, dq0, b, r0, r1, hme, hmM, ht1, ht0, hc, hlo, hc1, hqq, hqM, hdq1, hdq0, hr0, hb, hb1, hr1, hr11, hr0M, hX, hXr⟩ := divWW_words hd1 hd2 hX1 hX0
    rw [hme]
    have H1 := Lib.hid (fun W => Mul_any m X1 hmM (by omega) W)
    rw [ht1, ht0] at H1
    have H2 := Lib.hid (fun W => Add0_any t0 X0 W)
    rw [hlo, hc] at H2
    have H3 := Lib.hid (fun W => AddC_any t1 X1 c hc1 W)
    rw [hqq] at H3
    have H4 := Lib.hid (fun W => Mul_any d qq hd2 hqM W)
    rw [hdq1, hdq0] at H4
    have H5 := Lib.hid (fun W => Sub0_any X0 dq0 W)
    rw [hr0, hb] at H5
    have H6 := Lib.hid (fun W => Sub_any X1 dq1 b hb1 W)
    rw [hr1] at H6
    obtain ⟨hi3, hhi3⟩ : ∃ h, (t1 + X1 + c) / M = h := ⟨_, rfl⟩
    rw [hhi3] at H3
    obtain ⟨b6, hb6⟩ : ∃ h : Nat, (if X1 < dq1 + b then 1 else 0) = h := ⟨_, rfl⟩
    rw [hb6] at H6
    have HU := Lib.hid (fun q r (h : X1 * M + X0 = d * q + r) (hr : r < d) => hres q r h hr)
    have HXX := Lib.hid hX
    have hqq1 : r1 = 1 ∨ d ≤ r0 → qq + 1 < M := by
      intro h
      have h2 : d * (qq + 1) ≤ X1 * M + X0 := by
        rw [Nat.mul_add, Nat.mul_one, hX]
        rcases h with h | h
        · rw [h, Nat.one_mul]; omega
        · omega
      refine Nat.lt_of_mul_lt_mul_left (a := d) (Nat.lt_of_le_of_lt h2 ?_)
      have h3 := Nat.mul_le_mul_right M (show X1 + 1 ≤ d by omega)
      rw [Nat.add_mul, Nat.one_mul] at h3
      omega
    have hqq2 : r1 = 1 → d ≤ M + r0 - d → qq + 2 < M := by
      intro h h4
      have h2 : d * (qq + 2) ≤ X1 * M + X0 := by
        rw [Nat.mul_add, hX, h, Nat.one_mul]; omega
      refine Nat.lt_of_mul_lt_mul_left (a := d) (Nat.lt_of_le_of_lt h2 ?_)
      have h3 := Nat.mul_le_mul_right M (show X1 + 1 ≤ d by omega)
      rw [Nat.add_mul, Nat.one_mul] at h3
      omega
    clear ht1 ht0 hc hlo hqq hdq1 hdq0 hr0 hb hr1 hhi3 hb6 hme hX hres
    have hr1c : r1 = 1 ∨ r1 = 0 := by omega
    rcases hr1c with hr1e | hr1e
    · subst hr1e
      have hr0d : r0 < d := by omega
      have hq1 := hqq1 (Or.inl rfl)
      have hw1 : IntKind.u64.wrap ((qq : Int) + 1) = ((qq + 1 : Nat) : Int) := by rw [IntKind.wrap_u64]; rw [M_eq] at hq1; omega
      have hw2 : IntKind.u64.wrap ((r0 : Int) - (d : Int)) = ((M + r0 - d : Nat) : Int) := by rw [IntKind.wrap_u64]; rw [M_eq] at *; omega
      obtain ⟨q1, hq1e⟩ : ∃ q1, qq + 1 = q1 := ⟨_, rfl⟩
      obtain ⟨ra, hra⟩ : ∃ ra, M + r0 - d = ra := ⟨_, rfl⟩
      rw [hq1e] at hw1 hq1
      rw [hra] at hw2 hqq2
      have hraM : ra < M := by omega
      by_cases hge : d ≤ ra
      · have hq2 := hqq2 rfl hge
        have hw3 : IntKind.u64.wrap ((q1 : Int) + 1) = ((qq + 2 : Nat) : Int) := by rw [IntKind.wrap_u64]; rw [M_eq] at hq2; omega
        have hw4 : IntKind.u64.wrap ((ra : Int) - (d : Int)) = ((ra - d : Nat) : Int) := by rw [IntKind.wrap_u64]; rw [M_eq] at hraM; omega
        have hgei : ((d : Nat) : Int) ≤ (ra : Int) := by omega
        obtain ⟨u1, u2⟩ := HU.out (qq + 2) (ra - d) (by rw [HXX.out]; simp only [Nat.mul_add, Nat.one_mul]; omega) (by omega)
        obtain ⟨rr, hrr⟩ : ∃ rr, ra - d = rr := ⟨_, rfl⟩
        rw [hrr] at u2
        have hsh := div_shr rr s
        obtain ⟨rs, hrs⟩ : ∃ rs, rr / 2 ^ s = rs := ⟨_, rfl⟩
        rw [hrs] at hsh u2
        rw [hrr] at hw4
        obtain ⟨q2, hq2e⟩ : ∃ q2, qq + 2 = q2 := ⟨_, rfl⟩
        rw [hq2e] at hw3 u1
        clear hq2e hrr hra hq1e hqq1 hqq2 hXr hr0d hq2 hge hrs
        go_enter Tryz.func243, Tryz.ntmps243
        go_wp2_with fail
        refine (HN.out _).mono ?_; rintro e w2 ⟨rfl, rfl⟩
        go_wp2_with fail
        refine (H1.out _).mono ?_; rintro e w2 ⟨rfl, rfl⟩
        go_wp2_with fail
        refine (H2.out _).mono ?_; rintro e w2 ⟨rfl, rfl⟩
        go_wp2_with fail
        refine (H3.out _).mono ?_; rintro e w2 ⟨rfl, rfl⟩
        go_wp2_with fail
        refine (H4.out _).mono ?_; rintro e w2 ⟨rfl, rfl⟩
        go_wp2_with fail
        refine (H5.out _).mono ?_; rintro e w2 ⟨rfl, rfl⟩
        go_wp2_with fail
        refine (H6.out _).mono ?_; rintro e w2 ⟨rfl, rfl⟩
        go_wp2
        exact bodyPost_ret (v := .tuple #[.int .u64 ((q2 : Nat) : Int), .int .u64 ((rs : Nat) : Int)]) (by simp [results, Tryz.results243, go_sem]) rfl ⟨by rw [u1, u2], rfl⟩
      · have hgei : ¬ ((d : Nat) : Int) ≤ (ra : Int) := by omega
        obtain ⟨u1, u2⟩ := HU.out (qq + 1) (M + r0 - d) (by rw [HXX.out]; simp only [Nat.mul_add, Nat.mul_one, Nat.one_mul]; omega) (by omega)
        obtain ⟨rr, hrr⟩ : ∃ rr, M + r0 - d = rr := ⟨_, rfl⟩
        rw [hrr] at u2
        have hsh := div_shr rr s
        obtain ⟨rs, hrs⟩ : ∃ rs, rr / 2 ^ s = rs := ⟨_, rfl⟩
        rw [hrs] at hsh u2
        rw [hq1e] at u1
        rw [hra] at hrr
        subst hrr
        clear hra hq1e hqq1 hqq2 hXr hr0d hge hrs
        go_enter Tryz.func243, Tryz.ntmps243
        go_wp2_with fail
        refine (HN.out _).mono ?_; rintro e w2 ⟨rfl, rfl⟩
        go_wp2_with fail
        refine (H1.out _).mono ?_; rintro e w2 ⟨rfl, rfl⟩
        go_wp2_with fail
        refine (H2.out _).mono ?_; rintro e w2 ⟨rfl, rfl⟩
        go_wp2_with fail
        refine (H3.out _).mono ?_; rintro e w2 ⟨rfl, rfl⟩
        go_wp2_with fail
        refine (H4.out _).mono ?_; rintro e w2 ⟨rfl, rfl⟩
        go_wp2_with fail
        refine (H5.out _).mono ?_; rintro e w2 ⟨rfl, rfl⟩
        go_wp2_with fail
        refine (H6.out _).mono ?_; rintro e w2 ⟨rfl, rfl⟩
        go_wp2
        exact bodyPost_ret (v := .tuple #[.int .u64 ((q1 : Nat) : Int), .int .u64 ((rs : Nat) : Int)]) (by simp [results, Tryz.results243, go_sem]) rfl ⟨by rw [u1, u2], rfl⟩
    · subst hr1e
      by_cases hge : d ≤ r0
      · have hq1 := hqq1 (Or.inr hge)
        have hw3 : IntKind.u64.wrap ((qq : Int) + 1) = ((qq + 1 : Nat) : Int) := by rw [IntKind.wrap_u64]; rw [M_eq] at hq1; omega
        have hw4 : IntKind.u64.wrap ((r0 : Int) - (d : Int)) = ((r0 - d : Nat) : Int) := by rw [IntKind.wrap_u64]; rw [M_eq] at hr0M; omega
        have hgei : ((d : Nat) : Int) ≤ (r0 : Int) := by omega
        obtain ⟨u1, u2⟩ := HU.out (qq + 1) (r0 - d) (by rw [HXX.out]; simp only [Nat.mul_add, Nat.mul_one, Nat.zero_mul]; omega) (by omega)
        obtain ⟨rr, hrr⟩ : ∃ rr, r0 - d = rr := ⟨_, rfl⟩
        rw [hrr] at u2
        have hsh := div_shr rr s
        obtain ⟨rs, hrs⟩ : ∃ rs, rr / 2 ^ s = rs := ⟨_, rfl⟩
        rw [hrs] at hsh u2
        rw [hrr] at hw4
        obtain ⟨q2, hq2e⟩ : ∃ q2, qq + 1 = q2 := ⟨_, rfl⟩
        rw [hq2e] at hw3 u1
        clear hq2e hrr hqq1 hqq2 hXr hge hq1 hrs
        go_enter Tryz.func243, Tryz.ntmps243
        go_wp2_with fail
        refine (HN.out _).mono ?_; rintro e w2 ⟨rfl, rfl⟩
        go_wp2_with fail
        refine (H1.out _).mono ?_; rintro e w2 ⟨rfl, rfl⟩
        go_wp2_with fail
        refine (H2.out _).mono ?_; rintro e w2 ⟨rfl, rfl⟩
        go_wp2_with fail
        refine (H3.out _).mono ?_; rintro e w2 ⟨rfl, rfl⟩
        go_wp2_with fail
        refine (H4.out _).mono ?_; rintro e w2 ⟨rfl, rfl⟩
        go_wp2_with fail
        refine (H5.out _).mono ?_; rintro e w2 ⟨rfl, rfl⟩
        go_wp2_with fail
        refine (H6.out _).mono ?_; rintro e w2 ⟨rfl, rfl⟩
        go_wp2
        exact bodyPost_ret (v := .tuple #[.int .u64 ((q2 : Nat) : Int), .int .u64 ((rs : Nat) : Int)]) (by simp [results, Tryz.results243, go_sem]) rfl ⟨by rw [u1, u2], rfl⟩
      · have hgei : ¬ ((d : Nat) : Int) ≤ (r0 : Int) := by omega
        obtain ⟨u1, u2⟩ := HU.out (qq) (r0) (by rw [HXX.out]; simp only [Nat.zero_mul]; omega) (by omega)
        obtain ⟨rr, hrr⟩ : ∃ rr, r0 = rr := ⟨_, rfl⟩
        rw [hrr] at u2
        have hsh := div_shr rr s
        obtain ⟨rs, hrs⟩ : ∃ rs, rr / 2 ^ s = rs := ⟨_, rfl⟩
        rw [hrs] at hsh u2
        subst hrr
        clear hqq1 hqq2 hXr hge hrs
        go_enter Tryz.func243, Tryz.ntmps243
        go_wp2_with fail
        refine (HN.out _).mono ?_; rintro e w2 ⟨rfl, rfl⟩
        go_wp2_with fail
        refine (H1.out _).mono ?_; rintro e w2 ⟨rfl, rfl⟩
        go_wp2_with fail
        refine (H2.out _).mono ?_; rintro e w2 ⟨rfl, rfl⟩
        go_wp2_with fail
        refine (H3.out _).mono ?_; rintro e w2 ⟨rfl, rfl⟩
        go_wp2_with fail
        refine (H4.out _).mono ?_; rintro e w2 ⟨rfl, rfl⟩
        go_wp2_with fail
        refine (H5.out _).mono ?_; rintro e w2 ⟨rfl, rfl⟩
        go_wp2_with fail
        refine (H6.out _).mono ?_; rintro e w2 ⟨rfl, rfl⟩
        go_wp2
        exact bodyPost_ret (v := .tuple #[.int .u64 ((qq : Nat) : Int), .int .u64 ((rs : Nat) : Int)]) (by simp [results, Tryz.results243, go_sem]) rfl ⟨by rw [u1, u2], rfl⟩
end Go.Proofs.YtgfkdjmoflbmdaaGreatDoor
