/- Contracts: cut. PLAIN: digits are unique; times ten and a digit, digit by digit. Imports no program. PLAIN: comparing numbers by magnitudes; lists of numbers. Imports no program. PLAIN: what stands behind the numbers; a version's parts. Imports no program. Contracts: what stands behind the numbers. -/
import Derived.Test.YtgfkdjmoflbmdaaGreatDoorMPl1xPl2
import Derived.Handy
import Derived.Deep.QuietTactic
import Derived.BigQuiet
namespace Go.Proofs.YtgfkdjmoflbmdaaGreatDoor
open Go.RowKit
open Go.Proofs
theorem info9 : (Tryz.prog.info? 9).map (fun i => (i.zero, i.size, i.bytes)) = some (some (.string ⟨#[]⟩), 1, 16) := by kernel_rfl
def lim : Nat := 30000

set_option maxRecDepth 100000 in
theorem cut_any (s : ByteArray) (w : World) (hs : s.size ≤ lim) :
    Calls Tryz.prog 49 #[.string s, .func (.func 50) #[] #[]] w fun e w' => ∃ A c, e = .returned (.slice A (Pl.splitB 46 s.data.toList).length c) ∧ w'.ownsRow w.heap.size 9 1 (.slice A (Pl.splitB 46 s.data.toList).length c) (Pl.splitB 46 s.data.toList).length ((Pl.splitB 46 s.data.toList).map S) ∧ Below w.heap.size w w' := by
  unfold lim at hs
  obtain ⟨i0, hi, hz0, hz1, hz2⟩ := info_parts info9
  go_enter Tryz.func49, Tryz.ntmps49
  go_wp2
  go_loopw [5, 6, 7] (fun v f i wr => ∃ k fr ps, Pl.CutAt 46 s.data.toList fr k ps ∧ i = .int .i64 (k : Int) ∧ f = .int .i64 (fr : Int) ∧ wr.ownsRow w.heap.size 9 1 v ps.length (ps.map S) ∧ Below w.heap.size w wr) (fun _ _ i _ => s.size + 1 - (intOf i).toNat)
  case atStart => exact ⟨0, 0, [], Pl.CutAt.start _ _, rfl, rfl, World.ownsRow_nil _ _ _ _, Below.refl _ _⟩
  case round =>
    obtain ⟨k, fr, ps, hcut, rfl, rfl, hown, hbel⟩ := hrel
    have hps : ps.length ≤ s.size + 1 := by have := hcut.short; rw [len_list] at this; exact this
    have hfk : fr ≤ k := hcut.1
    have HC := Lib.hid hcut
    clear hcut
    by_cases h1 : k < s.size
    · have hk : s.data.toList[k]? = some s[k] := get_list s k h1
      have HK := Lib.hid hk
      clear hk
      by_cases h3 : s[k] = 46
      · have h4 : (s[k] == 46) = true := by rw [h3]; rfl
        have H3 := Lib.hid h3
        clear h3
        go_wp2_with (first | (go_at_call 50; refine (isPoint_any _ _).mono ?_; rintro e w' ⟨rfl, rfl⟩) | (at_builtin; refine wpList_app1 _ rfl (.tmp 25) (.tmp 30) 38 rfl w.heap.size 9 i0 _ 16 Tryz.underlying38 hi hz0 hz1 hz2 rfl _ _ _ rfl hown _ rfl rfl (by omega) (by omega) hbel.size ?_; intro g cap w1 hown1 hg1 hat1 hb1; clear hg1 hat1))
        go_roundw
        case rel =>
          refine ⟨k + 1, k + 1, ps ++ [(s.data.toList.drop fr).take (k - fr)], HC.out.hit (by rw [HK.out, H3.out]), by go_num, by go_num, ?_, hbel.trans hb1⟩
          exact own_cast hown1 (by simp) (by rw [ext_S]; simp)
        case measure => simp [intOf]; omega
      · have h4 : (s[k] == 46) = false := by simpa using h3
        have H3 := Lib.hid h3
        clear h3
        go_wp2_with (first | (go_at_call 50; refine (isPoint_any _ _).mono ?_; rintro e w' ⟨rfl, rfl⟩))
        go_roundw
        case rel =>
          exact ⟨k + 1, fr, ps, HC.out.miss (by rw [len_list]; exact h1) (by rw [HK.out]; intro h; exact H3.out (by simpa using h)), by go_num, rfl, hown, hbel⟩
        case measure => simp [intOf]; omega
    · by_cases h2 : k = s.size
      · subst h2
        go_wp2_with (at_builtin; refine wpList_app1 _ rfl (.tmp 25) (.tmp 30) 38 rfl w.heap.size 9 i0 _ 16 Tryz.underlying38 hi hz0 hz1 hz2 rfl _ _ _ rfl hown _ rfl rfl (by omega) (by omega) hbel.size ?_; intro g cap w1 hown1 hg1 hat1 hb1; clear hg1 hat1)
        go_roundw
        case rel =>
          refine ⟨s.size + 1, s.size + 1, ps ++ [(s.data.toList.drop fr).take (s.size - fr)], HC.out.last (by rw [len_list]), by go_num, by go_num, ?_, hbel.trans hb1⟩
          exact own_cast hown1 (by simp) (by rw [ext_S]; simp)
        case measure => simp [intOf]
      · go_wp2
        go_ret
        obtain rfl := HC.out.done (by rw [len_list]; omega)
        obtain ⟨A, c, rfl⟩ := own_form hown
        exact ⟨A, c, rfl, hown, hbel⟩
end Go.Proofs.YtgfkdjmoflbmdaaGreatDoor

namespace Go.Proofs.YtgfkdjmoflbmdaaGreatDoor.Pl

theorem digs_zero (b : Nat) : digs b 0 = [] := by unfold digs; simp
theorem digs_pos (b n : Nat) (hb : 2 ≤ b) (hn : n ≠ 0) : digs b n = n % b :: digs b (n / b) := by
  rw [digs, dif_neg (by omega)]
theorem digs_norm (b n : Nat) (hb : 2 ≤ b) : Normd (digs b n) := by
  induction n using Nat.strongRecOn with
  | _ n ih =>
    by_cases h : n = 0
    · subst h; simp [digs_zero, Normd]
    · rw [digs_pos b n hb h]
      by_cases h2 : n / b = 0
      · rw [h2, digs_zero]
        have : n % b = n := Nat.mod_eq_of_lt (by
          rcases Nat.lt_or_ge n b with hlt | hge
          · exact hlt
          · have := Nat.div_pos hge (by omega); omega)
        simp [Normd, this, h]
      · have := ih (n / b) (Nat.div_lt_self (by omega) (by omega))
        unfold Normd at this ⊢
        have hne : digs b (n / b) ≠ [] := by rw [digs_pos b _ hb h2]; simp
        rw [List.getLast?_cons]
        cases hl : (digs b (n / b)).getLast? with
        | none => exact absurd (List.getLast?_eq_none_iff.1 hl) hne
        | some x => rw [hl] at this; simpa using this
theorem val_pos_of (b : Nat) (hb : 2 ≤ b) : ∀ (l : List Nat), Normd l → l ≠ [] → 0 < val b l := by
  intro l hn hl
  have := val_ge b l hn hl
  exact Nat.lt_of_lt_of_le (Nat.pow_pos (by omega)) this
theorem Normd_tail {d : Nat} {l : List Nat} (h : Normd (d :: l)) : Normd l := by
  unfold Normd at h ⊢
  rw [List.getLast?_cons] at h
  cases hl : l.getLast? with
  | none => simp
  | some x => rw [hl] at h; simpa using h
theorem digs_val (b : Nat) (hb : 2 ≤ b) : ∀ (l : List Nat), (∀ d ∈ l, d < b) → Normd l → digs b (val b l) = l
  | [], _, _ => digs_zero b
  | d :: r, hl, hn => by
    have hd : d < b := hl d (by simp)
    have hr := digs_val b hb r (fun x hx => hl x (by simp [hx])) (Normd_tail hn)
    have hv : val b (d :: r) = d + b * val b r := rfl
    have hp := val_pos_of b hb (d :: r) hn (by simp)
    rw [digs_pos b _ hb (by omega), hv, Nat.add_mul_mod_self_left, Nat.mod_eq_of_lt hd, Nat.add_mul_div_left _ _ (by omega), Nat.div_eq_of_lt hd, Nat.zero_add, hr]
theorem digs_len_le {b n m : Nat} (hb : 2 ≤ b) (h : n < b ^ m) : (digs b n).length ≤ m := by
  rcases Nat.eq_zero_or_pos (digs b n).length with h0 | h0
  · omega
  · have hne : digs b n ≠ [] := fun e => by rw [e] at h0; simp at h0
    have h1 := val_ge b (digs b n) (digs_norm b n hb) hne
    rw [val_digs b n hb] at h1
    rcases Nat.lt_or_ge m (digs b n).length with hlt | hge
    · have := Nat.pow_le_pow_right (show 0 < b by omega) (show m ≤ (digs b n).length - 1 by omega)
      omega
    · exact hge

/-- (l * 10 + c) digit by digit in base 256: the low digits, the carry -/
def mul10 : Nat → List Nat → List Nat × Nat
  | c, [] => ([], c)
  | c, x :: r => ((c + 10 * x) % 256 :: (mul10 ((c + 10 * x) / 256) r).1, (mul10 ((c + 10 * x) / 256) r).2)
theorem mul10_len (c : Nat) (l : List Nat) : (mul10 c l).1.length = l.length := by
  induction l generalizing c with
  | nil => rfl
  | cons x r ih => simp [mul10, ih]
theorem mul10_lt (c : Nat) (l : List Nat) : ∀ d ∈ (mul10 c l).1, d < 256 := by
  induction l generalizing c with
  | nil => simp [mul10]
  | cons x r ih =>
    intro d hd
    simp only [mul10, List.mem_cons] at hd
    rcases hd with rfl | hd
    · omega
    · exact ih _ d hd
theorem mul10_carry (c : Nat) (l : List Nat) (hc : c ≤ 9) (hl : ∀ d ∈ l, d < 256) : (mul10 c l).2 ≤ 9 := by
  induction l generalizing c with
  | nil => exact hc
  | cons x r ih =>
    have hx : x < 256 := hl x (by simp)
    exact ih _ (by omega) (fun d hd => hl d (by simp [hd]))
theorem mul10_val (c : Nat) (l : List Nat) : val 256 (mul10 c l).1 + 256 ^ l.length * (mul10 c l).2 = c + 10 * val 256 l := by
  induction l generalizing c with
  | nil => simp [mul10, val]
  | cons x r ih =>
    have := ih ((c + 10 * x) / 256)
    simp only [mul10, val, List.length_cons, Nat.pow_succ]
    have e : 256 ^ r.length * 256 * (mul10 ((c + 10 * x) / 256) r).2 = 256 * (256 ^ r.length * (mul10 ((c + 10 * x) / 256) r).2) := by
      rw [Nat.mul_comm (256 ^ r.length) 256, Nat.mul_assoc]
    rw [e]
    omega
def withCarry (p : List Nat × Nat) : List Nat := if 0 < p.2 then p.1 ++ [p.2] else p.1
theorem withCarry_pos (l : List Nat) (c : Nat) (h : 0 < c) : withCarry (l, c) = l ++ [c] := by unfold withCarry; exact if_pos h
theorem withCarry_zero (l : List Nat) : withCarry (l, 0) = l := rfl
theorem mul10_cons (c x : Nat) (r : List Nat) : mul10 c (x :: r) = ((c + 10 * x) % 256 :: (mul10 ((c + 10 * x) / 256) r).1, (mul10 ((c + 10 * x) / 256) r).2) := rfl
theorem mul10_norm (c : Nat) (l : List Nat) (hl : ∀ d ∈ l, d < 256) (hn : Normd l) : Normd (withCarry (mul10 c l)) := by
  induction l generalizing c with
  | nil =>
    show Normd (withCarry ([], c))
    by_cases h : 0 < c
    · rw [withCarry_pos _ _ h]; simp [Normd]; omega
    · obtain rfl : c = 0 := by omega
      simp [withCarry_zero, Normd]
  | cons x r ih =>
    have ih' := ih ((c + 10 * x) / 256) (fun d hd => hl d (by simp [hd])) (Normd_tail hn)
    have hx : x < 256 := hl x (by simp)
    rw [mul10_cons]
    generalize hp : mul10 ((c + 10 * x) / 256) r = p at ih' ⊢
    obtain ⟨q, y⟩ := p
    simp only
    by_cases h : 0 < y
    · rw [withCarry_pos _ _ h]
      unfold Normd
      rw [List.getLast?_append]
      simp
      omega
    · obtain rfl : y = 0 := by omega
      rw [withCarry_zero] at ih' ⊢
      cases r with
      | nil =>
        simp only [mul10, Prod.mk.injEq] at hp
        obtain ⟨rfl, h0⟩ := hp
        have hx0 : x ≠ 0 := by simpa [Normd] using hn
        simp [Normd]
        omega
      | cons z r' =>
        have hne : q ≠ [] := by
          rw [mul10_cons, Prod.mk.injEq] at hp
          rw [← hp.1]; simp
        unfold Normd at ih' ⊢
        rw [List.getLast?_cons]
        cases hg : q.getLast? with
        | none => exact absurd (List.getLast?_eq_none_iff.1 hg) hne
        | some u => rw [hg] at ih'; simpa using ih'
theorem withCarry_val (l : List Nat) (p : List Nat × Nat) (hp : p.1.length = l.length) : val 256 (withCarry p) = val 256 p.1 + 256 ^ l.length * p.2 := by
  unfold withCarry
  by_cases h : 0 < p.2
  · rw [if_pos h, val_append, hp]; simp [val]
  · rw [if_neg h]; have : p.2 = 0 := by omega
    rw [this]; simp
theorem mul10_digs (n d : Nat) (hd : d ≤ 9) : withCarry (mul10 d (digs 256 n)) = digs 256 (n * 10 + d) := by
  have hl := digs_lt 256 n (by omega)
  have h1 := digs_val 256 (by omega) (withCarry (mul10 d (digs 256 n))) (by
    intro x hx
    unfold withCarry at hx
    have hc := mul10_carry d (digs 256 n) hd hl
    split at hx
    · rcases List.mem_append.1 hx with hx | hx
      · exact mul10_lt _ _ x hx
      · simp at hx; omega
    · exact mul10_lt _ _ x hx) (mul10_norm d _ hl (digs_norm 256 n (by omega)))
  rw [← h1, withCarry_val (digs 256 n) _ (mul10_len _ _), mul10_val, val_digs 256 n (by omega)]
  congr 1; omega

/-- the number that decimal digits write -/
def natAcc (n : Nat) (l : Bytes) : Nat := l.foldl (fun n c => n * 10 + (c.toNat - 48)) n
def natOf (l : Bytes) : Nat := natAcc 0 l
theorem natAcc_snoc (n : Nat) (l : Bytes) (c : UInt8) : natAcc n (l ++ [c]) = natAcc n l * 10 + (c.toNat - 48) := by simp [natAcc, List.foldl_append]
theorem natAcc_lt (l : Bytes) (hl : l.all isDig = true) : ∀ n, natAcc n l < (n + 1) * 10 ^ l.length := by
  induction l with
  | nil => intro n; simp [natAcc]
  | cons c r ih =>
    intro n
    rw [List.all_cons, Bool.and_eq_true] at hl
    have hc : c.toNat - 48 ≤ 9 := by
      have := hl.1
      simp [isDig] at this
      omega
    have := ih hl.2 (n * 10 + (c.toNat - 48))
    simp only [natAcc, List.foldl_cons] at this ⊢
    refine Nat.lt_of_lt_of_le this ?_
    rw [List.length_cons, Nat.pow_succ, Nat.mul_comm (10 ^ r.length) 10, ← Nat.mul_assoc]
    exact Nat.mul_le_mul_right _ (by omega)
theorem natOf_lt (l : Bytes) (hl : l.all isDig = true) : natOf l < 10 ^ l.length := by
  have := natAcc_lt l hl 0
  simpa [natOf] using this
/-- the magnitude as bytes, the highest first -/
def magOf (n : Nat) : Bytes := (digs 256 n).reverse.map UInt8.ofNat
theorem magOf_len (n m : Nat) (h : n < 256 ^ m) : (magOf n).length ≤ m := by
  simp only [magOf, List.length_map, List.length_reverse]
  exact digs_len_le (by omega) h
theorem magOf_head (n : Nat) (c : UInt8) (h : (magOf n)[0]? = some c) : c.toNat ≠ 0 := by
  have hn := digs_norm 256 n (by omega)
  have hl := digs_lt 256 n (by omega)
  simp only [magOf, List.getElem?_map, Option.map_eq_some_iff] at h
  obtain ⟨d, hd, rfl⟩ := h
  have hd2 : (digs 256 n).getLast? = some d := by
    rw [← List.head?_reverse, List.head?_eq_getElem?]; exact hd
  have hd3 : d ∈ digs 256 n := List.mem_of_getLast? hd2
  unfold Normd at hn
  rw [hd2] at hn
  have h1 := hl d hd3
  have h2 : d ≠ 0 := by simpa using hn
  have e : (UInt8.ofNat d).toNat = d := by
    show d % 256 = d
    exact Nat.mod_eq_of_lt h1
  rw [e]; exact h2
theorem pow10_lt (m : Nat) : 10 ^ m ≤ 256 ^ m := Nat.pow_le_pow_left (by omega) m

end Go.Proofs.YtgfkdjmoflbmdaaGreatDoor.Pl

namespace Go.Proofs.YtgfkdjmoflbmdaaGreatDoor.Pl

theorem cmpN_eq_ordI (a b : Nat) : cmpN a b = ordI a b := by unfold cmpN ordI; simp
theorem cmpN_self (a : Nat) : cmpN a a = 0 := by simp [cmpN]
theorem cmpN_zero (a b : Nat) : cmpN a b = 0 ↔ a = b := by
  unfold cmpN
  by_cases h : a < b
  · simp [h]; omega
  · by_cases h2 : b < a
    · simp [h, h2]; omega
    · simp [h, h2]; omega
theorem cmpN_neg (a b : Nat) : cmpN a b = -cmpN b a := by
  unfold cmpN
  by_cases h : a < b
  · have : ¬ b < a := by omega
    simp [h, this]
  · by_cases h2 : b < a <;> simp [h, h2]
theorem cmpN_cases (a b : Nat) : cmpN a b = -1 ∧ a < b ∨ cmpN a b = 0 ∧ a = b ∨ cmpN a b = 1 ∧ b < a := by
  unfold cmpN
  by_cases h : a < b
  · simp [h]
  · by_cases h2 : b < a
    · simp [h, h2]
    · simp [h, h2]; omega

/-- big-endian digits of one length, base 256: in the order of texts as by value -/
theorem less_val : ∀ (a b : List Nat), a.length = b.length → (∀ d ∈ a, d < 256) → (∀ d ∈ b, d < 256) →
    (less (a.map UInt8.ofNat) (b.map UInt8.ofNat) = true ↔ val 256 a.reverse < val 256 b.reverse)
  | [], [], _, _, _ => by simp [less, val]
  | x :: a, y :: b, hl, ha, hb => by
    have hl' : a.length = b.length := by simpa using hl
    have ih := less_val a b hl' (fun d hd => ha d (by simp [hd])) (fun d hd => hb d (by simp [hd]))
    have hx : x < 256 := ha x (by simp)
    have hy : y < 256 := hb y (by simp)
    have ex : (UInt8.ofNat x).toNat = x := Nat.mod_eq_of_lt hx
    have ey : (UInt8.ofNat y).toNat = y := Nat.mod_eq_of_lt hy
    have h1 : UInt8.ofNat x < UInt8.ofNat y ↔ x < y := by rw [UInt8.lt_iff_toNat_lt, ex, ey]
    have h2 : UInt8.ofNat x = UInt8.ofNat y ↔ x = y := by rw [← UInt8.toNat_inj, ex, ey]
    have va : val 256 a.reverse < 256 ^ a.length := by
      have := val_lt 256 a.reverse (fun d hd => ha d (by simp at hd; simp [hd]))
      simpa using this
    have vb : val 256 b.reverse < 256 ^ a.length := by
      have := val_lt 256 b.reverse (fun d hd => hb d (by simp at hd; simp [hd]))
      rw [hl']; simpa using this
    simp only [List.map_cons, less, List.reverse_cons, val_append, List.length_reverse, val, Nat.mul_zero, Nat.add_zero, ← hl']
    generalize hP : 256 ^ a.length = P at va vb ⊢
    rcases Nat.lt_trichotomy x y with h | h | h
    · have : P * (x + 1) ≤ P * y := Nat.mul_le_mul_left _ h
      rw [Nat.mul_add, Nat.mul_one] at this
      simp [h1, h]
      omega
    · subst h
      simp [ih]
    · have hn : ¬ x < y := by omega
      have hn2 : ¬ x = y := by omega
      have : P * (y + 1) ≤ P * x := Nat.mul_le_mul_left _ h
      rw [Nat.mul_add, Nat.mul_one] at this
      simp [h1, h2, hn, hn2]
      omega
  | [], _ :: _, hl, _, _ => by simp at hl
  | _ :: _, [], hl, _, _ => by simp at hl

theorem val_lt_of_len {a b : Nat} (h : (digs 256 a).length < (digs 256 b).length) : a < b := by
  have h1 := val_lt 256 (digs 256 a) (digs_lt 256 a (by omega))
  have h2 := val_ge 256 (digs 256 b) (digs_norm 256 b (by omega)) (by intro e; rw [e] at h; simp at h)
  rw [val_digs 256 _ (by omega)] at h1 h2
  have := Nat.pow_le_pow_right (show 0 < 256 by omega) (show (digs 256 a).length ≤ (digs 256 b).length - 1 by omega)
  omega
theorem magOf_length (n : Nat) : (magOf n).length = (digs 256 n).length := by simp [magOf]
theorem ordMag_mag (a b : Nat) : ordMag (magOf a) (magOf b) = cmpN a b := by
  unfold ordMag
  rw [magOf_length, magOf_length]
  by_cases h : (digs 256 a).length = (digs 256 b).length
  · rw [if_pos h]
    have ha := digs_lt 256 a (by omega)
    have hb := digs_lt 256 b (by omega)
    have l1 := less_val (digs 256 a).reverse (digs 256 b).reverse (by simpa using h) (fun d hd => ha d (by simpa using hd)) (fun d hd => hb d (by simpa using hd))
    have l2 := less_val (digs 256 b).reverse (digs 256 a).reverse (by simpa using h.symm) (fun d hd => hb d (by simpa using hd)) (fun d hd => ha d (by simpa using hd))
    rw [List.reverse_reverse, List.reverse_reverse, val_digs 256 _ (by omega), val_digs 256 _ (by omega)] at l1 l2
    unfold ordB cmpN magOf
    simp only [l1, l2]
  · rw [if_neg h]
    unfold ordI cmpN
    rcases Nat.lt_or_gt_of_ne h with h2 | h2
    · have := val_lt_of_len h2
      rw [if_pos (by omega), if_pos this]
    · have := val_lt_of_len h2
      rw [if_neg (by omega), if_pos (by omega), if_neg (by omega), if_pos this]

/-- lists of numbers, the shorter one filled up with 0 -/
def cmpNums : List Nat → List Nat → Int
  | [], [] => 0
  | x :: a, [] => if cmpN x 0 ≠ 0 then cmpN x 0 else cmpNums a []
  | [], y :: b => if cmpN 0 y ≠ 0 then cmpN 0 y else cmpNums [] b
  | x :: a, y :: b => if cmpN x y ≠ 0 then cmpN x y else cmpNums a b
theorem cmpNums_step (a b : List Nat) (k : Nat) (h : k < a.length ∨ k < b.length) :
    cmpNums (a.drop k) (b.drop k) = if cmpN (a.getD k 0) (b.getD k 0) ≠ 0 then cmpN (a.getD k 0) (b.getD k 0) else cmpNums (a.drop (k + 1)) (b.drop (k + 1)) := by
  by_cases ha : k < a.length
  · by_cases hb : k < b.length
    · rw [List.drop_eq_getElem_cons ha, List.drop_eq_getElem_cons hb, cmpNums]
      simp [List.getD_eq_getElem?_getD, List.getElem?_eq_getElem ha, List.getElem?_eq_getElem hb]
    · rw [List.drop_eq_getElem_cons ha, List.drop_eq_nil_of_le (by omega : b.length ≤ k), List.drop_eq_nil_of_le (by omega : b.length ≤ k + 1), cmpNums]
      simp [List.getD_eq_getElem?_getD, List.getElem?_eq_getElem ha, List.getElem?_eq_none (by omega : b.length ≤ k)]
  · have hb : k < b.length := by omega
    rw [List.drop_eq_getElem_cons hb, List.drop_eq_nil_of_le (by omega : a.length ≤ k), List.drop_eq_nil_of_le (by omega : a.length ≤ k + 1), cmpNums]
    simp [List.getD_eq_getElem?_getD, List.getElem?_eq_getElem hb, List.getElem?_eq_none (by omega : a.length ≤ k)]
theorem cmpNums_end (a b : List Nat) (k : Nat) (ha : a.length ≤ k) (hb : b.length ≤ k) : cmpNums (a.drop k) (b.drop k) = 0 := by
  rw [List.drop_eq_nil_of_le ha, List.drop_eq_nil_of_le hb]; simp [cmpNums]
theorem magOf_zero : magOf 0 = [] := by simp [magOf, digs_zero]

end Go.Proofs.YtgfkdjmoflbmdaaGreatDoor.Pl

namespace Go.Proofs.YtgfkdjmoflbmdaaGreatDoor.Pl

def beforePlus (l : Bytes) : Bytes := match idxOf 43 l with
  | some k => l.take k
  | none => l
def trimHy : Bytes → Bytes
  | [] => []
  | c :: r => if c = 45 then r else c :: r
def idents (l : Bytes) : List Bytes := if trimHy (beforePlus l) = [] then [] else splitB 46 (trimHy (beforePlus l))
def idKnown1 (s : Bytes) : Bool := !(decide (1 < s.length) && (s[0]? == some 45 || s[0]? == some 43) && allDig (s.drop 1))
def idsKnown (l : List Bytes) : Bool := l.all idKnown1
def buildKnown (b : Bytes) : Bool := ascii b && idsKnown (idents b)
def identsCmp : List Bytes → List Bytes → Int
  | a :: x, b :: y => if idOne a b ≠ 0 then idOne a b else identsCmp x y
  | x, y => ordI x.length y.length
def builds (a b : Bytes) : Int :=
  if (idents a).length = 0 ∨ (idents b).length = 0 then ordI (min ((idents b).length : Int) 1) (min ((idents a).length : Int) 1) else identsCmp (idents a) (idents b)
def coreB (c : UInt8) : Bool := isDig c || c == 46
def restV : Bytes → Bytes
  | [] => []
  | c :: r => if c = 118 then r else c :: r
def startsV (l : Bytes) : Bool := l[0]? == some 118
def coreOf (l : Bytes) : Bytes := (restV l).takeWhile coreB
def buildOf (l : Bytes) : Bytes := (restV l).dropWhile coreB
def numsOf (l : Bytes) : List Nat := ((splitB 46 (coreOf l)).filter (fun p => !p.isEmpty)).map natOf

theorem idxOf_some {c : UInt8} {l : Bytes} {k : Nat} (h : idxOf c l = some k) : k < l.length ∧ l[k]? = some c ∧ ∀ j, j < k → l[j]? ≠ some c := by
  induction l generalizing k with
  | nil => simp [idxOf] at h
  | cons d r ih =>
    unfold idxOf at h
    by_cases hd : d = c
    · rw [if_pos hd] at h
      obtain rfl : 0 = k := by simpa using h
      exact ⟨by simp, by simp [hd], fun j hj => by omega⟩
    · rw [if_neg hd] at h
      cases hr : idxOf c r with
      | none => rw [hr] at h; simp at h
      | some m =>
        rw [hr] at h
        obtain rfl : m + 1 = k := by simpa using h
        obtain ⟨h1, h2, h3⟩ := ih hr
        refine ⟨by simp; omega, by simpa using h2, fun j hj => ?_⟩
        cases j with
        | zero => simpa using hd
        | succ j => simpa using h3 j (by omega)
theorem idxOf_no {c : UInt8} {l : Bytes} (h : idxOf c l = none) : ∀ j, j < l.length → l[j]? ≠ some c := by
  induction l with
  | nil => intro j hj; simp at hj
  | cons d r ih =>
    unfold idxOf at h
    by_cases hd : d = c
    · rw [if_pos hd] at h; cases h
    · rw [if_neg hd] at h
      have hr : idxOf c r = none := by
        cases hx : idxOf c r with
        | none => rfl
        | some k => rw [hx] at h; simp at h
      intro j hj
      cases j with
      | zero => simpa using hd
      | succ j => simpa using ih hr j (by simpa using hj)
theorem identsCmp_step (a b : List Bytes) (k : Nat) (ha : k < a.length) (hb : k < b.length) :
    identsCmp (a.drop k) (b.drop k) = if idOne a[k] b[k] ≠ 0 then idOne a[k] b[k] else identsCmp (a.drop (k + 1)) (b.drop (k + 1)) := by
  rw [List.drop_eq_getElem_cons ha, List.drop_eq_getElem_cons hb, identsCmp]
theorem identsCmp_end (a b : List Bytes) (k : Nat) (h : a.length ≤ k ∨ b.length ≤ k) (hka : k ≤ a.length) (hkb : k ≤ b.length) : identsCmp (a.drop k) (b.drop k) = ordI a.length b.length := by
  have hl : identsCmp (a.drop k) (b.drop k) = ordI (a.drop k).length (b.drop k).length := by
    rcases h with h | h
    · rw [List.drop_eq_nil_of_le h]
      cases b.drop k <;> simp [identsCmp]
    · rw [List.drop_eq_nil_of_le h]
      cases a.drop k <;> simp [identsCmp]
  rw [hl, List.length_drop, List.length_drop]
  unfold ordI
  by_cases h1 : (a.length : Int) < b.length
  · rw [if_pos h1, if_pos (by omega)]
  · rw [if_neg h1, if_neg (by omega)]
    by_cases h2 : (b.length : Int) < a.length
    · rw [if_pos h2, if_pos (by omega)]
    · rw [if_neg h2, if_neg (by omega)]
theorem trimHy_len (l : Bytes) : (trimHy l).length ≤ l.length := by
  cases l with
  | nil => simp [trimHy]
  | cons c r =>
    show (if c = 45 then r else c :: r).length ≤ _
    by_cases h : c = 45
    · rw [if_pos h]; simp
    · rw [if_neg h]; exact Nat.le_refl _
theorem beforePlus_len (l : Bytes) : (beforePlus l).length ≤ l.length := by
  unfold beforePlus
  split
  · rw [List.length_take]; omega
  · exact Nat.le_refl _
theorem idents_len (l : Bytes) : (idents l).length ≤ l.length + 1 := by
  unfold idents
  split
  · simp
  · have h1 := splitB_length 46 (trimHy (beforePlus l))
    have h2 := trimHy_len (beforePlus l)
    have h3 := beforePlus_len l
    omega
theorem idents_mem (l : Bytes) : ∀ p ∈ idents l, p.length ≤ l.length := by
  intro p hp
  unfold idents at hp
  split at hp
  · simp at hp
  · have h1 := (splitB_mem 46 _ p hp).1
    have h2 := trimHy_len (beforePlus l)
    have h3 := beforePlus_len l
    omega
theorem while_at {p : UInt8 → Bool} : ∀ (l : Bytes) (k : Nat), (l.take k).all p = true → (k = l.length ∨ ∃ c, l[k]? = some c ∧ p c = false) → l.takeWhile p = l.take k ∧ l.dropWhile p = l.drop k
  | [], k, _, h => by
    rcases h with h | ⟨c, h, _⟩
    · simp
    · simp at h
  | c :: r, 0, _, h => by
    rcases h with h | ⟨d, h, hd⟩
    · simp at h
    · obtain rfl : c = d := by simpa using h
      simp [hd]
  | c :: r, k + 1, ha, h => by
    rw [List.take_succ_cons, List.all_cons, Bool.and_eq_true] at ha
    have ih := while_at r k ha.2 (by simpa using h)
    simp [ha.1, ih.1, ih.2]
theorem piece_digs (l : Bytes) : ∀ p ∈ splitB 46 (coreOf l), p.length ≤ (coreOf l).length ∧ p.all isDig = true := by
  intro p hp
  obtain ⟨h1, h2⟩ := splitB_mem 46 _ p hp
  refine ⟨h1, List.all_eq_true.2 fun x hx => ?_⟩
  have h3 := all_takeWhile coreB (restV l) x (h2 x hx)
  have h4 := splitB_no 46 _ p hp x hx
  unfold coreB at h3
  rw [Bool.or_eq_true, beq_iff_eq] at h3
  exact h3.resolve_right h4
end Go.Proofs.YtgfkdjmoflbmdaaGreatDoor.Pl

namespace Go.Proofs.YtgfkdjmoflbmdaaGreatDoor
open Go.RowKit
open Go.Proofs

theorem idents_nil {l : Pl.Bytes} {t : ByteArray} (ht : t.data.toList = Pl.beforePlus l) (he : t.toList = []) : Pl.idents l = [] := by
  rw [toList_eq] at he
  unfold Pl.idents
  rw [← ht, he]; rfl
theorem idents_45 {l : Pl.Bytes} {t : ByteArray} (ht : t.data.toList = Pl.beforePlus l) (h0 : 0 < t.size) (h1 : ((t[0].toNat : Int) == 45) = true) : Pl.trimHy (Pl.beforePlus l) = (t.extract 1 t.size).data.toList := by
  rw [← ht, list_cons t h0]
  show (if t[0] = 45 then _ else _) = _
  rw [if_pos]
  rw [beq_iff_eq] at h1
  exact UInt8.toNat_inj.1 (by rw [show (45 : UInt8).toNat = 45 from rfl]; omega)
theorem idents_no45 {l : Pl.Bytes} {t : ByteArray} (ht : t.data.toList = Pl.beforePlus l) (h0 : 0 < t.size) (h1 : ((t[0].toNat : Int) == 45) = false) : Pl.trimHy (Pl.beforePlus l) = t.data.toList := by
  rw [← ht, list_cons t h0]
  show (if t[0] = 45 then _ else _) = _
  rw [if_neg]
  rw [beq_eq_false_iff_ne] at h1
  intro e
  apply h1
  rw [e]; rfl
theorem idents_split {l u : Pl.Bytes} (h : Pl.trimHy (Pl.beforePlus l) = u) (hu : u ≠ []) : Pl.idents l = Pl.splitB 46 u := by
  unfold Pl.idents
  rw [h, if_neg hu]
theorem ne_of_isEmpty {u : ByteArray} (h : u.toList.isEmpty = false) : u.data.toList ≠ [] := by
  rw [toList_eq] at h
  intro e
  rw [e] at h
  cases h
theorem size_pos_of {t : ByteArray} (h : ¬ t.toList = []) : 0 < t.size := by
  rw [toList_eq] at h
  rw [← len_list]
  exact List.length_pos_iff.2 h

set_option maxHeartbeats 1000000 in
theorem likeIdentifiers_any (s : ByteArray) (w : World) (hs : s.size ≤ 30000) :
    Calls Tryz.prog 84 #[.string s] w fun e w' => ∃ A c, e = .returned (.slice A (Pl.idents s.data.toList).length c) ∧ w'.ownsRow w.heap.size 9 1 (.slice A (Pl.idents s.data.toList).length c) (Pl.idents s.data.toList).length ((Pl.idents s.data.toList).map S) ∧ Below w.heap.size w w' := by
  obtain ⟨R, hR⟩ : ∃ R, Pl.idents s.data.toList = R := ⟨_, rfl⟩
  rw [hR]
  have HR := Lib.hid hR
  clear hR
  cases hi : Pl.idxOf 43 s.data.toList with
  | none =>
    have hk : idxI 43 s.data.toList = -1 := by simp [idxI, hi]
    have HT : Hid (s.data.toList = Pl.beforePlus s.data.toList) := Lib.hid (by rw [Pl.beforePlus, hi])
    clear hi
    by_cases he : s.toList = []
    · have hR := idents_nil HT.out he
      go_enter Tryz.func84, Tryz.ntmps84
      go_wp2_with (first | (go_at_call 96; refine (indexOf_any _ 43 _ (by unfold maxLen; omega)).mono ?_; rintro e w' ⟨rfl, rfl⟩) | (go_at_call 49; refine (cut_any _ _ (by unfold lim; first | assumption | (simp; omega))).mono ?_; rintro e w1 ⟨A, c, rfl, hown, hb⟩))
      go_ret
      rw [HR.out] at hR
      subst hR
      exact ⟨_, _, rfl, World.ownsRow_nil _ _ _ _, Below.refl _ _⟩
    · have h0 : 0 < s.size := size_pos_of he
      have he1 : s.toList.isEmpty = false := by simpa using he
      clear he
      by_cases h45 : ((s[0].toNat : Int) == 45) = true
      · have hu := idents_45 HT.out h0 h45
        have HU := Lib.hid hu
        clear hu
        obtain ⟨u, hut⟩ : ∃ u, s.extract 1 s.size = u := ⟨_, rfl⟩
        have hus : u.size ≤ 30000 := by rw [← hut, ByteArray.size_extract]; omega
        rw [hut] at HU
        by_cases hue : u.toList = []
        · go_enter Tryz.func84, Tryz.ntmps84
          go_wp2_with (first | (go_at_call 96; refine (indexOf_any _ 43 _ (by unfold maxLen; omega)).mono ?_; rintro e w' ⟨rfl, rfl⟩) | (go_at_call 49; refine (cut_any _ _ (by unfold lim; first | assumption | (simp; omega))).mono ?_; rintro e w1 ⟨A, c, rfl, hown, hb⟩))
          go_ret
          have hR : Pl.idents s.data.toList = [] := by
            unfold Pl.idents
            rw [HU.out, ← toList_eq, hue]; rfl
          rw [HR.out] at hR
          subst hR
          exact ⟨_, _, rfl, World.ownsRow_nil _ _ _ _, Below.refl _ _⟩
        · have hue1 : u.toList.isEmpty = false := by simpa using hue
          clear hue
          go_enter Tryz.func84, Tryz.ntmps84
          go_wp2_with (first | (go_at_call 96; refine (indexOf_any _ 43 _ (by unfold maxLen; omega)).mono ?_; rintro e w' ⟨rfl, rfl⟩) | (go_at_call 49; refine (cut_any _ _ (by unfold lim; first | assumption | (simp; omega))).mono ?_; rintro e w1 ⟨A, c, rfl, hown, hb⟩))
          go_ret
          have hR := idents_split HU.out (ne_of_isEmpty hue1)
          rw [HR.out] at hR
          subst hR
          exact ⟨_, _, rfl, hown, hb⟩
      · have h45f : ((s[0].toNat : Int) == 45) = false := by simpa using h45
        clear h45
        have hu := idents_no45 HT.out h0 h45f
        have HU := Lib.hid hu
        clear hu
        go_enter Tryz.func84, Tryz.ntmps84
        go_wp2_with (first | (go_at_call 96; refine (indexOf_any _ 43 _ (by unfold maxLen; omega)).mono ?_; rintro e w' ⟨rfl, rfl⟩) | (go_at_call 49; refine (cut_any _ _ (by unfold lim; first | assumption | (simp; omega))).mono ?_; rintro e w1 ⟨A, c, rfl, hown, hb⟩))
        go_ret
        have hR := idents_split HU.out (ne_of_isEmpty he1)
        rw [HR.out] at hR
        subst hR
        exact ⟨_, _, rfl, hown, hb⟩
  | some k =>
    have hk : idxI 43 s.data.toList = (k : Int) := by simp [idxI, hi]
    have hks : k < s.size := by have := (Pl.idxOf_some hi).1; rw [len_list] at this; exact this
    obtain ⟨t, ht⟩ : ∃ t, s.extract 0 k = t := ⟨_, rfl⟩
    have HT : Hid (t.data.toList = Pl.beforePlus s.data.toList) := Lib.hid (by rw [Pl.beforePlus, hi, ← ht, Lib.extract_data]; simp)
    have hts : t.size ≤ 30000 := by rw [← ht, ByteArray.size_extract]; omega
    clear hi
    by_cases he : t.toList = []
    · have hR := idents_nil HT.out he
      go_enter Tryz.func84, Tryz.ntmps84
      go_wp2_with (first | (go_at_call 96; refine (indexOf_any _ 43 _ (by unfold maxLen; omega)).mono ?_; rintro e w' ⟨rfl, rfl⟩) | (go_at_call 49; refine (cut_any _ _ (by unfold lim; first | assumption | (simp; omega))).mono ?_; rintro e w1 ⟨A, c, rfl, hown, hb⟩))
      go_ret
      rw [HR.out] at hR
      subst hR
      exact ⟨_, _, rfl, World.ownsRow_nil _ _ _ _, Below.refl _ _⟩
    · have h0 : 0 < t.size := size_pos_of he
      have he1 : t.toList.isEmpty = false := by simpa using he
      clear he
      by_cases h45 : ((t[0].toNat : Int) == 45) = true
      · have hu := idents_45 HT.out h0 h45
        have HU := Lib.hid hu
        clear hu
        obtain ⟨u, hut⟩ : ∃ u, t.extract 1 t.size = u := ⟨_, rfl⟩
        have hus : u.size ≤ 30000 := by rw [← hut, ByteArray.size_extract]; omega
        rw [hut] at HU
        by_cases hue : u.toList = []
        · go_enter Tryz.func84, Tryz.ntmps84
          go_wp2_with (first | (go_at_call 96; refine (indexOf_any _ 43 _ (by unfold maxLen; omega)).mono ?_; rintro e w' ⟨rfl, rfl⟩) | (go_at_call 49; refine (cut_any _ _ (by unfold lim; first | assumption | (simp; omega))).mono ?_; rintro e w1 ⟨A, c, rfl, hown, hb⟩))
          go_ret
          have hR : Pl.idents s.data.toList = [] := by
            unfold Pl.idents
            rw [HU.out, ← toList_eq, hue]; rfl
          rw [HR.out] at hR
          subst hR
          exact ⟨_, _, rfl, World.ownsRow_nil _ _ _ _, Below.refl _ _⟩
        · have hue1 : u.toList.isEmpty = false := by simpa using hue
          clear hue
          go_enter Tryz.func84, Tryz.ntmps84
          go_wp2_with (first | (go_at_call 96; refine (indexOf_any _ 43 _ (by unfold maxLen; omega)).mono ?_; rintro e w' ⟨rfl, rfl⟩) | (go_at_call 49; refine (cut_any _ _ (by unfold lim; first | assumption | (simp; omega))).mono ?_; rintro e w1 ⟨A, c, rfl, hown, hb⟩))
          go_ret
          have hR := idents_split HU.out (ne_of_isEmpty hue1)
          rw [HR.out] at hR
          subst hR
          exact ⟨_, _, rfl, hown, hb⟩
      · have h45f : ((t[0].toNat : Int) == 45) = false := by simpa using h45
        clear h45
        have hu := idents_no45 HT.out h0 h45f
        have HU := Lib.hid hu
        clear hu
        go_enter Tryz.func84, Tryz.ntmps84
        go_wp2_with (first | (go_at_call 96; refine (indexOf_any _ 43 _ (by unfold maxLen; omega)).mono ?_; rintro e w' ⟨rfl, rfl⟩) | (go_at_call 49; refine (cut_any _ _ (by unfold lim; first | assumption | (simp; omega))).mono ?_; rintro e w1 ⟨A, c, rfl, hown, hb⟩))
        go_ret
        have hR := idents_split HU.out (ne_of_isEmpty he1)
        rw [HR.out] at hR
        subst hR
        exact ⟨_, _, rfl, hown, hb⟩

theorem Rd.str_at {w : World} {A : Option Addr} {ss : List Pl.Bytes} (h : Rd w 1 A ss.length (ss.map S)) {k : Nat} (hk : k < ss.length) :
    ∃ b o, A = some ⟨b, o, none⟩ ∧ w.cell? ⟨b, o + k, none⟩ = some (S ss[k]) := by
  obtain ⟨b, o, hA, hc⟩ := h.2 (by omega)
  exact ⟨b, o, hA, hc k _ (by simp [hk])⟩

theorem idKnown_eq (x : ByteArray) (h0 : 0 < x.size) : Pl.idKnown1 x.data.toList = !(decide (1 < x.size) && (((x[0].toNat : Int) == 45) || ((x[0].toNat : Int) == 43)) && Pl.allDig (x.extract 1 x.size).data.toList) := by
  have hd : x.data.toList.drop 1 = (x.extract 1 x.size).data.toList := by
    rw [list_cons x h0]; rfl
  have e (n : UInt8) : (x.data.toList[0]? == some n) = ((x[0].toNat : Int) == (n.toNat : Int)) := by
    rw [get_list x 0 h0, Bool.eq_iff_iff]
    simp only [Option.some_beq_some, beq_iff_eq]
    rw [← UInt8.toNat_inj]; omega
  unfold Pl.idKnown1
  rw [len_list, hd, e 45, e 43]
  rfl
theorem idKnown_short (x : ByteArray) (h : ¬ 1 < x.size) : Pl.idKnown1 x.data.toList = true := by
  unfold Pl.idKnown1
  rw [len_list]
  simp [h]
theorem idsKnown_bad {ss : List Pl.Bytes} {k : Nat} (h : k < ss.length) (hb : Pl.idKnown1 ss[k] = false) : Pl.idsKnown ss = false := by
  rw [Bool.eq_false_iff]
  intro ht
  rw [Pl.idsKnown, List.all_eq_true] at ht
  rw [ht _ (List.getElem_mem h)] at hb
  cases hb
theorem idsKnown_step {ss : List Pl.Bytes} {k : Nat} (h : k < ss.length) (ha : Pl.idsKnown (ss.take k) = true) (hb : Pl.idKnown1 ss[k] = true) : Pl.idsKnown (ss.take (k + 1)) = true := by
  unfold Pl.idsKnown at *
  rw [List.take_succ_eq_append_getElem h, List.all_append, ha]
  simp [hb]

set_option maxHeartbeats 2000000 in
theorem IdentifiersKnown_any (A : Option Addr) (c : Nat) (ss : List Pl.Bytes) (w : World) (hr : Rd w 1 A ss.length (ss.map S)) (hl : ss.length ≤ 40000) (hm : ∀ s ∈ ss, s.length ≤ 30000) :
    Calls Tryz.prog 83 #[.slice A ss.length c] w fun e w' => e = .returned (.bool (Pl.idsKnown ss)) ∧ w = w' := by
  have HM := Lib.hid hm
  clear hm
  go_enter Tryz.func83, Tryz.ntmps83
  go_wp2
  go_loop [3] (fun i => ∃ k : Nat, k ≤ ss.length ∧ i = .int .i64 k ∧ Pl.idsKnown (ss.take k) = true) (fun i => ss.length - (intOf i).toNat)
  case atStart => exact ⟨0, Nat.zero_le _, rfl, rfl⟩
  case round =>
    obtain ⟨k, hk, rfl, ha⟩ := hrel
    have HA := Lib.hid ha
    clear ha
    by_cases hlt : k < ss.length
    · obtain ⟨b, o, rfl, hc⟩ := hr.str_at hlt
      have hmk := HM.out ss[k] (List.getElem_mem hlt)
      obtain ⟨x, hx⟩ : ∃ x, (⟨ss[k].toArray⟩ : ByteArray) = x := ⟨_, rfl⟩
      have hxs : x.size ≤ 30000 := by rw [← hx]; exact hmk
      have hxd : x.data.toList = ss[k] := by rw [← hx]
      rw [S, hx] at hc
      have HX := Lib.hid hxd
      clear hx hxd
      by_cases h1 : 1 < x.size
      · have h0 : 0 < x.size := by omega
        have hke := idKnown_eq x h0
        obtain ⟨y, hy⟩ : ∃ y, x.extract 1 x.size = y := ⟨_, rfl⟩
        have hys : y.size ≤ 30000 := by rw [← hy, ByteArray.size_extract]; omega
        rw [hy] at hke
        have HK := Lib.hid hke
        clear hke
        have hi1 : (1 : Int) < (x.size : Int) := by omega
        by_cases h45 : ((x[0].toNat : Int) == 45) = true
        · by_cases hall : Pl.allDig y.data.toList = true
          · go_wp2_with (go_at_call 100; refine (allDigits_any _ _ (by unfold maxLen; omega)).mono ?_; rintro e w' ⟨rfl, rfl⟩)
            go_ret
            exact ⟨ret_bool (idsKnown_bad hlt (by rw [← HX.out]; rw [HK.out]; simp [*])).symm, rfl⟩
          · have hall1 : Pl.allDig y.data.toList = false := by simpa using hall
            clear hall
            go_wp2_with (go_at_call 100; refine (allDigits_any _ _ (by unfold maxLen; omega)).mono ?_; rintro e w' ⟨rfl, rfl⟩)
            go_round
            case rel => exact ⟨k + 1, by omega, by go_num, idsKnown_step hlt HA.out (by rw [← HX.out]; rw [HK.out]; simp [*])⟩
            case measure => simp [intOf]; omega
        · have h45f : ((x[0].toNat : Int) == 45) = false := by simpa using h45
          clear h45
          by_cases h43 : ((x[0].toNat : Int) == 43) = true
          · by_cases hall : Pl.allDig y.data.toList = true
            · go_wp2_with (go_at_call 100; refine (allDigits_any _ _ (by unfold maxLen; omega)).mono ?_; rintro e w' ⟨rfl, rfl⟩)
              go_ret
              exact ⟨ret_bool (idsKnown_bad hlt (by rw [← HX.out]; rw [HK.out]; simp [*])).symm, rfl⟩
            · have hall1 : Pl.allDig y.data.toList = false := by simpa using hall
              clear hall
              go_wp2_with (go_at_call 100; refine (allDigits_any _ _ (by unfold maxLen; omega)).mono ?_; rintro e w' ⟨rfl, rfl⟩)
              go_round
              case rel => exact ⟨k + 1, by omega, by go_num, idsKnown_step hlt HA.out (by rw [← HX.out]; rw [HK.out]; simp [*])⟩
              case measure => simp [intOf]; omega
          · have h43f : ((x[0].toNat : Int) == 43) = false := by simpa using h43
            clear h43
            go_wp2_with (go_at_call 100; refine (allDigits_any _ _ (by unfold maxLen; omega)).mono ?_; rintro e w' ⟨rfl, rfl⟩)
            go_round
            case rel => exact ⟨k + 1, by omega, by go_num, idsKnown_step hlt HA.out (by rw [← HX.out]; rw [HK.out]; simp [*])⟩
            case measure => simp [intOf]; omega
      · have hi1 : ¬ (1 : Int) < (x.size : Int) := by omega
        go_wp2_with (go_at_call 100; refine (allDigits_any _ _ (by unfold maxLen; omega)).mono ?_; rintro e w' ⟨rfl, rfl⟩)
        go_round
        case rel => exact ⟨k + 1, by omega, by go_num, idsKnown_step hlt HA.out (by rw [← HX.out]; exact idKnown_short x h1)⟩
        case measure => simp [intOf]; omega
    · go_wp2
      go_ret
      have : k = ss.length := by omega
      subst this
      refine ⟨ret_bool ?_, rfl⟩
      have h := HA.out
      rw [List.take_length] at h
      exact h.symm
end Go.Proofs.YtgfkdjmoflbmdaaGreatDoor
