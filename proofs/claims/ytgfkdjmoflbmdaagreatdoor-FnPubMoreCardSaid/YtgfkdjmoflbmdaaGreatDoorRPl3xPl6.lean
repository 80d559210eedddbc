/- PLAIN; Contracts; Contracts of small functions of the reference over bytes and texts; Errors compared; PLAIN. -/
import Derived.Test.YtgfkdjmoflbmdaaGreatDoorRWmxPl2
import Derived.Lib.AppendStr
import Derived.Lib.Builder
import Derived.Laws.Externs
import Derived.LaidEql
namespace Go.Proofs.YtgfkdjmoflbmdaaGreatDoor.Pl
theorem digs_zero (b : Nat) : digs b 0 = [] := by unfold digs; simp
theorem digs_pos (b n : Nat) (hb : 2 ≤ b) (hn : n ≠ 0) : digs b n = n % b :: digs b (n / b) := by
  rw [digs, dif_neg (by omega)]
theorem digs_norm (b n : Nat) (hb : 2 ≤ b) : Normd (digs b n) := by
  induction n using Nat.strongRecOn with
  | _ n ih =>
    by_cases h : n = 0
    · subst h; simp [digs_zero, Normd]
    · rw [digs_pos b n hb h]
      by_cases h2 : n / b = 0
      · rw [h2, digs_zero]
        have : n % b = n := Nat.mod_eq_of_lt (by
          rcases Nat.lt_or_ge n b with hlt | hge
          · exact hlt
          · have := Nat.div_pos hge (by omega); omega)
        simp [Normd, this, h]
      · have := ih (n / b) (Nat.div_lt_self (by omega) (by omega))
        unfold Normd at this ⊢
        have hne : digs b (n / b) ≠ [] := by rw [digs_pos b _ hb h2]; simp
        rw [List.getLast?_cons]
        cases hl : (digs b (n / b)).getLast? with
        | none => exact absurd (List.getLast?_eq_none_iff.1 hl) hne
        | some x => rw [hl] at this; simpa using this
theorem val_pos_of (b : Nat) (hb : 2 ≤ b) : ∀ (l : List Nat), Normd l → l ≠ [] → 0 < val b l := by
  intro l hn hl
  have := val_ge b l hn hl
  exact Nat.lt_of_lt_of_le (Nat.pow_pos (by omega)) this
theorem Normd_tail {d : Nat} {l : List Nat} (h : Normd (d :: l)) : Normd l := by
  unfold Normd at h ⊢
  rw [List.getLast?_cons] at h
  cases hl : l.getLast? with
  | none => simp
  | some x => rw [hl] at h; simpa using h
theorem digs_val (b : Nat) (hb : 2 ≤ b) : ∀ (l : List Nat), (∀ d ∈ l, d < b) → Normd l → digs b (val b l) = l
  | [], _, _ => digs_zero b
  | d :: r, hl, hn => by
    have hd : d < b := hl d (by simp)
    have hr := digs_val b hb r (fun x hx => hl x (by simp [hx])) (Normd_tail hn)
    have hv : val b (d :: r) = d + b * val b r := rfl
    have hp := val_pos_of b hb (d :: r) hn (by simp)
    rw [digs_pos b _ hb (by omega), hv, Nat.add_mul_mod_self_left, Nat.mod_eq_of_lt hd, Nat.add_mul_div_left _ _ (by omega), Nat.div_eq_of_lt hd, Nat.zero_add, hr]
theorem digs_len_le {b n m : Nat} (hb : 2 ≤ b) (h : n < b ^ m) : (digs b n).length ≤ m := by
  rcases Nat.eq_zero_or_pos (digs b n).length with h0 | h0
  · omega
  · have hne : digs b n ≠ [] := fun e => by rw [e] at h0; simp at h0
    have h1 := val_ge b (digs b n) (digs_norm b n hb) hne
    rw [val_digs b n hb] at h1
    rcases Nat.lt_or_ge m (digs b n).length with hlt | hge
    · have := Nat.pow_le_pow_right (show 0 < b by omega) (show m ≤ (digs b n).length - 1 by omega)
      omega
    · exact hge
def mul10 : Nat → List Nat → List Nat × Nat
  | c, [] => ([], c)
  | c, x :: r => ((c + 10 * x) % 256 :: (mul10 ((c + 10 * x) / 256) r).1, (mul10 ((c + 10 * x) / 256) r).2)
theorem mul10_len (c : Nat) (l : List Nat) : (mul10 c l).1.length = l.length := by
  induction l generalizing c with
  | nil => rfl
  | cons x r ih => simp [mul10, ih]
theorem mul10_lt (c : Nat) (l : List Nat) : ∀ d ∈ (mul10 c l).1, d < 256 := by
  induction l generalizing c with
  | nil => simp [mul10]
  | cons x r ih =>
    intro d hd
    simp only [mul10, List.mem_cons] at hd
    rcases hd with rfl | hd
    · omega
    · exact ih _ d hd
theorem mul10_carry (c : Nat) (l : List Nat) (hc : c ≤ 9) (hl : ∀ d ∈ l, d < 256) : (mul10 c l).2 ≤ 9 := by
  induction l generalizing c with
  | nil => exact hc
  | cons x r ih =>
    have hx : x < 256 := hl x (by simp)
    exact ih _ (by omega) (fun d hd => hl d (by simp [hd]))
theorem mul10_val (c : Nat) (l : List Nat) : val 256 (mul10 c l).1 + 256 ^ l.length * (mul10 c l).2 = c + 10 * val 256 l := by
  induction l generalizing c with
  | nil => simp [mul10, val]
  | cons x r ih =>
    have := ih ((c + 10 * x) / 256)
    simp only [mul10, val, List.length_cons, Nat.pow_succ]
    have e : 256 ^ r.length * 256 * (mul10 ((c + 10 * x) / 256) r).2 = 256 * (256 ^ r.length * (mul10 ((c + 10 * x) / 256) r).2) := by
      rw [Nat.mul_comm (256 ^ r.length) 256, Nat.mul_assoc]
    rw [e]
    omega
def withCarry (p : List Nat × Nat) : List Nat := if 0 < p.2 then p.1 ++ [p.2] else p.1
theorem withCarry_pos (l : List Nat) (c : Nat) (h : 0 < c) : withCarry (l, c) = l ++ [c] := by unfold withCarry; exact if_pos h
theorem withCarry_zero (l : List Nat) : withCarry (l, 0) = l := rfl
theorem mul10_cons (c x : Nat) (r : List Nat) : mul10 c (x :: r) = ((c + 10 * x) % 256 :: (mul10 ((c + 10 * x) / 256) r).1, (mul10 ((c + 10 * x) / 256) r).2) := rfl
theorem mul10_norm (c : Nat) (l : List Nat) (hl : ∀ d ∈ l, d < 256) (hn : Normd l) : Normd (withCarry (mul10 c l)) := by
  induction l generalizing c with
  | nil =>
    show Normd (withCarry ([], c))
    by_cases h : 0 < c
    · rw [withCarry_pos _ _ h]; simp [Normd]; omega
    · obtain rfl : c = 0 := by omega
      simp [withCarry_zero, Normd]
  | cons x r ih =>
    have ih' := ih ((c + 10 * x) / 256) (fun d hd => hl d (by simp [hd])) (Normd_tail hn)
    have hx : x < 256 := hl x (by simp)
    rw [mul10_cons]
    generalize hp : mul10 ((c + 10 * x) / 256) r = p at ih' ⊢
    obtain ⟨q, y⟩ := p
    simp only
    by_cases h : 0 < y
    · rw [withCarry_pos _ _ h]
      unfold Normd
      rw [List.getLast?_append]
      simp
      omega
    · obtain rfl : y = 0 := by omega
      rw [withCarry_zero] at ih' ⊢
      cases r with
      | nil =>
        simp only [mul10, Prod.mk.injEq] at hp
        obtain ⟨rfl, h0⟩ := hp
        have hx0 : x ≠ 0 := by simpa [Normd] using hn
        simp [Normd]
        omega
      | cons z r' =>
        have hne : q ≠ [] := by
          rw [mul10_cons, Prod.mk.injEq] at hp
          rw [← hp.1]; simp
        unfold Normd at ih' ⊢
        rw [List.getLast?_cons]
        cases hg : q.getLast? with
        | none => exact absurd (List.getLast?_eq_none_iff.1 hg) hne
        | some u => rw [hg] at ih'; simpa using ih'
theorem withCarry_val (l : List Nat) (p : List Nat × Nat) (hp : p.1.length = l.length) : val 256 (withCarry p) = val 256 p.1 + 256 ^ l.length * p.2 := by
  unfold withCarry
  by_cases h : 0 < p.2
  · rw [if_pos h, val_append, hp]; simp [val]
  · rw [if_neg h]; have : p.2 = 0 := by omega
    rw [this]; simp
theorem mul10_digs (n d : Nat) (hd : d ≤ 9) : withCarry (mul10 d (digs 256 n)) = digs 256 (n * 10 + d) := by
  have hl := digs_lt 256 n (by omega)
  have h1 := digs_val 256 (by omega) (withCarry (mul10 d (digs 256 n))) (by
    intro x hx
    unfold withCarry at hx
    have hc := mul10_carry d (digs 256 n) hd hl
    split at hx
    · rcases List.mem_append.1 hx with hx | hx
      · exact mul10_lt _ _ x hx
      · simp at hx; omega
    · exact mul10_lt _ _ x hx) (mul10_norm d _ hl (digs_norm 256 n (by omega)))
  rw [← h1, withCarry_val (digs 256 n) _ (mul10_len _ _), mul10_val, val_digs 256 n (by omega)]
  congr 1; omega
def natAcc (n : Nat) (l : Bytes) : Nat := l.foldl (fun n c => n * 10 + (c.toNat - 48)) n
def natOf (l : Bytes) : Nat := natAcc 0 l
theorem natAcc_snoc (n : Nat) (l : Bytes) (c : UInt8) : natAcc n (l ++ [c]) = natAcc n l * 10 + (c.toNat - 48) := by simp [natAcc, List.foldl_append]
theorem natAcc_lt (l : Bytes) (hl : l.all isDig = true) : ∀ n, natAcc n l < (n + 1) * 10 ^ l.length := by
  induction l with
  | nil => intro n; simp [natAcc]
  | cons c r ih =>
    intro n
    rw [List.all_cons, Bool.and_eq_true] at hl
    have hc : c.toNat - 48 ≤ 9 := by
      have := hl.1
      simp [isDig] at this
      omega
    have := ih hl.2 (n * 10 + (c.toNat - 48))
    simp only [natAcc, List.foldl_cons] at this ⊢
    refine Nat.lt_of_lt_of_le this ?_
    rw [List.length_cons, Nat.pow_succ, Nat.mul_comm (10 ^ r.length) 10, ← Nat.mul_assoc]
    exact Nat.mul_le_mul_right _ (by omega)
theorem natOf_lt (l : Bytes) (hl : l.all isDig = true) : natOf l < 10 ^ l.length := by
  have := natAcc_lt l hl 0
  simpa [natOf] using this
def magOf (n : Nat) : Bytes := (digs 256 n).reverse.map UInt8.ofNat
theorem magOf_len (n m : Nat) (h : n < 256 ^ m) : (magOf n).length ≤ m := by
  simp only [magOf, List.length_map, List.length_reverse]
  exact digs_len_le (by omega) h
theorem magOf_head (n : Nat) (c : UInt8) (h : (magOf n)[0]? = some c) : c.toNat ≠ 0 := by
  have hn := digs_norm 256 n (by omega)
  have hl := digs_lt 256 n (by omega)
  simp only [magOf, List.getElem?_map, Option.map_eq_some_iff] at h
  obtain ⟨d, hd, rfl⟩ := h
  have hd2 : (digs 256 n).getLast? = some d := by
    rw [← List.head?_reverse, List.head?_eq_getElem?]; exact hd
  have hd3 : d ∈ digs 256 n := List.mem_of_getLast? hd2
  unfold Normd at hn
  rw [hd2] at hn
  have h1 := hl d hd3
  have h2 : d ≠ 0 := by simpa using hn
  have e : (UInt8.ofNat d).toNat = d := by
    show d % 256 = d
    exact Nat.mod_eq_of_lt h1
  rw [e]; exact h2
theorem pow10_lt (m : Nat) : 10 ^ m ≤ 256 ^ m := Nat.pow_le_pow_left (by omega) m
end Go.Proofs.YtgfkdjmoflbmdaaGreatDoor.Pl
namespace Go.Proofs.YtgfkdjmoflbmdaaGreatDoor
open Go.RowKit
open Go.Proofs
theorem bld_size : (Tryz.prog.info? 149).map (fun i => i.size) = some 2 := by kernel_rfl
theorem bld_info5 : (Tryz.prog.info? 5).map (fun i => (i.zero, i.size, i.bytes)) = some (some (.int .u8 0), 1, 1) := by kernel_rfl
set_option maxHeartbeats 1000000 in
set_option maxRecDepth 100000 in
theorem copyCheck_used (b : Nat) (w : World) (h0 : w.cell? ⟨b, 0, none⟩ = some (.pointer (some ⟨b, 0, none⟩))) :
    Calls Tryz.prog 148 #[.pointer (some ⟨b, 0, none⟩)] w fun e w' => e = .returned (.tuple #[]) ∧ w' = w := by
  obtain ⟨j, hj, _⟩ := Option.map_eq_some_iff.1 bld_size
  have hq := fun W => Lib.run_neq_ptr_same (P := Tryz.prog) W ⟨b, 0, none⟩ Tryz.underlying147 hj
  go_enter Tryz.func148, Tryz.ntmps148
  go_wp2
  go_end0
  exact ⟨rfl, rfl⟩
set_option maxHeartbeats 1000000 in
set_option maxRecDepth 100000 in
theorem copyCheck_fresh (b : Nat) (w : World) (h0 : w.cell? ⟨b, 0, none⟩ = some (.pointer none)) (hsh : w.shape? b = some (149, 2)) (hfz : w.frozen? ⟨b, 0, none⟩ = false) :
    Calls Tryz.prog 148 #[.pointer (some ⟨b, 0, none⟩)] w fun e w' => e = .returned (.tuple #[]) ∧ w' = w.setCell ⟨b, 0, none⟩ (.pointer (some ⟨b, 0, none⟩)) := by
  obtain ⟨j, hj, hjs⟩ := Option.map_eq_some_iff.1 bld_size
  go_enter Tryz.func148, Tryz.ntmps148
  go_wp2
  rw [Lib.run_to_unsafe w ⟨b, 0, none⟩ Tryz.underlying147 Tryz.underlying185 hj (by rw [hjs]; decide) hsh (Nat.zero_lt_succ 1)]
  simp only [Result.andThen]
  rw [Oper.upon_value]
  go_wp2
  rw [run_callFunc_extern Tryz.func162 (by kernel_rfl) (by kernel_rfl) (by kernel_rfl) (e := Extern.AbiNoEscape.same) (by kernel_rfl)]
  rw [Lib.run_noEscape]
  simp only [Result.andThen]
  rw [Oper.upon_value]
  go_wp2
  rw [Lib.run_from_unsafe w ⟨b, 0, none⟩ Tryz.underlying185 Tryz.underlying147 hj hsh (by kernel_rfl)]
  simp only [Result.andThen]
  rw [Oper.upon_value]
  go_wp2
  go_end0
  exact ⟨rfl, rfl⟩
theorem copyCheck_any (B b : Nat) (bs : List Value) (w : World) (h : Lib.IsBuilder 149 5 B b bs w) :
    Calls Tryz.prog 148 #[.pointer (some ⟨b, 0, none⟩)] w fun e w' => e = .returned (.tuple #[]) ∧ (Lib.BuilderAt 149 5 B b (.pointer (some ⟨b, 0, none⟩)) bs w' ∧ Below B w w') := by
  rcases h with h | h
  · refine (copyCheck_fresh b w h.cell0 h.shape h.frozen0).mono ?_
    rintro e w' ⟨rfl, rfl⟩
    exact ⟨rfl, h.used _, (Below.refl B w).setCell (p := ⟨b, 0, none⟩) h.1 _⟩
  · refine (copyCheck_used b w h.cell0).mono ?_
    rintro e w' ⟨rfl, rfl⟩
    exact ⟨rfl, h, Below.refl B _⟩
set_option maxHeartbeats 2000000 in
set_option maxRecDepth 100000 in
theorem WriteString_any (B b : Nat) (bs : List Value) (s : ByteArray) (w : World) (h : Lib.IsBuilder 149 5 B b bs w) (hlen : bs.length + s.size ≤ 1000000) (hBw : B ≤ w.heap.size) :
    Calls Tryz.prog 131 #[.pointer (some ⟨b, 0, none⟩), .string s] w fun e w' => e = .returned (.tuple #[.int .i64 s.size, .nilIface]) ∧ (Lib.BuilderAt 149 5 B b (.pointer (some ⟨b, 0, none⟩)) (bs ++ Lib.strCells s) w' ∧ Below B w w') := by
  obtain ⟨i0, hi, hz0, hz1, hz2⟩ := info_parts bld_info5
  have HC := Lib.hid (copyCheck_any B b bs w h)
  clear h
  go_enter Tryz.func131, Tryz.ntmps131
  go_wp2_with fail
  refine HC.out.mono ?_; rintro e w1 ⟨rfl, ⟨hB, v, hbk, hown, hne⟩, hb1⟩
  have c0 : w1.cell? ⟨b, 0, none⟩ = some (.pointer (some ⟨b, 0, none⟩)) := by rw [Lib.cell_of_heap hbk]; rfl
  have c1 : w1.cell? ⟨b, 1, none⟩ = some v := by rw [Lib.cell_of_heap hbk]; rfl
  go_wp2_with (at_builtin; refine Lib.wpList_append_own_string _ rfl _ _ 91 9 rfl B 5 i0 Tryz.underlying91 Tryz.underlying9 hi hz0 hz1 hz2 _ _ _ rfl hown s rfl ?c3 ?c4 ?c5 ?_)
  case c3 => unfold maxLen; omega
  case c4 => omega
  case c5 => have := hb1.size; omega
  intro v' w2 hown' hgrow _
  have hlt : b < w1.heap.size := by
    rcases Nat.lt_or_ge b w1.heap.size with h' | h'
    · exact h'
    · simp [Array.getElem?_eq_none h'] at hbk
  have hb2 : w2.heap[b]? = some (.cells #[.pointer (some ⟨b, 0, none⟩), v] 149 (0, 0)) := by
    rw [hgrow.block b hlt (fun e => hne e.symm)]
    exact hbk
  have d0 : w2.cell? ⟨b, 0, none⟩ = some (.pointer (some ⟨b, 0, none⟩)) := by rw [Lib.cell_of_heap hb2]; rfl
  have d1 : w2.cell? ⟨b, 1, none⟩ = some v := by rw [Lib.cell_of_heap hb2]; rfl
  have f1 : w2.frozen? ⟨b, 1, none⟩ = false := Lib.frozen_of_heap hb2 1
  obtain ⟨ao, n', cap, rfl⟩ : ∃ ao n' cap, v' = .slice ao n' cap := by
    rcases hown'.2 with ⟨hv, _⟩ | ⟨g, cap, cur, hv, _⟩
    · exact ⟨_, _, _, hv⟩
    · exact ⟨_, _, _, hv⟩
  have HF := Lib.hid (And.intro (Lib.BuilderAt.put (T := 149) (e := 5) hB hb2 (bs' := bs ++ Lib.strCells s) (by simpa [Lib.strCells_length] using hown') (by decide)) ((hb1.grown hgrow (by have := hb1.size; omega) (fun k hk => (hown.lt k hk).1)).setCell (p := ⟨b, 1, none⟩) hB (.slice ao n' cap)))
  clear hown hown' hgrow hne hbk hb2
  go_wp2
  exact bodyPost_ret (v := .tuple #[.int .i64 s.size, .nilIface]) (by simp [results, Tryz.results131, go_sem]) rfl ⟨rfl, HF.out.1, HF.out.2⟩
theorem less_eq : ∀ a b : List UInt8, Op.bytesLess a b = Pl.less a b
  | _, [] => by simp [Op.bytesLess, Pl.less]
  | [], _ :: _ => by simp [Op.bytesLess, Pl.less]
  | a :: x, b :: y => by simp [Op.bytesLess, Pl.less, less_eq x y]
def digI (c : Int) : Bool := decide (48 ≤ c) && decide (c ≤ 57)
theorem digI_eq (c : UInt8) : digI (c.toNat : Int) = Pl.isDig c := by
  unfold digI Pl.isDig
  rw [Bool.eq_iff_iff]; simp; omega
theorem isDigit_any (c : Int) (w : World) : Calls Tryz.prog 48 #[.int .u8 c] w fun e w' => e = .returned (.bool (digI c)) ∧ w = w' := by
  go_enter Tryz.func48, Tryz.ntmps48
  go_wp2
  · have h : 48 ≤ c := by assumption
    go_ret; exact ⟨ret_bool (by simp [digI, h]), rfl⟩
  · have h : c < 48 := by assumption
    go_ret; exact ⟨ret_bool (by simp [digI]; omega), rfl⟩
theorem isDigit_byte (c : UInt8) (w : World) : Calls Tryz.prog 48 #[.int .u8 (c.toNat : Int)] w fun e w' => e = .returned (.bool (Pl.isDig c)) ∧ w = w' := by
  rw [← digI_eq]; exact isDigit_any _ w
theorem all_take_step {p : UInt8 → Bool} (l : List UInt8) (k : Nat) (c : UInt8) (h : (l.take k).all p = true) (hk : l[k]? = some c) (hc : p c = true) : (l.take (k + 1)).all p = true := by
  obtain ⟨hlt, rfl⟩ := List.getElem?_eq_some_iff.1 hk
  rw [List.take_succ_eq_append_getElem hlt, List.all_append, h]
  simp [hc]
theorem all_false {p : UInt8 → Bool} (l : List UInt8) (k : Nat) (c : UInt8) (hk : l[k]? = some c) (hc : p c = false) : l.all p = false := by
  rw [Bool.eq_false_iff]
  intro h
  have := List.all_eq_true.1 h c (List.mem_of_getElem? hk)
  rw [this] at hc; cases hc
theorem allDigits_any (s : ByteArray) (w : World) (hs : s.size ≤ maxLen) :
    Calls Tryz.prog 100 #[.string s] w fun e w' => e = .returned (.bool (Pl.allDig s.data.toList)) ∧ w = w' := by
  unfold maxLen at hs
  go_enter Tryz.func100, Tryz.ntmps100
  go_wp2
  go_loop [3] (fun i => ∃ k : Nat, k ≤ s.size ∧ i = .int .i64 k ∧ (s.data.toList.take k).all Pl.isDig = true) (fun i => s.size - (intOf i).toNat)
  case atStart => exact ⟨0, Nat.zero_le _, rfl, rfl⟩
  case round =>
    obtain ⟨k, hk, rfl, ha⟩ := hrel
    have HA := Lib.hid ha
    clear ha
    go_wp2_with (go_at_call 48; refine (isDigit_byte _ _).mono ?_; rintro e w' ⟨rfl, rfl⟩)
    · have hlt : k < s.size := by assumption
      have hd : (!Pl.isDig s[k]) = true := by assumption
      go_ret
      refine ⟨ret_bool ?_, rfl⟩
      rw [Pl.allDig, all_false _ k _ (get_list s k hlt) (by simpa using hd)]; rfl
    · have hlt : k < s.size := by assumption
      have hd : (!Pl.isDig s[k]) = false := by assumption
      go_round
      case rel => exact ⟨k + 1, by omega, by go_num, all_take_step _ k _ HA.out (get_list s k hlt) (by simpa using hd)⟩
      case measure => simp [intOf]; omega
    · have hge : ¬ k < s.size := by assumption
      go_ret
      refine ⟨ret_bool ?_, rfl⟩
      have h := HA.out
      rw [List.take_of_length_le (by rw [len_list]; omega)] at h
      rw [Pl.allDig, h, ← len_list]
      cases s.data.toList <;> simp
theorem Ascii_any (s : ByteArray) (w : World) (hs : s.size ≤ maxLen) :
    Calls Tryz.prog 43 #[.string s] w fun e w' => e = .returned (.bool (Pl.ascii s.data.toList)) ∧ w = w' := by
  unfold maxLen at hs
  go_enter Tryz.func43, Tryz.ntmps43
  go_wp2
  go_loop [3] (fun i => ∃ k : Nat, k ≤ s.size ∧ i = .int .i64 k ∧ (s.data.toList.take k).all (fun c => decide (c.toNat ≤ 127)) = true) (fun i => s.size - (intOf i).toNat)
  case atStart => exact ⟨0, Nat.zero_le _, rfl, rfl⟩
  case round =>
    obtain ⟨k, hk, rfl, ha⟩ := hrel
    have HA := Lib.hid ha
    clear ha
    go_wp2
    · have hlt : k < s.size := by assumption
      have hd : 127 < (s[k].toNat : Int) := by assumption
      go_ret
      refine ⟨ret_bool ?_, rfl⟩
      rw [Pl.ascii, all_false _ k _ (get_list s k hlt) (by simp; omega)]
    · have hlt : k < s.size := by assumption
      have hd : ¬ 127 < (s[k].toNat : Int) := by omega
      go_round
      case rel => exact ⟨k + 1, by omega, by go_num, all_take_step _ k _ HA.out (get_list s k hlt) (by simp; omega)⟩
      case measure => simp [intOf]; omega
    · have hge : ¬ k < s.size := by assumption
      go_ret
      refine ⟨ret_bool ?_, rfl⟩
      have h := HA.out
      rw [List.take_of_length_le (by rw [len_list]; omega)] at h
      rw [Pl.ascii, h]
theorem orderInts_any (a b : Int) (w : World) :
    Calls Tryz.prog 73 #[.int .i64 a, .int .i64 b] w fun e w' => e = .returned (.int .i64 (Pl.ordI a b)) ∧ w = w' := by
  go_enter Tryz.func73, Tryz.ntmps73
  go_wp2
  · have h : a < b := by omega
    go_ret; exact ⟨ret_int (by rw [Pl.ordI, if_pos h]), rfl⟩
  · have h : ¬ a < b := by omega
    have h2 : b < a := by omega
    go_ret; exact ⟨ret_int (by rw [Pl.ordI, if_neg h, if_pos h2]), rfl⟩
  · have h : ¬ a < b := by omega
    have h2 : ¬ b < a := by omega
    go_ret; exact ⟨ret_int (by rw [Pl.ordI, if_neg h, if_neg h2]), rfl⟩
theorem less_total (a b : Pl.Bytes) : Pl.less b a = (!(Pl.less a b || a == b)) := by
  induction a generalizing b with
  | nil => cases b <;> simp [Pl.less]
  | cons x a ih =>
    cases b with
    | nil => simp [Pl.less]
    | cons y b =>
      simp only [Pl.less, ih b]
      rcases Nat.lt_trichotomy x.toNat y.toNat with h | h | h
      · have h1 : x < y := h
        have h2 : ¬ y < x := fun hh => by have : y.toNat < x.toNat := hh; omega
        have h3 : y ≠ x := fun e => by subst e; omega
        simp [h1, h2, h3]
      · have e : x = y := UInt8.toNat_inj.1 h
        subst e
        simp
      · have h1 : ¬ x < y := fun hh => by have : x.toNat < y.toNat := hh; omega
        have h2 : y < x := h
        have h3 : x ≠ y := fun e => by subst e; omega
        simp [h1, h2, h3]
theorem order_any (a b : ByteArray) (w : World) :
    Calls Tryz.prog 62 #[.string a, .string b] w fun e w' => e = .returned (.int .i64 (Pl.ordB a.data.toList b.data.toList)) ∧ w = w' := by
  have hc := less_total a.data.toList b.data.toList
  rw [← less_eq a.data.toList b.data.toList, ← toList_eq, ← toList_eq] at hc
  have HC := Lib.hid hc
  clear hc
  go_enter Tryz.func62, Tryz.ntmps62
  go_wp2
  · have h : Op.bytesLess a.toList b.toList = true := by assumption
    go_ret; exact ⟨ret_int (by rw [Pl.ordB, ← less_eq, ← toList_eq, ← toList_eq, if_pos h]), rfl⟩
  · have h : Op.bytesLess a.toList b.toList = false := by assumption
    have h2 : (!a.toList == b.toList) = true := by assumption
    go_ret
    refine ⟨ret_int ?_, rfl⟩
    have hc := HC.out
    rw [h] at hc
    rw [Pl.ordB, ← less_eq, ← toList_eq, ← toList_eq, if_neg (by rw [h]; decide), if_pos (by rw [hc]; simpa using h2)]
  · have h : Op.bytesLess a.toList b.toList = false := by assumption
    have h2 : (!a.toList == b.toList) = false := by assumption
    go_ret
    refine ⟨ret_int ?_, rfl⟩
    have hc := HC.out
    rw [h] at hc
    rw [Pl.ordB, ← less_eq, ← toList_eq, ← toList_eq, if_neg (by rw [h]; decide), if_neg (by rw [hc]; simpa using h2)]
theorem isPoint_any (c : UInt8) (w : World) : Calls Tryz.prog 50 #[.int .u8 (c.toNat : Int)] w fun e w' => e = .returned (.bool (c == 46)) ∧ w = w' := by
  go_enter Tryz.func50, Tryz.ntmps50
  go_wp2
  go_ret
  refine ⟨ret_bool ?_, rfl⟩
  rw [Bool.eq_iff_iff, beq_iff_eq, beq_iff_eq, ← UInt8.toNat_inj]
  show (c.toNat : Int) = 46 ↔ c.toNat = 46
  omega
theorem idxOf_lt {c : UInt8} {l : Pl.Bytes} {k : Nat} (hk : l[k]? = some c) (hno : ∀ j, j < k → l[j]? ≠ some c) : Pl.idxOf c l = some k := by
  induction l generalizing k with
  | nil => simp at hk
  | cons d r ih =>
    cases k with
    | zero =>
      obtain rfl : d = c := by simpa using hk
      simp [Pl.idxOf]
    | succ k =>
      have hd : d ≠ c := fun e => hno 0 (by omega) (by simp [e])
      rw [Pl.idxOf, if_neg hd, ih (by simpa using hk) (fun j hj => by simpa using hno (j + 1) (by omega))]
      rfl
theorem idxOf_none {c : UInt8} {l : Pl.Bytes} (hno : ∀ j, j < l.length → l[j]? ≠ some c) : Pl.idxOf c l = none := by
  induction l with
  | nil => rfl
  | cons d r ih =>
    have hd : d ≠ c := fun e => hno 0 (by simp) (by simp [e])
    rw [Pl.idxOf, if_neg hd, ih (fun j hj => by simpa using hno (j + 1) (by simp; omega))]
    rfl
def idxI (c : UInt8) (l : Pl.Bytes) : Int := match Pl.idxOf c l with | some k => (k : Int) | none => -1
theorem indexOf_any (s : ByteArray) (c : UInt8) (w : World) (hs : s.size ≤ maxLen) :
    Calls Tryz.prog 96 #[.string s, .int .u8 (c.toNat : Int)] w fun e w' => e = .returned (.int .i64 (idxI c s.data.toList)) ∧ w = w' := by
  unfold maxLen at hs
  go_enter Tryz.func96, Tryz.ntmps96
  go_wp2
  go_loop [5] (fun i => ∃ k : Nat, k ≤ s.size ∧ i = .int .i64 k ∧ ∀ j, j < k → s.data.toList[j]? ≠ some c) (fun i => s.size - (intOf i).toNat)
  case atStart => exact ⟨0, Nat.zero_le _, rfl, fun j hj => by omega⟩
  case round =>
    obtain ⟨k, hk, rfl, ha⟩ := hrel
    have HA := Lib.hid ha
    clear ha
    go_wp2
    · have hlt : k < s.size := by assumption
      have he : ((s[k].toNat : Int) == (c.toNat : Int)) = true := by assumption
      go_ret
      refine ⟨ret_int ?_, rfl⟩
      have hc : s[k] = c := by rw [beq_iff_eq] at he; exact UInt8.toNat_inj.1 (by omega)
      rw [idxI, idxOf_lt (by rw [get_list s k hlt, hc]) HA.out]
    · have hlt : k < s.size := by assumption
      have he : ((s[k].toNat : Int) == (c.toNat : Int)) = false := by assumption
      go_round
      case rel =>
        refine ⟨k + 1, by omega, by go_num, fun j hj => ?_⟩
        by_cases e : j = k
        · subst e
          rw [get_list s j hlt]
          intro h
          obtain rfl : s[j] = c := by simpa using h
          simp at he
        · exact HA.out j (by omega)
      case measure => simp [intOf]; omega
    · have hge : ¬ k < s.size := by omega
      go_ret
      refine ⟨ret_int ?_, rfl⟩
      rw [idxI, idxOf_none (fun j hj => HA.out j (by rw [len_list] at hj; omega))]
theorem stripZ_cons (c : UInt8) (r : Pl.Bytes) : Pl.stripZ (c :: r) = if c = 48 then Pl.stripZ r else c :: r := rfl
theorem list_cons (s : ByteArray) (h : 0 < s.size) : s.data.toList = s[0] :: (s.extract 1 s.size).data.toList := by
  have h1 := get_list s 0 h
  rw [Lib.extract_data]
  rw [← len_list] at h ⊢
  cases hl : s.data.toList with
  | nil => rw [hl] at h; simp at h
  | cons c r =>
    rw [hl] at h1
    simp only [List.getElem?_cons_zero, Option.some.injEq] at h1
    rw [← h1]
    simp
theorem strip_eq (s : ByteArray) (h : 0 < s.size) (h2 : ((s[0].toNat : Int) == 48) = true) : Pl.stripZ (s.extract 1 s.size).data.toList = Pl.stripZ s.data.toList := by
  rw [list_cons s h, stripZ_cons, if_pos]
  rw [beq_iff_eq] at h2
  exact UInt8.toNat_inj.1 (by rw [show (48 : UInt8).toNat = 48 from rfl]; omega)
theorem strip_stop (s : ByteArray) (h : ∀ h : 0 < s.size, ((s[0].toNat : Int) == 48) = false) : Pl.stripZ s.data.toList = s.data.toList := by
  by_cases h0 : 0 < s.size
  · have h2 := h h0
    rw [list_cons s h0, stripZ_cons, if_neg]
    rw [beq_eq_false_iff_ne] at h2
    intro e
    apply h2
    rw [e]
    rfl
  · have : s.data.toList = [] := List.eq_nil_of_length_eq_zero (by rw [len_list]; omega)
    rw [this]; rfl
def strLen : Value → Nat | .string s => s.size | _ => 0
theorem ext_size1 (s : ByteArray) (h : 0 < s.size) : (s.extract 1 s.size).size + 1 = s.size := by
  rw [← len_list, ← len_list, list_cons s h]
  simp
set_option maxHeartbeats 400000 in
theorem orderNumbers_any (a b : ByteArray) (w : World) (_ha : a.size ≤ maxLen) (_hb : b.size ≤ maxLen) :
    Calls Tryz.prog 72 #[.string a, .string b] w fun e w' => e = .returned (.int .i64 (Pl.ordNum a.data.toList b.data.toList)) ∧ w = w' := by
  unfold maxLen at _ha _hb
  go_enter Tryz.func72, Tryz.ntmps72
  go_wp2
  go_loop [0] (fun v => ∃ s : ByteArray, v = .string s ∧ s.size ≤ a.size ∧ Pl.stripZ s.data.toList = Pl.stripZ a.data.toList) (fun v => strLen v)
  case atStart => exact ⟨a, rfl, Nat.le_refl _, rfl⟩
  case round =>
    obtain ⟨s, rfl, hsz, hs⟩ := hrel
    have HS := Lib.hid hs
    clear hs
    have hstop := strip_stop s
    have HST := Lib.hid hstop
    clear hstop
    go_wp2
    · have h0 : 0 < s.size := by assumption
      have h1 : ((s[0].toNat : Int) == 48) = true := by assumption
      have hz := ext_size1 s h0
      go_round
      case rel => exact ⟨_, rfl, by omega, (strip_eq s h0 h1).trans HS.out⟩
      case measure => simp only [strLen]; omega
    all_goals
      have HF : Hid (s.data.toList = Pl.stripZ a.data.toList) := Lib.hid (by rw [← HS.out]; exact (HST.out (fun _ => by first | assumption | omega)).symm)
      clear HS HST
      go_loop [1] (fun v => ∃ t : ByteArray, v = .string t ∧ t.size ≤ b.size ∧ Pl.stripZ t.data.toList = Pl.stripZ b.data.toList) (fun v => strLen v)
      case atStart => exact ⟨b, rfl, Nat.le_refl _, rfl⟩
      case round =>
        obtain ⟨t, rfl, htz, ht⟩ := hrel
        have HT := Lib.hid ht
        clear ht
        have hstop := strip_stop t
        have HST := Lib.hid hstop
        clear hstop
        go_wp2_with (first | (go_at_call 73; refine (orderInts_any _ _ _).mono ?_; rintro e w' ⟨rfl, rfl⟩) | (go_at_call 62; refine (order_any _ _ _).mono ?_; rintro e w' ⟨rfl, rfl⟩))
        · have h0 : 0 < t.size := by assumption
          have h1 : ((t[0].toNat : Int) == 48) = true := by assumption
          have hz := ext_size1 t h0
          go_round
          case rel => exact ⟨_, rfl, by omega, (strip_eq t h0 h1).trans HT.out⟩
          case measure => simp only [strLen]; omega
        all_goals
          have HG : Hid (t.data.toList = Pl.stripZ b.data.toList) := Lib.hid (by rw [← HT.out]; exact (HST.out (fun _ => by first | assumption | omega)).symm)
          go_ret
          refine ⟨ret_int ?_, rfl⟩
          rw [Pl.ordNum, ← HF.out, ← HG.out, len_list, len_list]
          first
            | (have hq : ((s.size : Int) != (t.size : Int)) = true := by assumption
               rw [if_neg (by rw [bne_iff_ne] at hq; omega)])
            | (have hq : ((s.size : Int) != (t.size : Int)) = false := by assumption
               rw [if_pos (by simp at hq; omega)])
theorem pageOne_any (a b : ByteArray) (w : World) (ha : a.size ≤ maxLen) (hb : b.size ≤ maxLen) :
    Calls Tryz.prog 74 #[.string a, .string b] w fun e w' => e = .returned (.int .i64 (Pl.idOne a.data.toList b.data.toList)) ∧ w = w' := by
  go_enter Tryz.func74, Tryz.ntmps74
  go_wp2_with (first | (go_at_call 100; refine (allDigits_any _ _ (by assumption)).mono ?_; rintro e w' ⟨rfl, rfl⟩) | (go_at_call 62; refine (order_any _ _ _).mono ?_; rintro e w' ⟨rfl, rfl⟩) | (go_at_call 72; refine (orderNumbers_any _ _ _ ha hb).mono ?_; rintro e w' ⟨rfl, rfl⟩))
  all_goals
    go_ret
    refine ⟨ret_int ?_, rfl⟩
    simp [Pl.idOne, *]
theorem info305 : ((Tryz.prog.info? 305).map (·.comparable)) = some true := by kernel_rfl
theorem und51 : ∃ ms, Tryz.prog.underlying 51 = some (.interface ms) := ⟨_, Tryz.underlying51⟩
theorem und305 : Tryz.prog.underlying 305 = some (.pointer 320) := Tryz.underlying305
theorem info320 : (Tryz.prog.info? 320).isSome = true := by kernel_rfl
theorem err_eq_same (p : Addr) (w : World) : (binOp .eql 51 (.iface 305 (.pointer (some p))) (.iface 305 (.pointer (some p)))).run Tryz.prog w = .ok (.bool true) w := by
  obtain ⟨ms, h1⟩ := und51
  obtain ⟨i, hi, hc⟩ := Option.map_eq_some_iff.1 info305
  obtain ⟨j, hj⟩ := Option.isSome_iff_exists.1 info320
  exact run_eql_iface_ptr_same w p h1 und305 hi hc hj
theorem err_eq_nil (p : Addr) (w : World) : (binOp .eql 51 .nilIface (.iface 305 (.pointer (some p)))).run Tryz.prog w = .ok (.bool false) w := by
  obtain ⟨ms, h1⟩ := und51
  exact run_eql_iface_nil_left w 305 _ h1
theorem err_ne_same (p : Addr) (w : World) : (binOp .neq 51 (.iface 305 (.pointer (some p))) (.iface 305 (.pointer (some p)))).run Tryz.prog w = .ok (.bool false) w := by
  obtain ⟨ms, h1⟩ := und51
  obtain ⟨i, hi, hc⟩ := Option.map_eq_some_iff.1 info305
  obtain ⟨j, hj⟩ := Option.isSome_iff_exists.1 info320
  simp only [binOp]
  simp [Op.equal, Op.maxDepth, run_equalIn_iface_ptr_same w 9998 p h1 und305 hi hc hj]
theorem err_ne_nil (p : Addr) (w : World) : (binOp .neq 51 .nilIface (.iface 305 (.pointer (some p)))).run Tryz.prog w = .ok (.bool true) w := by
  obtain ⟨ms, h1⟩ := und51
  have h : ∀ d : Nat, (Op.equalIn (d + 1) 51 .nilIface (.iface 305 (.pointer (some p)))).run Tryz.prog w = .ok false w := fun d => by simp [Op.equalIn, run_underlying h1]
  simp only [binOp]
  simp [Op.equal, Op.maxDepth, h 9999]
end Go.Proofs.YtgfkdjmoflbmdaaGreatDoor
namespace Go.Proofs.YtgfkdjmoflbmdaaGreatDoor.Pl
theorem cmpN_cases (a b : Nat) : cmpN a b = -1 ∧ a < b ∨ cmpN a b = 0 ∧ a = b ∨ cmpN a b = 1 ∧ b < a := by
  unfold cmpN
  by_cases h : a < b
  · simp [h]
  · by_cases h2 : b < a
    · simp [h, h2]
    · simp [h, h2]; omega
theorem less_val : ∀ (a b : List Nat), a.length = b.length → (∀ d ∈ a, d < 256) → (∀ d ∈ b, d < 256) →
    (less (a.map UInt8.ofNat) (b.map UInt8.ofNat) = true ↔ val 256 a.reverse < val 256 b.reverse)
  | [], [], _, _, _ => by simp [less, val]
  | x :: a, y :: b, hl, ha, hb => by
    have hl' : a.length = b.length := by simpa using hl
    have ih := less_val a b hl' (fun d hd => ha d (by simp [hd])) (fun d hd => hb d (by simp [hd]))
    have hx : x < 256 := ha x (by simp)
    have hy : y < 256 := hb y (by simp)
    have ex : (UInt8.ofNat x).toNat = x := Nat.mod_eq_of_lt hx
    have ey : (UInt8.ofNat y).toNat = y := Nat.mod_eq_of_lt hy
    have h1 : UInt8.ofNat x < UInt8.ofNat y ↔ x < y := by rw [UInt8.lt_iff_toNat_lt, ex, ey]
    have h2 : UInt8.ofNat x = UInt8.ofNat y ↔ x = y := by rw [← UInt8.toNat_inj, ex, ey]
    have va : val 256 a.reverse < 256 ^ a.length := by
      have := val_lt 256 a.reverse (fun d hd => ha d (by simp at hd; simp [hd]))
      simpa using this
    have vb : val 256 b.reverse < 256 ^ a.length := by
      have := val_lt 256 b.reverse (fun d hd => hb d (by simp at hd; simp [hd]))
      rw [hl']; simpa using this
    simp only [List.map_cons, less, List.reverse_cons, val_append, List.length_reverse, val, Nat.mul_zero, Nat.add_zero, ← hl']
    generalize hP : 256 ^ a.length = P at va vb ⊢
    rcases Nat.lt_trichotomy x y with h | h | h
    · have : P * (x + 1) ≤ P * y := Nat.mul_le_mul_left _ h
      rw [Nat.mul_add, Nat.mul_one] at this
      simp [h1, h]
      omega
    · subst h
      simp [ih]
    · have hn : ¬ x < y := by omega
      have hn2 : ¬ x = y := by omega
      have : P * (y + 1) ≤ P * x := Nat.mul_le_mul_left _ h
      rw [Nat.mul_add, Nat.mul_one] at this
      simp [h1, h2, hn, hn2]
      omega
  | [], _ :: _, hl, _, _ => by simp at hl
  | _ :: _, [], hl, _, _ => by simp at hl
theorem val_lt_of_len {a b : Nat} (h : (digs 256 a).length < (digs 256 b).length) : a < b := by
  have h1 := val_lt 256 (digs 256 a) (digs_lt 256 a (by omega))
  have h2 := val_ge 256 (digs 256 b) (digs_norm 256 b (by omega)) (by intro e; rw [e] at h; simp at h)
  rw [val_digs 256 _ (by omega)] at h1 h2
  have := Nat.pow_le_pow_right (show 0 < 256 by omega) (show (digs 256 a).length ≤ (digs 256 b).length - 1 by omega)
  omega
theorem magOf_length (n : Nat) : (magOf n).length = (digs 256 n).length := by simp [magOf]
theorem ordMag_mag (a b : Nat) : ordMag (magOf a) (magOf b) = cmpN a b := by
  unfold ordMag
  rw [magOf_length, magOf_length]
  by_cases h : (digs 256 a).length = (digs 256 b).length
  · rw [if_pos h]
    have ha := digs_lt 256 a (by omega)
    have hb := digs_lt 256 b (by omega)
    have l1 := less_val (digs 256 a).reverse (digs 256 b).reverse (by simpa using h) (fun d hd => ha d (by simpa using hd)) (fun d hd => hb d (by simpa using hd))
    have l2 := less_val (digs 256 b).reverse (digs 256 a).reverse (by simpa using h.symm) (fun d hd => hb d (by simpa using hd)) (fun d hd => ha d (by simpa using hd))
    rw [List.reverse_reverse, List.reverse_reverse, val_digs 256 _ (by omega), val_digs 256 _ (by omega)] at l1 l2
    unfold ordB cmpN magOf
    simp only [l1, l2]
  · rw [if_neg h]
    unfold ordI cmpN
    rcases Nat.lt_or_gt_of_ne h with h2 | h2
    · have := val_lt_of_len h2
      rw [if_pos (by omega), if_pos this]
    · have := val_lt_of_len h2
      rw [if_neg (by omega), if_pos (by omega), if_neg (by omega), if_pos this]
def cmpNums : List Nat → List Nat → Int
  | [], [] => 0
  | x :: a, [] => if cmpN x 0 ≠ 0 then cmpN x 0 else cmpNums a []
  | [], y :: b => if cmpN 0 y ≠ 0 then cmpN 0 y else cmpNums [] b
  | x :: a, y :: b => if cmpN x y ≠ 0 then cmpN x y else cmpNums a b
theorem cmpNums_step (a b : List Nat) (k : Nat) (h : k < a.length ∨ k < b.length) :
    cmpNums (a.drop k) (b.drop k) = if cmpN (a.getD k 0) (b.getD k 0) ≠ 0 then cmpN (a.getD k 0) (b.getD k 0) else cmpNums (a.drop (k + 1)) (b.drop (k + 1)) := by
  by_cases ha : k < a.length
  · by_cases hb : k < b.length
    · rw [List.drop_eq_getElem_cons ha, List.drop_eq_getElem_cons hb, cmpNums]
      simp [List.getD_eq_getElem?_getD, List.getElem?_eq_getElem ha, List.getElem?_eq_getElem hb]
    · rw [List.drop_eq_getElem_cons ha, List.drop_eq_nil_of_le (by omega : b.length ≤ k), List.drop_eq_nil_of_le (by omega : b.length ≤ k + 1), cmpNums]
      simp [List.getD_eq_getElem?_getD, List.getElem?_eq_getElem ha, List.getElem?_eq_none (by omega : b.length ≤ k)]
  · have hb : k < b.length := by omega
    rw [List.drop_eq_getElem_cons hb, List.drop_eq_nil_of_le (by omega : a.length ≤ k), List.drop_eq_nil_of_le (by omega : a.length ≤ k + 1), cmpNums]
    simp [List.getD_eq_getElem?_getD, List.getElem?_eq_getElem hb, List.getElem?_eq_none (by omega : a.length ≤ k)]
theorem cmpNums_end (a b : List Nat) (k : Nat) (ha : a.length ≤ k) (hb : b.length ≤ k) : cmpNums (a.drop k) (b.drop k) = 0 := by
  rw [List.drop_eq_nil_of_le ha, List.drop_eq_nil_of_le hb]; simp [cmpNums]
theorem magOf_zero : magOf 0 = [] := by simp [magOf, digs_zero]
def mulV (b : Nat) : List Nat → Nat → Nat → List Nat × Nat
  | [], _, c => ([], c)
  | x :: r, y, c => ((x * y + c) % b :: (mulV b r y ((x * y + c) / b)).1, (mulV b r y ((x * y + c) / b)).2)
theorem mulV_nil (b y c : Nat) : mulV b [] y c = ([], c) := rfl
theorem mulV_cons (b x : Nat) (r : List Nat) (y c : Nat) : mulV b (x :: r) y c = ((x * y + c) % b :: (mulV b r y ((x * y + c) / b)).1, (mulV b r y ((x * y + c) / b)).2) := rfl
theorem mulV_len (b : Nat) : ∀ (l : List Nat) (y c : Nat), (mulV b l y c).1.length = l.length
  | [], _, _ => rfl
  | x :: r, y, c => by rw [mulV_cons]; simp [mulV_len b r]
theorem mulV_lt (b : Nat) (hb : 0 < b) : ∀ (l : List Nat) (y c : Nat), ∀ d ∈ (mulV b l y c).1, d < b
  | [], _, _, d, h => by simp [mulV] at h
  | x :: r, y, c, d, h => by
    rw [mulV_cons] at h
    rcases List.mem_cons.1 h with rfl | h
    · exact Nat.mod_lt _ hb
    · exact mulV_lt b hb r y _ d h
theorem carry_lt {b x y c : Nat} (hx : x < b) (hy : y < b) (hc : c < b) : (x * y + c) / b < b := by
  rw [Nat.div_lt_iff_lt_mul (by omega)]
  have h1 : x * y ≤ (b - 1) * (b - 1) := Nat.mul_le_mul (by omega) (by omega)
  have h2 : (b - 1) * (b - 1) + (b - 1) = (b - 1) * b := by
    obtain ⟨k, rfl⟩ : ∃ k, b = k + 1 := ⟨b - 1, by omega⟩
    simp only [Nat.add_sub_cancel]
    rw [Nat.mul_add, Nat.mul_one]
  have h3 : (b - 1) * b + b = b * b := by
    obtain ⟨k, rfl⟩ : ∃ k, b = k + 1 := ⟨b - 1, by omega⟩
    simp only [Nat.add_sub_cancel]
    rw [Nat.add_mul, Nat.one_mul]
  omega
theorem mulV_carry (b : Nat) : ∀ (l : List Nat) (y c : Nat), (∀ d ∈ l, d < b) → y < b → c < b → (mulV b l y c).2 < b
  | [], _, _, _, _, hc => hc
  | x :: r, y, c, hl, hy, hc => by
    rw [mulV_cons]
    exact mulV_carry b r y _ (fun d hd => hl d (List.mem_cons_of_mem _ hd)) hy (carry_lt (hl x (by simp)) hy hc)
theorem mulV_val (b : Nat) (hb : 0 < b) : ∀ (l : List Nat) (y c : Nat), val b (mulV b l y c).1 + b ^ l.length * (mulV b l y c).2 = val b l * y + c
  | [], y, c => by simp [mulV, val]
  | x :: r, y, c => by
    have ih := mulV_val b hb r y ((x * y + c) / b)
    rw [mulV_cons]
    simp only [val, List.length_cons, Nat.pow_succ]
    have e1 : (x * y + c) % b + b * ((x * y + c) / b) = x * y + c := Nat.mod_add_div _ _
    have e2 : b ^ r.length * b * (mulV b r y ((x * y + c) / b)).2 = b * (b ^ r.length * (mulV b r y ((x * y + c) / b)).2) := by
      rw [Nat.mul_comm (b ^ r.length) b, Nat.mul_assoc]
    rw [e2]
    have e3 : b * val b (mulV b r y ((x * y + c) / b)).1 + b * (b ^ r.length * (mulV b r y ((x * y + c) / b)).2) = b * (val b r * y) + b * ((x * y + c) / b) := by
      rw [← Nat.mul_add, ih, Nat.mul_add]
    have e4 : (x + b * val b r) * y = x * y + b * (val b r * y) := by rw [Nat.add_mul, Nat.mul_assoc]
    rw [e4]
    omega
theorem take_zeros (b : Nat) : ∀ (l : List Nat) (i : Nat), i ≤ l.length → (∀ d ∈ l.drop i, d = 0) → val b (l.take i) = val b l
  | [], i, _, _ => by simp
  | x :: r, 0, _, h => by
    have h0 : ∀ (m : List Nat), (∀ d ∈ m, d = 0) → val b m = 0 := by
      intro m
      induction m with
      | nil => intro _; rfl
      | cons a m ih => intro hm; simp [val, hm a (by simp), ih (fun d hd => hm d (List.mem_cons_of_mem _ hd))]
    rw [List.drop_zero] at h
    rw [h0 (x :: r) h]; rfl
  | x :: r, i + 1, hi, h => by
    have ih := take_zeros b r i (by simpa using hi) (by simpa using h)
    simp [val, ih]
theorem norm_digs (b : Nat) (hb : 2 ≤ b) (l : List Nat) (hl : ∀ d ∈ l, d < b) (i : Nat) (hi : i ≤ l.length) (hz : ∀ d ∈ l.drop i, d = 0) (ht : i = 0 ∨ l[i - 1]? ≠ some 0) : l.take i = digs b (val b l) := by
  have hn : Normd (l.take i) := by
    unfold Normd
    rcases Nat.eq_zero_or_pos i with rfl | h0
    · simp
    · rw [List.getLast?_eq_getElem?, List.length_take, Nat.min_eq_left hi, List.getElem?_take, if_pos (by omega)]
      exact ht.resolve_left (by omega)
  rw [← take_zeros b l i hi hz]
  exact (digs_val b hb _ (fun d hd => hl d (List.mem_of_mem_take hd)) hn).symm
theorem mulAdd_val (b : Nat) (hb : 0 < b) (l : List Nat) (y c : Nat) : val b ((mulV b l y c).1 ++ [(mulV b l y c).2]) = val b l * y + c := by
  rw [val_append, mulV_len, ← mulV_val b hb l y c]
  simp [val]
end Go.Proofs.YtgfkdjmoflbmdaaGreatDoor.Pl
