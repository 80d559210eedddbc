/- Contracts; Contracts; PLAIN; PLAIN. -/
import Derived.Test.YtgfkdjmoflbmdaaGreatDoorRPl8xPlQ
namespace Go.Proofs.YtgfkdjmoflbmdaaGreatDoor
open Go.RowKit
open Go.Proofs
theorem w_nat (k : IntKind) {a b : Int} (h : a = b) : Value.int k a = Value.int k b := by rw [h]
theorem ten_le {k : Nat} (h : k ≤ 18) : 10 ^ k ≤ 1000000000000000000 := Nat.le_trans (Nat.pow_le_pow_right (by omega) h) (by decide)
theorem ten_19 : (10 : Nat) ^ 19 = 10000000000000000000 := by decide
set_option maxRecDepth 100000 in
theorem maxPow_ten (w : World) : Calls Tryz.prog 172 #[.int .u64 10] w fun e w' => e = .returned (.tuple #[.int .u64 10000000000000000000, .int .i64 19]) ∧ w = w' := by
  go_enter Tryz.func172, Tryz.ntmps172
  go_wp2
  go_loop [2, 3] (fun pv nv => ∃ k p : Nat, 1 ≤ k ∧ k ≤ 19 ∧ nv = .int .i64 (k : Int) ∧ pv = .int .u64 (p : Int) ∧ p = 10 ^ k) (fun _ nv => 20 - (intOf nv).toNat)
  case atStart => exact ⟨1, 10, Nat.le_refl _, by omega, rfl, rfl, rfl⟩
  case round =>
    obtain ⟨k, p, h1, h19, rfl, rfl, hp⟩ := hrel
    have HP := Lib.hid hp
    clear hp
    by_cases hk : k ≤ 18
    · have hle : p ≤ 1000000000000000000 := by rw [HP.out]; exact ten_le hk
      have hlz : (p : Int) ≤ 1844674407370955161 := by omega
      go_wp2
      go_round
      case rel => exact ⟨k + 1, p * 10, by omega, by omega, by go_num, w_nat _ (by first | rfl | (rw [IntKind.wrap_u64]; omega) | omega), by rw [HP.out, Nat.pow_succ]⟩
      case measure => simp [intOf]; omega
    · obtain rfl : k = 19 := by omega
      have hpe : p = 10000000000000000000 := by rw [HP.out, ten_19]
      subst hpe
      go_wp2
      refine bodyPost_ret (v := .tuple #[.int .u64 10000000000000000000, .int .i64 19]) (by simp [results, Tryz.results172, go_sem]) rfl ⟨rfl, rfl⟩
theorem and_one : ∀ X : Fin 20, bits .and .i64 ((X.val : Nat) : Int) 1 = ((X.val % 2 : Nat) : Int) := by decide
theorem pow_odd (p x m : Nat) (h : m % 2 = 1) : (p * x % M * (x * x % M) ^ (m / 2)) % M = (p * x ^ m) % M := by
  have e : x ^ m = x * (x * x) ^ (m / 2) := by
    have hm : m = 2 * (m / 2) + 1 := by omega
    calc x ^ m = x ^ (2 * (m / 2) + 1) := by rw [← hm]
      _ = x * (x * x) ^ (m / 2) := by rw [Nat.pow_succ, Nat.pow_mul, Nat.mul_comm, Nat.pow_two]
  rw [e, Nat.mul_mod, Nat.mod_mod, Nat.pow_mod, Nat.mod_mod, ← Nat.pow_mod, ← Nat.mul_mod, Nat.mul_assoc]
theorem pow_even (p x m : Nat) (h : m % 2 = 0) : (p * (x * x % M) ^ (m / 2)) % M = (p * x ^ m) % M := by
  have e : x ^ m = (x * x) ^ (m / 2) := by
    have hm : m = 2 * (m / 2) := by omega
    calc x ^ m = x ^ (2 * (m / 2)) := by rw [← hm]
      _ = (x * x) ^ (m / 2) := by rw [Nat.pow_mul, Nat.pow_two]
  rw [e, Nat.mul_mod, Nat.pow_mod, Nat.mod_mod, ← Nat.pow_mod, ← Nat.mul_mod]
theorem wrap_mul (a b : Nat) : IntKind.u64.wrap ((a : Int) * (b : Int)) = ((a * b % M : Nat) : Int) := by
  rw [IntKind.wrap_u64, ← Int.natCast_mul, M_eq]; omega
set_option maxRecDepth 100000 in
theorem pow_ten (n : Nat) (hn : n ≤ 18) (w : World) : Calls Tryz.prog 174 #[.int .u64 10, .int .i64 n] w fun e w' => e = .returned (.int .u64 ((10 ^ n : Nat) : Int)) ∧ w = w' := by
  obtain ⟨R, hR⟩ : ∃ R, 10 ^ n = R := ⟨_, rfl⟩
  rw [hR]
  have HR := Lib.hid hR
  clear hR
  go_enter Tryz.func174, Tryz.ntmps174
  go_wp2
  go_loop [0, 1, 4] (fun xv mv pv => ∃ x m p : Nat, m ≤ 18 ∧ p < M ∧ xv = .int .u64 (x : Int) ∧ mv = .int .i64 (m : Int) ∧ pv = .int .u64 (p : Int) ∧ (p * x ^ m) % M = R % M) (fun _ mv _ => (intOf mv).toNat)
  case atStart => exact ⟨10, n, 1, hn, by rw [M_eq]; omega, rfl, rfl, rfl, by rw [Nat.one_mul, HR.out]⟩
  case round =>
    obtain ⟨x, m, p, hm, hpM, rfl, rfl, rfl, he⟩ := hrel
    have HE := Lib.hid he
    clear he
    by_cases h0 : 0 < m
    · have hand : bits .and .i64 (m : Int) 1 = ((m % 2 : Nat) : Int) := and_one ⟨m, by omega⟩
      by_cases hodd : m % 2 = 1
      · have hand1 : bits .and .i64 (m : Int) 1 = 1 := by rw [hand, hodd]; rfl
        clear hand
        go_wp2
        go_round
        case rel => exact ⟨x * x % M, m / 2, p * x % M, by omega, Nat.mod_lt _ (by rw [M_eq]; omega), by first | rfl | exact w_nat _ (wrap_mul _ _), by go_num, by first | rfl | exact w_nat _ (wrap_mul _ _), by rw [pow_odd p x m hodd]; exact HE.out⟩
        case measure => simp [intOf]; omega
      · have hev : m % 2 = 0 := by omega
        have hand1 : bits .and .i64 (m : Int) 1 = 0 := by rw [hand, hev]; rfl
        clear hand
        go_wp2
        go_round
        case rel => exact ⟨x * x % M, m / 2, p, by omega, hpM, by first | rfl | exact w_nat _ (wrap_mul _ _), by go_num, rfl, by rw [pow_even p x m hev]; exact HE.out⟩
        case measure => simp [intOf]; omega
    · obtain rfl : m = 0 := by omega
      go_wp2
      go_ret
      refine ⟨ret_int ?_, rfl⟩
      have h1 := HE.out
      rw [Nat.pow_zero, Nat.mul_one, Nat.mod_eq_of_lt hpM, Nat.mod_eq_of_lt (by rw [← HR.out, M_eq]; have := ten_le hn; omega)] at h1
      rw [h1]
def one (c : UInt8) : ByteArray := ⟨#[c]⟩
theorem ext_one {s : ByteArray} {k : Nat} (h : k < s.size) : s.extract k (k + 1) = one s[k] := by
  have h1 : (s.extract k (k + 1)).data.toList = [s[k]] := by
    rw [Lib.extract_data, List.drop_eq_getElem_cons (by rw [len_list]; exact h)]
    have := get_list s k h
    rw [List.getElem?_eq_getElem (by rw [len_list]; exact h)] at this
    simp only [Option.some.injEq] at this
    rw [this]
    simp
  have h2 : (s.extract k (k + 1)).data = #[s[k]] := by
    apply Array.toList_inj.1
    simpa using h1
  cases hx : s.extract k (k + 1) with
  | mk d => rw [hx] at h2; simp at h2; rw [h2]; rfl
theorem zzIndex_any (s : ByteArray) (c : UInt8) (w : World) (hs : s.size ≤ 100000) :
    Calls Tryz.prog 134 #[.string s, .string (one c)] w fun e w' => e = .returned (.int .i64 (idxI c s.data.toList)) ∧ w = w' := by
  have h1s : (one c).size = 1 := rfl
  obtain ⟨sub, hsub⟩ : ∃ sub, one c = sub := ⟨_, rfl⟩
  rw [hsub] at h1s ⊢
  have HSUB := Lib.hid hsub
  clear hsub
  go_enter Tryz.func134, Tryz.ntmps134
  go_wp2
  go_loop [5] (fun i => ∃ k : Nat, k ≤ s.size ∧ i = .int .i64 k ∧ ∀ j, j < k → s.data.toList[j]? ≠ some c) (fun i => s.size - (intOf i).toNat)
  case atStart => exact ⟨0, Nat.zero_le _, rfl, fun j hj => by omega⟩
  case round =>
    obtain ⟨k, hk, rfl, ha⟩ := hrel
    have HA := Lib.hid ha
    clear ha
    by_cases hlt : k < s.size
    · by_cases he : s[k] = c
      · have hx : s.extract k (k + 1) = sub := by rw [ext_one hlt, he, HSUB.out]
        go_wp2
        go_ret
        refine ⟨ret_int ?_, rfl⟩
        rw [idxI, idxOf_lt (by rw [get_list s k hlt, he]) HA.out]
      · obtain ⟨sub2, hx⟩ : ∃ sub2, s.extract k (k + 1) = sub2 := ⟨_, rfl⟩
        have hne : (sub2.toList == sub.toList) = false := by
          rw [beq_eq_false_iff_ne]
          intro e
          apply he
          rw [← hx, ext_one hlt, ← HSUB.out, toList_eq, toList_eq] at e
          simpa [one] using e
        go_wp2
        go_round
        case rel =>
          refine ⟨k + 1, by omega, by go_num, fun j hj => ?_⟩
          by_cases e : j = k
          · subst e
            rw [get_list s j hlt]
            intro h
            exact he (by simpa using h)
          · exact HA.out j (by omega)
        case measure => simp [intOf]; omega
    · go_wp2
      go_ret
      refine ⟨ret_int ?_, rfl⟩
      rw [idxI, idxOf_none (fun j hj => HA.out j (by rw [len_list] at hj; omega))]
def szV : Value → Nat
  | .string t => t.size
  | _ => 0
theorem szV_s (t : ByteArray) : szV (.string t) = t.size := rfl
set_option maxRecDepth 100000 in
theorem zzSplit_any (s : ByteArray) (c : UInt8) (w : World) (hs : s.size ≤ 30000) :
    Calls Tryz.prog 125 #[.string s, .string (one c)] w fun e w' => ∃ A cp, e = .returned (.slice A (Pl.splitB c s.data.toList).length cp) ∧ w'.ownsRow w.heap.size 9 1 (.slice A (Pl.splitB c s.data.toList).length cp) (Pl.splitB c s.data.toList).length ((Pl.splitB c s.data.toList).map S) ∧ Below w.heap.size w w' := by
  obtain ⟨i0, hi, hz0, hz1, hz2⟩ := info_parts info9
  have hcnt := Pl.splitB_length c s.data.toList
  rw [len_list] at hcnt
  obtain ⟨R, hR⟩ : ∃ R, Pl.splitB c s.data.toList = R := ⟨_, rfl⟩
  rw [hR] at hcnt ⊢
  have HR := Lib.hid hR
  clear hR
  have HI := Lib.hid (fun (t : ByteArray) (W : World) (h : t.size ≤ 100000) => zzIndex_any t c W h)
  have h1s : (one c).size = 1 := rfl
  obtain ⟨sub, hsub⟩ : ∃ sub, one c = sub := ⟨_, rfl⟩
  rw [hsub] at h1s HI ⊢
  clear hsub
  go_enter Tryz.func125, Tryz.ntmps125
  go_wp2
  go_loopw [0, 5] (fun tv v wr => ∃ (t : ByteArray) (ps : List Pl.Bytes), tv = .string t ∧ t.size ≤ s.size ∧ ps ++ Pl.splitB c t.data.toList = R ∧ wr.ownsRow w.heap.size 9 1 v ps.length (ps.map S) ∧ Below w.heap.size w wr) (fun tv _ _ => szV tv)
  case atStart => exact ⟨s, [], rfl, Nat.le_refl _, by simpa using HR.out, World.ownsRow_nil _ _ _ _, Below.refl _ _⟩
  case round =>
    obtain ⟨t, ps, rfl, hts, hsp, hown, hbel⟩ := hrel
    have hpl : ps.length ≤ 40000 := by
      have := congrArg List.length hsp
      rw [List.length_append] at this; omega
    have HSP := Lib.hid hsp
    clear hsp
    cases hk : Pl.idxOf c t.data.toList with
    | none =>
      have hi1 : idxI c t.data.toList = -1 := by rw [idxI, hk]
      have hspl : Pl.splitB c t.data.toList = [t.data.toList] := by
        exact Pl.splitB_none c _ (Pl.idxOf_no hk)
      have HS := Lib.hid hspl
      have HI1 := Lib.hid hi1
      clear hspl hi1
      go_wp2_with (first | (go_at_call 134; refine (HI.out t _ (by omega)).mono ?_; rintro e w' ⟨rfl, rfl⟩; rw [HI1.out]) | (at_builtin; refine wpList_app1 _ rfl (.tmp 42) (.tmp 44) 38 rfl w.heap.size 9 i0 _ 16 Tryz.underlying38 hi hz0 hz1 hz2 rfl _ _ _ rfl hown _ rfl rfl (by omega) (by omega) hbel.size ?_; intro g cap w1 hown1 hg1 hat1 hb1; clear hg1 hat1))
      go_ret
      have e : R = ps ++ [t.data.toList] := by rw [← HSP.out, HS.out]
      subst e
      have hl : (ps ++ [t.data.toList]).length = ps.length + 1 := by simp
      rw [hl]
      exact ⟨some ⟨g, 0, none⟩, cap, rfl, own_cast hown1 rfl (by simp), hbel.trans hb1⟩
    | some k =>
      obtain ⟨hk1, hk2, hk3⟩ := Pl.idxOf_some hk
      rw [len_list] at hk1
      have hi1 : idxI c t.data.toList = (k : Int) := by rw [idxI, hk]
      have hspl := Pl.splitB_hit c k t.data.toList hk2 hk3
      have HS := Lib.hid hspl
      have HI1 := Lib.hid hi1
      clear hspl hi1 hk hk2 hk3
      go_wp2_with (first | (go_at_call 134; refine (HI.out t _ (by omega)).mono ?_; rintro e w' ⟨rfl, rfl⟩; rw [HI1.out]) | (at_builtin; refine wpList_app1 _ rfl (.tmp 46) (.tmp 50) 38 rfl w.heap.size 9 i0 _ 16 Tryz.underlying38 hi hz0 hz1 hz2 rfl _ _ _ rfl hown _ rfl rfl (by omega) (by omega) hbel.size ?_; intro g cap w1 hown1 hg1 hat1 hb1; clear hg1 hat1))
      go_roundw
      case rel =>
        refine ⟨t.extract (k + 1) t.size, ps ++ [t.data.toList.take k], rfl, by rw [ByteArray.size_extract]; omega, ?_, own_cast hown1 (by simp) (by rw [ext_S]; simp), hbel.trans hb1⟩
        have e : (t.extract (k + 1) t.size).data.toList = t.data.toList.drop (k + 1) := by rw [Lib.extract_data, List.take_of_length_le (by rw [List.length_drop, len_list]; exact Nat.le_refl _)]
        rw [← HSP.out, HS.out, List.append_assoc, e]
        rfl
      case measure => simp only [szV_s, ByteArray.size_extract]; omega
end Go.Proofs.YtgfkdjmoflbmdaaGreatDoor
namespace Go.Proofs.YtgfkdjmoflbmdaaGreatDoor.Pl
def Read (t : Bytes) (k : Nat) (ns : List Nat) (cur : Bytes) (fb : Bool) : Prop :=
  (fb = false ∧ (t.take k).all coreB = true ∧ ∃ ps, splitB 46 (t.take k) = ps ++ [cur] ∧ ns = numsIn ps) ∨
  (fb = true ∧ ∃ m, m < k ∧ (t.take m).all coreB = true ∧ (∃ c, t[m]? = some c ∧ coreB c = false) ∧ ns = numsIn (splitB 46 (t.take m)) ∧ cur = (t.drop m).take (k - m))
theorem take_at {t : Bytes} {k : Nat} {c : UInt8} (h : t[k]? = some c) : t.take (k + 1) = t.take k ++ [c] := by
  obtain ⟨hk, he⟩ := List.getElem?_eq_some_iff.1 h
  rw [List.take_succ_eq_append_getElem hk, he]
theorem Read.start (t : Bytes) : Read t 0 [] [] false := Or.inl ⟨rfl, by simp, [], by simp [splitB], rfl⟩
theorem Read.more {t : Bytes} {k : Nat} {ns : List Nat} {cur : Bytes} {c : UInt8} (h : Read t k ns cur true) (hc : t[k]? = some c) : Read t (k + 1) ns (cur ++ [c]) true := by
  rcases h with ⟨h, _⟩ | ⟨_, m, h1, h2, h3, h4, h5⟩
  · cases h
  · refine Or.inr ⟨rfl, m, by omega, h2, h3, h4, ?_⟩
    have hd : (t.drop m)[k - m]? = some c := by rw [List.getElem?_drop, show m + (k - m) = k from by omega]; exact hc
    rw [show k + 1 - m = (k - m) + 1 from by omega, take_at hd, ← h5]
theorem Read.digs {t : Bytes} {k : Nat} {ns : List Nat} {cur : Bytes} (h : Read t k ns cur false) : cur.all isDig = true ∧ cur.length ≤ k := by
  rcases h with ⟨_, h1, ps, h2, _⟩ | ⟨h, _⟩
  · have hm : cur ∈ splitB 46 (t.take k) := by rw [h2]; simp
    obtain ⟨h3, h4⟩ := splitB_mem 46 _ cur hm
    refine ⟨List.all_eq_true.2 fun x hx => ?_, Nat.le_trans h3 (by rw [List.length_take]; omega)⟩
    have h5 := List.all_eq_true.1 h1 x (h4 x hx)
    have h6 := splitB_no 46 _ cur hm x hx
    unfold coreB at h5
    rw [Bool.or_eq_true, beq_iff_eq] at h5
    exact h5.resolve_right h6
  · cases h
theorem Read.len {t : Bytes} {k : Nat} {ns : List Nat} {cur : Bytes} {fb : Bool} (h : Read t k ns cur fb) : cur.length ≤ k := by
  cases fb with
  | false => exact h.digs.2
  | true =>
    rcases h with ⟨h, _⟩ | ⟨_, m, h1, _, _, _, h5⟩
    · cases h
    · rw [h5, List.length_take]; omega
theorem numsIn_le (ps : List Bytes) : (numsIn ps).length ≤ ps.length := by
  rw [numsIn, List.length_map]; exact List.length_filter_le _ _
theorem Read.count {t : Bytes} {k : Nat} {ns : List Nat} {cur : Bytes} {fb : Bool} (h : Read t k ns cur fb) : ns.length ≤ t.length + 1 := by
  rcases h with ⟨_, _, ps, h2, h3⟩ | ⟨_, m, _, _, _, h4, _⟩
  · have h5 := splitB_length 46 (t.take k)
    rw [h2, List.length_append, List.length_take] at h5
    have := numsIn_le ps
    rw [h3]; omega
  · have h5 := splitB_length 46 (t.take m)
    rw [List.length_take] at h5
    have := numsIn_le (splitB 46 (t.take m))
    rw [h4]; omega
theorem Read.dig {t : Bytes} {k : Nat} {ns : List Nat} {cur : Bytes} {c : UInt8} (h : Read t k ns cur false) (hc : t[k]? = some c) (hd : isDig c = true) : Read t (k + 1) ns (cur ++ [c]) false := by
  rcases h with ⟨_, h1, ps, h2, h3⟩ | ⟨h, _⟩
  · have hne : c ≠ 46 := by rintro rfl; exact absurd hd (by decide)
    refine Or.inl ⟨rfl, ?_, ps, ?_, h3⟩
    · rw [take_at hc, List.all_append, h1]; simp [coreB, hd]
    · rw [take_at hc, splitB_snoc 46 c _ ps cur h2, if_neg hne]
  · cases h
theorem Read.dot {t : Bytes} {k : Nat} {ns : List Nat} {cur : Bytes} (h : Read t k ns cur false) (hc : t[k]? = some 46) : Read t (k + 1) (if cur = [] then ns else ns ++ [natOf cur]) [] false := by
  rcases h with ⟨_, h1, ps, h2, h3⟩ | ⟨h, _⟩
  · refine Or.inl ⟨rfl, ?_, ps ++ [cur], ?_, ?_⟩
    · rw [take_at hc, List.all_append, h1]; rfl
    · rw [take_at hc, splitB_snoc 46 46 _ ps cur h2, if_pos rfl]; simp
    · rw [numsIn_snoc, h3]
  · cases h
theorem Read.build {t : Bytes} {k : Nat} {ns : List Nat} {cur : Bytes} {c : UInt8} (h : Read t k ns cur false) (hc : t[k]? = some c) (hb : coreB c = false) : Read t (k + 1) (if cur = [] then ns else ns ++ [natOf cur]) [c] true := by
  rcases h with ⟨_, h1, ps, h2, h3⟩ | ⟨h, _⟩
  · refine Or.inr ⟨rfl, k, by omega, h1, ⟨c, hc, hb⟩, ?_, ?_⟩
    · rw [h2, numsIn_snoc, h3]
    · obtain ⟨hk, he⟩ := List.getElem?_eq_some_iff.1 hc
      rw [show k + 1 - k = 0 + 1 from by omega, List.drop_eq_getElem_cons hk, he]; rfl
  · cases h
theorem Read.done {l t : Bytes} {ns : List Nat} {cur : Bytes} (ht : t = restV l) (h : Read t t.length ns cur false) : numsOf l = (if cur = [] then ns else ns ++ [natOf cur]) ∧ buildOf l = [] := by
  rcases h with ⟨_, h1, ps, h2, h3⟩ | ⟨h, _⟩
  · obtain ⟨w1, w2⟩ := while_at t t.length h1 (Or.inl rfl)
    rw [List.take_length] at h2 w1
    rw [List.drop_length] at w2
    refine ⟨?_, ?_⟩
    · rw [numsOf_eq, coreOf, ← ht, w1, h2, numsIn_snoc, h3]
    · rw [buildOf, ← ht, w2]
  · cases h
theorem Read.doneB {l t : Bytes} {ns : List Nat} {cur : Bytes} (ht : t = restV l) (h : Read t t.length ns cur true) : numsOf l = ns ∧ buildOf l = cur := by
  rcases h with ⟨h, _⟩ | ⟨_, m, h1, h2, h3, h4, h5⟩
  · cases h
  · obtain ⟨w1, w2⟩ := while_at t m h2 (Or.inr h3)
    refine ⟨?_, ?_⟩
    · rw [numsOf_eq, coreOf, ← ht, w1, h4]
    · rw [buildOf, ← ht, w2, h5, List.take_of_length_le (by rw [List.length_drop]; exact Nat.le_refl _)]
structure Ord3 {α : Type} (f : α → α → Int) : Prop where
  three : ∀ a b, f a b = -1 ∨ f a b = 0 ∨ f a b = 1
  anti : ∀ a b, f a b = - f b a
  chain : ∀ a b c, f a b ≤ 0 → f b c ≤ 0 → f a c ≤ 0
section
variable {α β : Type} {f : α → α → Int} {g : β → β → Int}
theorem Ord3.pull (h : Ord3 f) (k : β → α) : Ord3 fun a b => f (k a) (k b) := ⟨fun _ _ => h.three _ _, fun _ _ => h.anti _ _, fun _ _ _ => h.chain _ _ _⟩
theorem Ord3.both (h : Ord3 f) {a b c : α} (h1 : f a b ≤ 0) (h2 : f b c ≤ 0) (h3 : f a c = 0) : f a b = 0 ∧ f b c = 0 := by
  have e : f c a ≤ 0 := by have := h.anti c a; omega
  have e1 := h.chain c a b e h1
  have e2 := h.chain b c a h2 e
  have a1 := h.anti b c
  have a2 := h.anti a b
  omega
theorem Ord3.lex_chain (h : Ord3 f) {a b c : α} {x y z : Int} (hg : f a b = 0 → f b c = 0 → x ≤ 0 → y ≤ 0 → z ≤ 0)
    (h1 : (if f a b ≠ 0 then f a b else x) ≤ 0) (h2 : (if f b c ≠ 0 then f b c else y) ≤ 0) : (if f a c ≠ 0 then f a c else z) ≤ 0 := by
  have k1 : f a b ≤ 0 := by split at h1 <;> omega
  have k2 : f b c ≤ 0 := by split at h2 <;> omega
  have k3 := h.chain a b c k1 k2
  by_cases e : f a c = 0
  · obtain ⟨e1, e2⟩ := h.both k1 k2 e
    rw [if_neg (by omega)] at h1 h2 ⊢
    exact hg e1 e2 h1 h2
  · rw [if_pos e]; exact k3
theorem Ord3.lex {g : α → α → Int} (h : Ord3 f) (k : Ord3 g) : Ord3 fun a b => if f a b ≠ 0 then f a b else g a b := by
  refine ⟨fun a b => ?_, fun a b => ?_, fun a b c => h.lex_chain fun _ _ => k.chain a b c⟩
  · show (if f a b ≠ 0 then f a b else g a b) = -1 ∨ (if f a b ≠ 0 then f a b else g a b) = 0 ∨ (if f a b ≠ 0 then f a b else g a b) = 1
    split
    · exact h.three a b
    · exact k.three a b
  · show (if f a b ≠ 0 then f a b else g a b) = - (if f b a ≠ 0 then f b a else g b a)
    have := h.anti a b
    by_cases e : f a b = 0
    · rw [if_neg (by omega), if_neg (by omega)]; exact k.anti a b
    · rw [if_pos (by omega), if_pos (by omega)]; exact this
end
theorem ordI_ord : Ord3 fun a b : Int => ordI a b := by
  refine ⟨fun a b => ?_, fun a b => ?_, fun a b c => ?_⟩ <;> simp only [ordI] <;> (repeat' split) <;> omega
theorem cmpN_ord : Ord3 cmpN := by
  refine ⟨fun a b => ?_, fun a b => ?_, fun a b c => ?_⟩ <;> simp only [cmpN] <;> (repeat' split) <;> omega
theorem less_irr : ∀ a : Bytes, less a a = false
  | [] => rfl
  | x :: r => by
    show (decide (x < x) || (x == x && less r r)) = false
    rw [less_irr r]; simp
theorem less_cons (x y : UInt8) (a b : Bytes) : less (x :: a) (y :: b) = (decide (x.toNat < y.toNat) || (decide (x.toNat = y.toNat) && less a b)) := by
  show (decide (x < y) || (x == y && less a b)) = _
  congr 1
  congr 1
  rw [Bool.eq_iff_iff]; simp [← UInt8.toNat_inj]
theorem less_nil (a : Bytes) : less a [] = false := by cases a <;> rfl
theorem less_trans : ∀ a b c : Bytes, less a b = true → less b c = true → less a c = true
  | a, b, [], _, h => by rw [less_nil] at h; cases h
  | a, [], _ :: _, h, _ => by rw [less_nil] at h; cases h
  | [], _ :: _, _ :: _, _, _ => rfl
  | x :: a, y :: b, z :: c, h1, h2 => by
    rw [less_cons] at h1 h2 ⊢
    simp only [Bool.or_eq_true, Bool.and_eq_true, decide_eq_true_eq] at h1 h2 ⊢
    rcases h1 with h1 | ⟨h1, k1⟩
    · rcases h2 with h2 | ⟨h2, _⟩
      · left; omega
      · left; omega
    · rcases h2 with h2 | ⟨h2, k2⟩
      · left; omega
      · right; exact ⟨by omega, less_trans a b c k1 k2⟩
theorem less_tri : ∀ a b : Bytes, less a b = true ∨ a = b ∨ less b a = true
  | [], [] => Or.inr (Or.inl rfl)
  | [], _ :: _ => Or.inl rfl
  | _ :: _, [] => Or.inr (Or.inr rfl)
  | x :: a, y :: b => by
    rw [less_cons, less_cons]
    simp only [Bool.or_eq_true, Bool.and_eq_true, decide_eq_true_eq]
    rcases Nat.lt_trichotomy x.toNat y.toNat with h | h | h
    · exact Or.inl (Or.inl h)
    · have hxy : x = y := UInt8.toNat_inj.1 h
      subst hxy
      rcases less_tri a b with k | k | k
      · exact Or.inl (Or.inr ⟨rfl, k⟩)
      · exact Or.inr (Or.inl (by rw [k]))
      · exact Or.inr (Or.inr (Or.inr ⟨rfl, k⟩))
    · exact Or.inr (Or.inr (Or.inl h))
theorem ordB_lt {a b : Bytes} (h : less a b = true) : ordB a b = -1 := by rw [ordB, if_pos h]
theorem ordB_eq (a : Bytes) : ordB a a = 0 := by rw [ordB, less_irr, if_neg (by decide), if_neg (by decide)]
theorem ordB_gt {a b : Bytes} (h : less b a = true) : ordB a b = 1 := by
  have hn : less a b = false := by
    cases e : less a b with
    | false => rfl
    | true => have := less_trans a b a e h; rw [less_irr] at this; cases this
  rw [ordB, hn, if_neg (by decide), if_pos h]
theorem ordB_ord : Ord3 ordB := by
  refine ⟨fun a b => ?_, fun a b => ?_, fun a b c h1 h2 => ?_⟩
  · rcases less_tri a b with h | h | h
    · exact Or.inl (ordB_lt h)
    · subst h; exact Or.inr (Or.inl (ordB_eq a))
    · exact Or.inr (Or.inr (ordB_gt h))
  · rcases less_tri a b with h | h | h
    · rw [ordB_lt h, ordB_gt h]
    · subst h; rw [ordB_eq]; rfl
    · rw [ordB_lt h, ordB_gt h]; rfl
  · rcases less_tri a b with h | h | h
    · rcases less_tri b c with k | k | k
      · rw [ordB_lt (less_trans a b c h k)]; omega
      · subst k; exact h1
      · rw [ordB_gt k] at h2; omega
    · subst h; exact h2
    · rw [ordB_gt h] at h1; omega
theorem all_of_allDig {a : Bytes} (h : allDig a = true) : a.all isDig = true := by rw [allDig, Bool.and_eq_true] at h; exact h.1
theorem idOne_dd {a b : Bytes} (ha : allDig a = true) (hb : allDig b = true) : idOne a b = cmpN (natOf a) (natOf b) := by
  rw [idOne, if_pos ha, if_pos hb, ordNum_nat a b (all_of_allDig ha) (all_of_allDig hb)]
theorem idOne_dt {a b : Bytes} (ha : allDig a = true) (hb : allDig b = false) : idOne a b = -1 := by rw [idOne, if_pos ha, if_neg (by rw [hb]; decide)]
theorem idOne_td {a b : Bytes} (ha : allDig a = false) (hb : allDig b = true) : idOne a b = 1 := by rw [idOne, if_neg (by rw [ha]; decide), if_pos hb]
theorem idOne_ww {a b : Bytes} (ha : allDig a = false) (hb : allDig b = false) : idOne a b = ordB a b := by rw [idOne, if_neg (by rw [ha]; decide), if_neg (by rw [hb]; decide)]
theorem idOne_ord : Ord3 idOne := by
  refine ⟨fun a b => ?_, fun a b => ?_, fun a b c h1 h2 => ?_⟩
  · cases ha : allDig a <;> cases hb : allDig b
    · rw [idOne_ww ha hb]; exact ordB_ord.three a b
    · rw [idOne_td ha hb]; omega
    · rw [idOne_dt ha hb]; omega
    · rw [idOne_dd ha hb]; exact cmpN_ord.three _ _
  · cases ha : allDig a <;> cases hb : allDig b
    · rw [idOne_ww ha hb, idOne_ww hb ha]; exact ordB_ord.anti a b
    · rw [idOne_td ha hb, idOne_dt hb ha]; rfl
    · rw [idOne_dt ha hb, idOne_td hb ha]
    · rw [idOne_dd ha hb, idOne_dd hb ha]; exact cmpN_ord.anti _ _
  · cases ha : allDig a <;> cases hb : allDig b <;> cases hc : allDig c
    · rw [idOne_ww ha hb] at h1; rw [idOne_ww hb hc] at h2; rw [idOne_ww ha hc]; exact ordB_ord.chain a b c h1 h2
    · rw [idOne_td hb hc] at h2; omega
    · rw [idOne_td ha hb] at h1; omega
    · rw [idOne_td ha hb] at h1; omega
    · rw [idOne_dt ha hc]; omega
    · rw [idOne_td hb hc] at h2; omega
    · rw [idOne_dt ha hc]; omega
    · rw [idOne_dd ha hb] at h1; rw [idOne_dd hb hc] at h2; rw [idOne_dd ha hc]; exact cmpN_ord.chain _ _ _ h1 h2
theorem ordI_len (n : Nat) : ordI 0 ((n + 1 : Nat) : Int) = -1 ∧ ordI ((n + 1 : Nat) : Int) 0 = 1 := by
  constructor
  · rw [ordI, if_pos (by omega)]
  · rw [ordI, if_neg (by omega), if_pos (by omega)]
theorem identsCmp_nc (b : Bytes) (y : List Bytes) : identsCmp [] (b :: y) = -1 := (ordI_len y.length).1
theorem identsCmp_cn (a : Bytes) (x : List Bytes) : identsCmp (a :: x) [] = 1 := (ordI_len x.length).2
theorem identsCmp_nn : identsCmp [] [] = 0 := rfl
theorem identsCmp_cc (a b : Bytes) (x y : List Bytes) : identsCmp (a :: x) (b :: y) = if idOne a b ≠ 0 then idOne a b else identsCmp x y := rfl
theorem identsCmp_three : ∀ x y : List Bytes, identsCmp x y = -1 ∨ identsCmp x y = 0 ∨ identsCmp x y = 1
  | [], [] => Or.inr (Or.inl rfl)
  | [], b :: y => Or.inl (identsCmp_nc b y)
  | a :: x, [] => Or.inr (Or.inr (identsCmp_cn a x))
  | a :: x, b :: y => by
    rw [identsCmp_cc]
    split
    · exact idOne_ord.three a b
    · exact identsCmp_three x y
theorem identsCmp_anti : ∀ x y : List Bytes, identsCmp x y = - identsCmp y x
  | [], [] => rfl
  | [], b :: y => by rw [identsCmp_nc, identsCmp_cn]
  | a :: x, [] => by rw [identsCmp_nc, identsCmp_cn]; rfl
  | a :: x, b :: y => by
    rw [identsCmp_cc, identsCmp_cc]
    have h := idOne_ord.anti a b
    by_cases e : idOne a b = 0
    · rw [if_neg (by omega), if_neg (by omega)]; exact identsCmp_anti x y
    · rw [if_pos (by omega), if_pos (by omega)]; exact h
theorem identsCmp_chain : ∀ x y z : List Bytes, identsCmp x y ≤ 0 → identsCmp y z ≤ 0 → identsCmp x z ≤ 0
  | [], _, [], _, _ => by rw [identsCmp_nn]; omega
  | [], _, c :: z, _, _ => by rw [identsCmp_nc]; omega
  | a :: x, [], _, h, _ => by rw [identsCmp_cn] at h; omega
  | _ :: _, b :: y, [], _, h => by rw [identsCmp_cn] at h; omega
  | a :: x, b :: y, c :: z, h1, h2 => by
    rw [identsCmp_cc] at h1 h2 ⊢
    exact idOne_ord.lex_chain (fun _ _ k1 k2 => identsCmp_chain x y z k1 k2) h1 h2
theorem identsCmp_ord : Ord3 identsCmp := ⟨identsCmp_three, identsCmp_anti, identsCmp_chain⟩
theorem builds_lex (a b : Bytes) : builds a b = if ordI (min ((idents b).length : Int) 1) (min ((idents a).length : Int) 1) ≠ 0 then ordI (min ((idents b).length : Int) 1) (min ((idents a).length : Int) 1) else identsCmp (idents a) (idents b) := by
  unfold builds
  by_cases h : (idents a).length = 0 ∨ (idents b).length = 0
  · rw [if_pos h]
    by_cases e : ordI (min ((idents b).length : Int) 1) (min ((idents a).length : Int) 1) = 0
    · rw [if_neg (by omega), e]
      have h2 : (idents a).length = 0 ∧ (idents b).length = 0 := by
        unfold ordI at e
        split at e
        · omega
        · split at e
          · omega
          · omega
      rw [List.eq_nil_of_length_eq_zero h2.1, List.eq_nil_of_length_eq_zero h2.2]; rfl
    · rw [if_pos e]
  · rw [if_neg h]
    have e : ordI (min ((idents b).length : Int) 1) (min ((idents a).length : Int) 1) = 0 := by
      unfold ordI
      rw [if_neg (by omega), if_neg (by omega)]
    rw [if_neg (by omega)]
theorem builds_ord : Ord3 builds := by
  have h1 : Ord3 fun a b : Bytes => ordI (min ((idents b).length : Int) 1) (min ((idents a).length : Int) 1) := by
    refine ⟨fun a b => ordI_ord.three _ _, fun a b => ordI_ord.anti _ _, fun a b c h1 h2 => ?_⟩
    have h1' : ordI (min ((idents b).length : Int) 1) (min ((idents a).length : Int) 1) ≤ 0 := h1
    have h2' : ordI (min ((idents c).length : Int) 1) (min ((idents b).length : Int) 1) ≤ 0 := h2
    exact ordI_ord.chain _ _ _ h2' h1'
  have h := h1.lex (identsCmp_ord.pull idents)
  have e : builds = fun a b => if ordI (min ((idents b).length : Int) 1) (min ((idents a).length : Int) 1) ≠ 0 then ordI (min ((idents b).length : Int) 1) (min ((idents a).length : Int) 1) else identsCmp (idents a) (idents b) := by
    funext a b; exact builds_lex a b
  rw [e]; exact h
theorem cmpNums_ht (a b : List Nat) : cmpNums a b = if cmpN (a.headD 0) (b.headD 0) ≠ 0 then cmpN (a.headD 0) (b.headD 0) else cmpNums a.tail b.tail := by
  cases a with
  | nil =>
    cases b with
    | nil => simp [cmpNums, cmpN]
    | cons y b => simp [cmpNums]
  | cons x a =>
    cases b with
    | nil => simp [cmpNums]
    | cons y b => simp [cmpNums]
theorem cmpNums_nil : cmpNums [] [] = 0 := by simp [cmpNums]
theorem cmpNums_all (n : Nat) : ∀ a b c : List Nat, a.length ≤ n → b.length ≤ n → c.length ≤ n →
    (cmpNums a b = -1 ∨ cmpNums a b = 0 ∨ cmpNums a b = 1) ∧ cmpNums a b = - cmpNums b a ∧ (cmpNums a b ≤ 0 → cmpNums b c ≤ 0 → cmpNums a c ≤ 0) := by
  induction n with
  | zero =>
    intro a b c ha hb hc
    rw [List.eq_nil_of_length_eq_zero (Nat.le_zero.1 ha), List.eq_nil_of_length_eq_zero (Nat.le_zero.1 hb), List.eq_nil_of_length_eq_zero (Nat.le_zero.1 hc), cmpNums_nil]
    omega
  | succ n ih =>
    intro a b c ha hb hc
    have hl : ∀ l : List Nat, l.length ≤ n + 1 → l.tail.length ≤ n := fun l h => by rw [List.length_tail]; omega
    obtain ⟨i1, i2, i3⟩ := ih a.tail b.tail c.tail (hl a ha) (hl b hb) (hl c hc)
    refine ⟨?_, ?_, ?_⟩
    · rw [cmpNums_ht]
      split
      · exact cmpN_ord.three _ _
      · exact i1
    · rw [cmpNums_ht a b, cmpNums_ht b a]
      have h := cmpN_ord.anti (a.headD 0) (b.headD 0)
      by_cases e : cmpN (a.headD 0) (b.headD 0) = 0
      · rw [if_neg (by omega), if_neg (by omega)]; exact i2
      · rw [if_pos (by omega), if_pos (by omega)]; exact h
    · intro h1 h2
      rw [cmpNums_ht] at h1 h2 ⊢
      exact cmpN_ord.lex_chain (fun _ _ k1 k2 => i3 k1 k2) h1 h2
theorem cmpNums_ord : Ord3 cmpNums := by
  have hb : ∀ a b c : List Nat, a.length ≤ a.length + b.length + c.length ∧ b.length ≤ a.length + b.length + c.length ∧ c.length ≤ a.length + b.length + c.length := fun a b c => by omega
  refine ⟨fun a b => ?_, fun a b => ?_, fun a b c => ?_⟩
  · exact (cmpNums_all _ a b [] (hb a b []).1 (hb a b []).2.1 (hb a b []).2.2).1
  · exact (cmpNums_all _ a b [] (hb a b []).1 (hb a b []).2.1 (hb a b []).2.2).2.1
  · exact (cmpNums_all _ a b c (hb a b c).1 (hb a b c).2.1 (hb a b c).2.2).2.2
def addV (b : Nat) : List Nat → List Nat → Nat → List Nat × Nat
  | x :: r, y :: q, c => ((x + y + c) % b :: (addV b r q ((x + y + c) / b)).1, (addV b r q ((x + y + c) / b)).2)
  | _, _, c => ([], c)
def subV (b : Nat) : List Nat → List Nat → Nat → List Nat × Nat
  | x :: r, y :: q, c => ((b + x - y - c) % b :: (subV b r q (if x < y + c then 1 else 0)).1, (subV b r q (if x < y + c then 1 else 0)).2)
  | _, _, c => ([], c)
def addMulV (b : Nat) : List Nat → List Nat → Nat → Nat → List Nat × Nat
  | x :: r, y :: q, m, c => ((y * m + x + c) % b :: (addMulV b r q m ((y * m + x + c) / b)).1, (addMulV b r q m ((y * m + x + c) / b)).2)
  | _, _, _, c => ([], c)
theorem addV_cons (b x y : Nat) (r q : List Nat) (c : Nat) : addV b (x :: r) (y :: q) c = ((x + y + c) % b :: (addV b r q ((x + y + c) / b)).1, (addV b r q ((x + y + c) / b)).2) := rfl
theorem subV_cons (b x y : Nat) (r q : List Nat) (c : Nat) : subV b (x :: r) (y :: q) c = ((b + x - y - c) % b :: (subV b r q (if x < y + c then 1 else 0)).1, (subV b r q (if x < y + c then 1 else 0)).2) := rfl
theorem addMulV_cons (b x y : Nat) (r q : List Nat) (m c : Nat) : addMulV b (x :: r) (y :: q) m c = ((y * m + x + c) % b :: (addMulV b r q m ((y * m + x + c) / b)).1, (addMulV b r q m ((y * m + x + c) / b)).2) := rfl
theorem addV_len (b : Nat) : ∀ (l m : List Nat) (c : Nat), l.length = m.length → (addV b l m c).1.length = l.length
  | [], _, _, _ => by simp [addV]
  | x :: r, [], _, h => by simp at h
  | x :: r, y :: q, c, h => by rw [addV_cons]; simp [addV_len b r q _ (by simpa using h)]
theorem subV_len (b : Nat) : ∀ (l m : List Nat) (c : Nat), l.length = m.length → (subV b l m c).1.length = l.length
  | [], _, _, _ => by simp [subV]
  | x :: r, [], _, h => by simp at h
  | x :: r, y :: q, c, h => by rw [subV_cons]; simp [subV_len b r q _ (by simpa using h)]
theorem addMulV_len (b : Nat) : ∀ (l m : List Nat) (k c : Nat), l.length = m.length → (addMulV b l m k c).1.length = l.length
  | [], _, _, _, _ => by simp [addMulV]
  | x :: r, [], _, _, h => by simp at h
  | x :: r, y :: q, k, c, h => by rw [addMulV_cons]; simp [addMulV_len b r q k _ (by simpa using h)]
theorem addV_lt (b : Nat) (hb : 0 < b) : ∀ (l m : List Nat) (c : Nat), ∀ d ∈ (addV b l m c).1, d < b
  | [], _, _, d, h => by simp [addV] at h
  | x :: r, [], _, d, h => by simp [addV] at h
  | x :: r, y :: q, c, d, h => by
    rw [addV_cons] at h
    rcases List.mem_cons.1 h with rfl | h
    · exact Nat.mod_lt _ hb
    · exact addV_lt b hb r q _ d h
theorem subV_lt (b : Nat) (hb : 0 < b) : ∀ (l m : List Nat) (c : Nat), ∀ d ∈ (subV b l m c).1, d < b
  | [], _, _, d, h => by simp [subV] at h
  | x :: r, [], _, d, h => by simp [subV] at h
  | x :: r, y :: q, c, d, h => by
    rw [subV_cons] at h
    rcases List.mem_cons.1 h with rfl | h
    · exact Nat.mod_lt _ hb
    · exact subV_lt b hb r q _ d h
theorem addMulV_lt (b : Nat) (hb : 0 < b) : ∀ (l m : List Nat) (k c : Nat), ∀ d ∈ (addMulV b l m k c).1, d < b
  | [], _, _, _, d, h => by simp [addMulV] at h
  | x :: r, [], _, _, d, h => by simp [addMulV] at h
  | x :: r, y :: q, k, c, d, h => by
    rw [addMulV_cons] at h
    rcases List.mem_cons.1 h with rfl | h
    · exact Nat.mod_lt _ hb
    · exact addMulV_lt b hb r q k _ d h
theorem add_carry {b x y c : Nat} (hx : x < b) (hy : y < b) (hc : c ≤ 1) : (x + y + c) / b ≤ 1 := by
  have : x + y + c < 2 * b := by omega
  have := Nat.div_lt_of_lt_mul (m := x + y + c) (n := b) (k := 2) (by omega)
  omega
theorem addV_c (b : Nat) : ∀ (l m : List Nat) (c : Nat), (∀ d ∈ l, d < b) → (∀ d ∈ m, d < b) → c ≤ 1 → (addV b l m c).2 ≤ 1
  | [], _, _, _, _, h => by simpa [addV] using h
  | x :: r, [], _, _, _, h => by simpa [addV] using h
  | x :: r, y :: q, c, hl, hm, h => by
    rw [addV_cons]
    exact addV_c b r q _ (fun d hd => hl d (List.mem_cons_of_mem _ hd)) (fun d hd => hm d (List.mem_cons_of_mem _ hd)) (add_carry (hl x (by simp)) (hm y (by simp)) h)
theorem subV_c (b : Nat) : ∀ (l m : List Nat) (c : Nat), c ≤ 1 → (subV b l m c).2 ≤ 1
  | [], _, _, h => by simpa [subV] using h
  | x :: r, [], _, h => by simpa [subV] using h
  | x :: r, y :: q, c, _ => by
    rw [subV_cons]
    exact subV_c b r q _ (by split <;> omega)
theorem addMul_carry {b x y m c : Nat} (hx : x < b) (hy : y < b) (hm : m < b) (hc : c < b) : (y * m + x + c) / b < b := by
  rw [Nat.div_lt_iff_lt_mul (by omega)]
  have h1 : y * m ≤ (b - 1) * (b - 1) := Nat.mul_le_mul (by omega) (by omega)
  have h3 : b * b = (b - 1) * (b - 1) + (b - 1) + (b - 1) + 1 := by
    obtain ⟨k, rfl⟩ : ∃ k, b = k + 1 := ⟨b - 1, by omega⟩
    simp only [Nat.add_sub_cancel, Nat.add_mul, Nat.mul_add, Nat.one_mul, Nat.mul_one]
    omega
  omega
theorem addMulV_c (b : Nat) : ∀ (l m : List Nat) (k c : Nat), (∀ d ∈ l, d < b) → (∀ d ∈ m, d < b) → k < b → c < b → (addMulV b l m k c).2 < b
  | [], _, _, _, _, _, _, h => by simpa [addMulV] using h
  | x :: r, [], _, _, _, _, _, h => by simpa [addMulV] using h
  | x :: r, y :: q, k, c, hl, hm, hk, h => by
    rw [addMulV_cons]
    exact addMulV_c b r q k _ (fun d hd => hl d (List.mem_cons_of_mem _ hd)) (fun d hd => hm d (List.mem_cons_of_mem _ hd)) hk (addMul_carry (hl x (by simp)) (hm y (by simp)) hk h)
theorem addV_val (b : Nat) : ∀ (l m : List Nat) (c : Nat), l.length = m.length → val b (addV b l m c).1 + b ^ l.length * (addV b l m c).2 = val b l + val b m + c
  | [], [], c, _ => by simp [addV, val]
  | [], _ :: _, _, h => by simp at h
  | _ :: _, [], _, h => by simp at h
  | x :: r, y :: q, c, h => by
    have ih := addV_val b r q ((x + y + c) / b) (by simpa using h)
    rw [addV_cons]
    simp only [val, List.length_cons, Nat.pow_succ]
    have e1 : (x + y + c) % b + b * ((x + y + c) / b) = x + y + c := Nat.mod_add_div _ _
    have e2 : b ^ r.length * b * (addV b r q ((x + y + c) / b)).2 = b * (b ^ r.length * (addV b r q ((x + y + c) / b)).2) := by rw [Nat.mul_comm (b ^ r.length) b, Nat.mul_assoc]
    rw [e2]
    have e3 := congrArg (b * ·) ih
    simp only [Nat.mul_add] at e3
    omega
theorem subV_val (b : Nat) : ∀ (l m : List Nat) (c : Nat), l.length = m.length → (∀ d ∈ l, d < b) → (∀ d ∈ m, d < b) → c ≤ 1 → val b (subV b l m c).1 + val b m + c = val b l + b ^ l.length * (subV b l m c).2
  | [], [], c, _, _, _, _ => by simp [subV, val]
  | [], _ :: _, _, h, _, _, _ => by simp at h
  | _ :: _, [], _, h, _, _, _ => by simp at h
  | x :: r, y :: q, c, h, hl, hm, hc => by
    have hx := hl x (by simp)
    have hy := hm y (by simp)
    have ih := subV_val b r q (if x < y + c then 1 else 0) (by simpa using h) (fun d hd => hl d (List.mem_cons_of_mem _ hd)) (fun d hd => hm d (List.mem_cons_of_mem _ hd)) (by split <;> omega)
    rw [subV_cons]
    simp only [val, List.length_cons, Nat.pow_succ]
    obtain ⟨s, hs⟩ : ∃ s, (if x < y + c then 1 else 0) = s := ⟨_, rfl⟩
    rw [hs] at ih ⊢
    have e2 : b ^ r.length * b * (subV b r q s).2 = b * (b ^ r.length * (subV b r q s).2) := by rw [Nat.mul_comm (b ^ r.length) b, Nat.mul_assoc]
    rw [e2]
    have e3 := congrArg (b * ·) ih
    simp only [Nat.mul_add] at e3
    by_cases hlt : x < y + c
    · rw [if_pos hlt] at hs
      subst hs
      have : (b + x - y - c) % b = b + x - y - c := Nat.mod_eq_of_lt (by omega)
      rw [this]
      omega
    · rw [if_neg hlt] at hs
      subst hs
      have : (b + x - y - c) % b = x - y - c := by
        rw [show b + x - y - c = (x - y - c) + b from by omega, Nat.add_mod_right]
        exact Nat.mod_eq_of_lt (by omega)
      rw [this]
      omega
theorem addMulV_val (b : Nat) : ∀ (l m : List Nat) (k c : Nat), l.length = m.length → val b (addMulV b l m k c).1 + b ^ l.length * (addMulV b l m k c).2 = val b l + val b m * k + c
  | [], [], k, c, _ => by simp [addMulV, val]
  | [], _ :: _, _, _, h => by simp at h
  | _ :: _, [], _, _, h => by simp at h
  | x :: r, y :: q, k, c, h => by
    have ih := addMulV_val b r q k ((y * k + x + c) / b) (by simpa using h)
    rw [addMulV_cons]
    simp only [val, List.length_cons, Nat.pow_succ]
    have e1 : (y * k + x + c) % b + b * ((y * k + x + c) / b) = y * k + x + c := Nat.mod_add_div _ _
    have e2 : b ^ r.length * b * (addMulV b r q k ((y * k + x + c) / b)).2 = b * (b ^ r.length * (addMulV b r q k ((y * k + x + c) / b)).2) := by rw [Nat.mul_comm (b ^ r.length) b, Nat.mul_assoc]
    rw [e2]
    have e3 := congrArg (b * ·) ih
    simp only [Nat.mul_add] at e3
    have e4 : (y + b * val b q) * k = y * k + b * (val b q * k) := by rw [Nat.add_mul, Nat.mul_assoc]
    rw [e4]
    omega
end Go.Proofs.YtgfkdjmoflbmdaaGreatDoor.Pl
