/- PLAIN; Contracts; Contracts; PLAIN; PLAIN. -/
import Derived.Test.YtgfkdjmoflbmdaaGreatDoorRWnxWq
import Derived.Lib.Bytealg
import Derived.Handy
import Derived.Deep.RegionHeld3
import Derived.Deep.DeepCutAuto
import Derived.Deep.CutBlock
namespace Go.Proofs.YtgfkdjmoflbmdaaGreatDoor.Pl
theorem natAcc_cons (n : Nat) (c : UInt8) (r : Bytes) : natAcc n (c :: r) = natAcc (n * 10 + (c.toNat - 48)) r := by simp only [natAcc, List.foldl_cons]
theorem natAcc_split (l : Bytes) : ∀ n : Nat, natAcc n l = n * 10 ^ l.length + natOf l := by
  induction l with
  | nil => intro n; simp [natAcc, natOf]
  | cons c r ih =>
    intro n
    have e : natOf (c :: r) = (c.toNat - 48) * 10 ^ r.length + natOf r := by
      unfold natOf
      rw [natAcc_cons, ih, Nat.zero_mul, Nat.zero_add]
      rfl
    rw [natAcc_cons, ih, e, List.length_cons, Nat.pow_succ, Nat.add_mul, Nat.mul_assoc, Nat.mul_comm 10 (10 ^ r.length), Nat.add_assoc]
theorem natOf_cons (c : UInt8) (r : Bytes) : natOf (c :: r) = (c.toNat - 48) * 10 ^ r.length + natOf r := by
  unfold natOf
  rw [natAcc_cons, natAcc_split, Nat.zero_mul, Nat.zero_add]
  rfl
theorem natOf_strip : ∀ (l : Bytes), natOf (stripZ l) = natOf l
  | [] => rfl
  | c :: r => by
    show natOf (if c = 48 then stripZ r else c :: r) = _
    by_cases h : c = 48
    · rw [if_pos h, natOf_strip r, natOf_cons, h]; simp
    · rw [if_neg h]
theorem strip_dig : ∀ (l : Bytes), l.all isDig = true → (stripZ l).all isDig = true
  | [], _ => rfl
  | c :: r, h => by
    show (if c = 48 then stripZ r else c :: r).all isDig = true
    by_cases hc : c = 48
    · rw [if_pos hc]
      rw [List.all_cons, Bool.and_eq_true] at h
      exact strip_dig r h.2
    · rw [if_neg hc]; exact h
theorem strip_head : ∀ (l : Bytes) (c : UInt8) (r : Bytes), stripZ l = c :: r → c ≠ 48
  | [], c, r, h => by cases h
  | d :: q, c, r, h => by
    have h' : (if d = 48 then stripZ q else d :: q) = c :: r := h
    by_cases hd : d = 48
    · rw [if_pos hd] at h'
      exact strip_head q c r h'
    · rw [if_neg hd] at h'
      injection h' with h1 _
      rw [← h1]; exact hd
theorem dig_val {c : UInt8} (h : isDig c = true) : 48 ≤ c.toNat ∧ c.toNat ≤ 57 := by
  rw [isDig, Bool.and_eq_true, decide_eq_true_eq, decide_eq_true_eq] at h
  exact h
theorem strip_lt {a b : Bytes} (ha : a.all isDig = true) (hb : b.all isDig = true) (h : (stripZ a).length < (stripZ b).length) : natOf a < natOf b := by
  rw [← natOf_strip a, ← natOf_strip b]
  have h1 := natOf_lt _ (strip_dig a ha)
  cases hs : stripZ b with
  | nil => rw [hs] at h; simp at h
  | cons c r =>
    have hc := strip_head b c r hs
    have hd := strip_dig b hb
    rw [hs] at h hd
    rw [List.all_cons, Bool.and_eq_true] at hd
    obtain ⟨h48, _⟩ := dig_val hd.1
    have h49 : 1 ≤ c.toNat - 48 := by
      have : c.toNat ≠ 48 := fun e => hc (UInt8.toNat_inj.1 (by rw [e]; rfl))
      omega
    rw [natOf_cons]
    have h2 : 10 ^ (stripZ a).length ≤ 10 ^ r.length := Nat.pow_le_pow_right (by omega) (by simp at h; omega)
    have h3 : 1 * 10 ^ r.length ≤ (c.toNat - 48) * 10 ^ r.length := Nat.mul_le_mul_right _ h49
    omega
theorem less_nat : ∀ (a b : Bytes), a.length = b.length → a.all isDig = true → b.all isDig = true → (less a b = true ↔ natOf a < natOf b)
  | [], [], _, _, _ => by simp [less, natOf, natAcc]
  | [], _ :: _, h, _, _ => by simp at h
  | _ :: _, [], h, _, _ => by simp at h
  | x :: a, y :: b, hl, ha, hb => by
    rw [List.all_cons, Bool.and_eq_true] at ha hb
    have hl' : a.length = b.length := by simpa using hl
    have ih := less_nat a b hl' ha.2 hb.2
    obtain ⟨x1, x2⟩ := dig_val ha.1
    obtain ⟨y1, y2⟩ := dig_val hb.1
    have va := natOf_lt a ha.2
    have vb := natOf_lt b hb.2
    rw [natOf_cons, natOf_cons, hl']
    rw [hl'] at va
    show (decide (x < y) || (x == y && less a b)) = true ↔ _
    rw [Bool.or_eq_true, Bool.and_eq_true, decide_eq_true_eq, beq_iff_eq, ih, UInt8.lt_iff_toNat_lt, ← UInt8.toNat_inj]
    rcases Nat.lt_trichotomy x.toNat y.toNat with h | h | h
    · have h3 : (x.toNat - 48 + 1) * 10 ^ b.length ≤ (y.toNat - 48) * 10 ^ b.length := Nat.mul_le_mul_right _ (by omega)
      rw [Nat.add_mul, Nat.one_mul] at h3
      constructor
      · intro _; omega
      · intro _; exact Or.inl h
    · rw [h]
      constructor
      · rintro (h4 | ⟨_, h4⟩)
        · omega
        · omega
      · intro h4; exact Or.inr ⟨rfl, by omega⟩
    · have h3 : (y.toNat - 48 + 1) * 10 ^ b.length ≤ (x.toNat - 48) * 10 ^ b.length := Nat.mul_le_mul_right _ (by omega)
      rw [Nat.add_mul, Nat.one_mul] at h3
      constructor
      · rintro (h4 | ⟨h4, _⟩) <;> omega
      · intro h4; omega
theorem ordNum_nat (a b : Bytes) (ha : a.all isDig = true) (hb : b.all isDig = true) : ordNum a b = cmpN (natOf a) (natOf b) := by
  unfold ordNum
  by_cases hl : (stripZ a).length = (stripZ b).length
  · rw [if_pos hl]
    have h1 := less_nat _ _ hl (strip_dig a ha) (strip_dig b hb)
    have h2 := less_nat _ _ hl.symm (strip_dig b hb) (strip_dig a ha)
    rw [natOf_strip, natOf_strip] at h1 h2
    unfold ordB cmpN
    by_cases c1 : natOf a < natOf b
    · rw [if_pos (h1.2 c1), if_pos c1]
    · rw [if_neg (fun h => c1 (h1.1 h)), if_neg c1]
      by_cases c2 : natOf b < natOf a
      · rw [if_pos (h2.2 c2), if_pos c2]
      · rw [if_neg (fun h => c2 (h2.1 h)), if_neg c2]
  · rw [if_neg hl]
    unfold ordI
    rcases Nat.lt_or_gt_of_ne hl with h | h
    · rw [if_pos (by omega), cmpN_lt (strip_lt ha hb h)]
    · rw [if_neg (by omega), if_pos (by omega), cmpN_gt (strip_lt hb ha h)]
theorem ordB_compare : ∀ (a b : Bytes), Lib.compareBytes a b = ordB a b
  | [], [] => rfl
  | [], _ :: _ => rfl
  | _ :: _, [] => rfl
  | x :: a, y :: b => by
    have ih := ordB_compare a b
    rw [Lib.compareBytes, ih]
    unfold ordB
    have e1 : less (x :: a) (y :: b) = (decide (x < y) || (x == y && less a b)) := rfl
    have e2 : less (y :: b) (x :: a) = (decide (y < x) || (y == x && less b a)) := rfl
    rw [e1, e2]
    by_cases h1 : x < y
    · simp [h1]
    · by_cases h2 : y < x
      · have hne : x ≠ y := fun e => by rw [e] at h2; exact absurd h2 (by simp)
        simp [h1, h2, hne]
      · have he : x = y := by
          rw [UInt8.lt_iff_toNat_lt] at h1 h2
          exact UInt8.toNat_inj.1 (by omega)
        subst he
        simp
end Go.Proofs.YtgfkdjmoflbmdaaGreatDoor.Pl
namespace Go.Proofs.YtgfkdjmoflbmdaaGreatDoor
open Go.RowKit
open Go.Proofs
theorem idents_nil {l : Pl.Bytes} {t : ByteArray} (ht : t.data.toList = Pl.beforePlus l) (he : t.toList = []) : Pl.idents l = [] := by
  rw [toList_eq] at he
  unfold Pl.idents
  rw [← ht, he]; rfl
theorem idents_45 {l : Pl.Bytes} {t : ByteArray} (ht : t.data.toList = Pl.beforePlus l) (h0 : 0 < t.size) (h1 : ((t[0].toNat : Int) == 45) = true) : Pl.trimHy (Pl.beforePlus l) = (t.extract 1 t.size).data.toList := by
  rw [← ht, list_cons t h0]
  show (if t[0] = 45 then _ else _) = _
  rw [if_pos]
  rw [beq_iff_eq] at h1
  exact UInt8.toNat_inj.1 (by rw [show (45 : UInt8).toNat = 45 from rfl]; omega)
theorem idents_no45 {l : Pl.Bytes} {t : ByteArray} (ht : t.data.toList = Pl.beforePlus l) (h0 : 0 < t.size) (h1 : ((t[0].toNat : Int) == 45) = false) : Pl.trimHy (Pl.beforePlus l) = t.data.toList := by
  rw [← ht, list_cons t h0]
  show (if t[0] = 45 then _ else _) = _
  rw [if_neg]
  rw [beq_eq_false_iff_ne] at h1
  intro e
  apply h1
  rw [e]; rfl
theorem idents_split {l u : Pl.Bytes} (h : Pl.trimHy (Pl.beforePlus l) = u) (hu : u ≠ []) : Pl.idents l = Pl.splitB 46 u := by
  unfold Pl.idents
  rw [h, if_neg hu]
theorem ne_of_isEmpty {u : ByteArray} (h : u.toList.isEmpty = false) : u.data.toList ≠ [] := by
  rw [toList_eq] at h
  intro e
  rw [e] at h
  cases h
theorem size_pos_of {t : ByteArray} (h : ¬ t.toList = []) : 0 < t.size := by
  rw [toList_eq] at h
  rw [← len_list]
  exact List.length_pos_iff.2 h
set_option maxHeartbeats 1000000 in
theorem likeIdentifiers_any (s : ByteArray) (w : World) (hs : s.size ≤ 30000) :
    Calls Tryz.prog 84 #[.string s] w fun e w' => ∃ A c, e = .returned (.slice A (Pl.idents s.data.toList).length c) ∧ w'.ownsRow w.heap.size 9 1 (.slice A (Pl.idents s.data.toList).length c) (Pl.idents s.data.toList).length ((Pl.idents s.data.toList).map S) ∧ Below w.heap.size w w' := by
  obtain ⟨R, hR⟩ : ∃ R, Pl.idents s.data.toList = R := ⟨_, rfl⟩
  rw [hR]
  have HR := Lib.hid hR
  clear hR
  cases hi : Pl.idxOf 43 s.data.toList with
  | none =>
    have hk : idxI 43 s.data.toList = -1 := by simp [idxI, hi]
    have HT : Hid (s.data.toList = Pl.beforePlus s.data.toList) := Lib.hid (by rw [Pl.beforePlus, hi])
    clear hi
    by_cases he : s.toList = []
    · have hR := idents_nil HT.out he
      go_enter Tryz.func84, Tryz.ntmps84
      go_wp2_with (first | (go_at_call 96; refine (indexOf_any _ 43 _ (by unfold maxLen; omega)).mono ?_; rintro e w' ⟨rfl, rfl⟩) | (go_at_call 49; refine (cut_any _ _ (by unfold lim; first | assumption | (simp; omega))).mono ?_; rintro e w1 ⟨A, c, rfl, hown, hb⟩))
      go_ret
      rw [HR.out] at hR
      subst hR
      exact ⟨_, _, rfl, World.ownsRow_nil _ _ _ _, Below.refl _ _⟩
    · have h0 : 0 < s.size := size_pos_of he
      have he1 : s.toList.isEmpty = false := by simpa using he
      clear he
      by_cases h45 : ((s[0].toNat : Int) == 45) = true
      · have hu := idents_45 HT.out h0 h45
        have HU := Lib.hid hu
        clear hu
        obtain ⟨u, hut⟩ : ∃ u, s.extract 1 s.size = u := ⟨_, rfl⟩
        have hus : u.size ≤ 30000 := by rw [← hut, ByteArray.size_extract]; omega
        rw [hut] at HU
        by_cases hue : u.toList = []
        · go_enter Tryz.func84, Tryz.ntmps84
          go_wp2_with (first | (go_at_call 96; refine (indexOf_any _ 43 _ (by unfold maxLen; omega)).mono ?_; rintro e w' ⟨rfl, rfl⟩) | (go_at_call 49; refine (cut_any _ _ (by unfold lim; first | assumption | (simp; omega))).mono ?_; rintro e w1 ⟨A, c, rfl, hown, hb⟩))
          go_ret
          have hR : Pl.idents s.data.toList = [] := by
            unfold Pl.idents
            rw [HU.out, ← toList_eq, hue]; rfl
          rw [HR.out] at hR
          subst hR
          exact ⟨_, _, rfl, World.ownsRow_nil _ _ _ _, Below.refl _ _⟩
        · have hue1 : u.toList.isEmpty = false := by simpa using hue
          clear hue
          go_enter Tryz.func84, Tryz.ntmps84
          go_wp2_with (first | (go_at_call 96; refine (indexOf_any _ 43 _ (by unfold maxLen; omega)).mono ?_; rintro e w' ⟨rfl, rfl⟩) | (go_at_call 49; refine (cut_any _ _ (by unfold lim; first | assumption | (simp; omega))).mono ?_; rintro e w1 ⟨A, c, rfl, hown, hb⟩))
          go_ret
          have hR := idents_split HU.out (ne_of_isEmpty hue1)
          rw [HR.out] at hR
          subst hR
          exact ⟨_, _, rfl, hown, hb⟩
      · have h45f : ((s[0].toNat : Int) == 45) = false := by simpa using h45
        clear h45
        have hu := idents_no45 HT.out h0 h45f
        have HU := Lib.hid hu
        clear hu
        go_enter Tryz.func84, Tryz.ntmps84
        go_wp2_with (first | (go_at_call 96; refine (indexOf_any _ 43 _ (by unfold maxLen; omega)).mono ?_; rintro e w' ⟨rfl, rfl⟩) | (go_at_call 49; refine (cut_any _ _ (by unfold lim; first | assumption | (simp; omega))).mono ?_; rintro e w1 ⟨A, c, rfl, hown, hb⟩))
        go_ret
        have hR := idents_split HU.out (ne_of_isEmpty he1)
        rw [HR.out] at hR
        subst hR
        exact ⟨_, _, rfl, hown, hb⟩
  | some k =>
    have hk : idxI 43 s.data.toList = (k : Int) := by simp [idxI, hi]
    have hks : k < s.size := by have := (Pl.idxOf_some hi).1; rw [len_list] at this; exact this
    obtain ⟨t, ht⟩ : ∃ t, s.extract 0 k = t := ⟨_, rfl⟩
    have HT : Hid (t.data.toList = Pl.beforePlus s.data.toList) := Lib.hid (by rw [Pl.beforePlus, hi, ← ht, Lib.extract_data]; simp)
    have hts : t.size ≤ 30000 := by rw [← ht, ByteArray.size_extract]; omega
    clear hi
    by_cases he : t.toList = []
    · have hR := idents_nil HT.out he
      go_enter Tryz.func84, Tryz.ntmps84
      go_wp2_with (first | (go_at_call 96; refine (indexOf_any _ 43 _ (by unfold maxLen; omega)).mono ?_; rintro e w' ⟨rfl, rfl⟩) | (go_at_call 49; refine (cut_any _ _ (by unfold lim; first | assumption | (simp; omega))).mono ?_; rintro e w1 ⟨A, c, rfl, hown, hb⟩))
      go_ret
      rw [HR.out] at hR
      subst hR
      exact ⟨_, _, rfl, World.ownsRow_nil _ _ _ _, Below.refl _ _⟩
    · have h0 : 0 < t.size := size_pos_of he
      have he1 : t.toList.isEmpty = false := by simpa using he
      clear he
      by_cases h45 : ((t[0].toNat : Int) == 45) = true
      · have hu := idents_45 HT.out h0 h45
        have HU := Lib.hid hu
        clear hu
        obtain ⟨u, hut⟩ : ∃ u, t.extract 1 t.size = u := ⟨_, rfl⟩
        have hus : u.size ≤ 30000 := by rw [← hut, ByteArray.size_extract]; omega
        rw [hut] at HU
        by_cases hue : u.toList = []
        · go_enter Tryz.func84, Tryz.ntmps84
          go_wp2_with (first | (go_at_call 96; refine (indexOf_any _ 43 _ (by unfold maxLen; omega)).mono ?_; rintro e w' ⟨rfl, rfl⟩) | (go_at_call 49; refine (cut_any _ _ (by unfold lim; first | assumption | (simp; omega))).mono ?_; rintro e w1 ⟨A, c, rfl, hown, hb⟩))
          go_ret
          have hR : Pl.idents s.data.toList = [] := by
            unfold Pl.idents
            rw [HU.out, ← toList_eq, hue]; rfl
          rw [HR.out] at hR
          subst hR
          exact ⟨_, _, rfl, World.ownsRow_nil _ _ _ _, Below.refl _ _⟩
        · have hue1 : u.toList.isEmpty = false := by simpa using hue
          clear hue
          go_enter Tryz.func84, Tryz.ntmps84
          go_wp2_with (first | (go_at_call 96; refine (indexOf_any _ 43 _ (by unfold maxLen; omega)).mono ?_; rintro e w' ⟨rfl, rfl⟩) | (go_at_call 49; refine (cut_any _ _ (by unfold lim; first | assumption | (simp; omega))).mono ?_; rintro e w1 ⟨A, c, rfl, hown, hb⟩))
          go_ret
          have hR := idents_split HU.out (ne_of_isEmpty hue1)
          rw [HR.out] at hR
          subst hR
          exact ⟨_, _, rfl, hown, hb⟩
      · have h45f : ((t[0].toNat : Int) == 45) = false := by simpa using h45
        clear h45
        have hu := idents_no45 HT.out h0 h45f
        have HU := Lib.hid hu
        clear hu
        go_enter Tryz.func84, Tryz.ntmps84
        go_wp2_with (first | (go_at_call 96; refine (indexOf_any _ 43 _ (by unfold maxLen; omega)).mono ?_; rintro e w' ⟨rfl, rfl⟩) | (go_at_call 49; refine (cut_any _ _ (by unfold lim; first | assumption | (simp; omega))).mono ?_; rintro e w1 ⟨A, c, rfl, hown, hb⟩))
        go_ret
        have hR := idents_split HU.out (ne_of_isEmpty he1)
        rw [HR.out] at hR
        subst hR
        exact ⟨_, _, rfl, hown, hb⟩
theorem Rd.str_at {w : World} {A : Option Addr} {ss : List Pl.Bytes} (h : Rd w 1 A ss.length (ss.map S)) {k : Nat} (hk : k < ss.length) :
    ∃ b o, A = some ⟨b, o, none⟩ ∧ w.cell? ⟨b, o + k, none⟩ = some (S ss[k]) := by
  obtain ⟨b, o, hA, hc⟩ := h.2 (by omega)
  exact ⟨b, o, hA, hc k _ (by simp [hk])⟩
theorem idKnown_eq (x : ByteArray) (h0 : 0 < x.size) : Pl.idKnown1 x.data.toList = !(decide (1 < x.size) && (((x[0].toNat : Int) == 45) || ((x[0].toNat : Int) == 43)) && Pl.allDig (x.extract 1 x.size).data.toList) := by
  have hd : x.data.toList.drop 1 = (x.extract 1 x.size).data.toList := by
    rw [list_cons x h0]; rfl
  have e (n : UInt8) : (x.data.toList[0]? == some n) = ((x[0].toNat : Int) == (n.toNat : Int)) := by
    rw [get_list x 0 h0, Bool.eq_iff_iff]
    simp only [Option.some_beq_some, beq_iff_eq]
    rw [← UInt8.toNat_inj]; omega
  unfold Pl.idKnown1
  rw [len_list, hd, e 45, e 43]
  rfl
theorem idKnown_short (x : ByteArray) (h : ¬ 1 < x.size) : Pl.idKnown1 x.data.toList = true := by
  unfold Pl.idKnown1
  rw [len_list]
  simp [h]
theorem idsKnown_bad {ss : List Pl.Bytes} {k : Nat} (h : k < ss.length) (hb : Pl.idKnown1 ss[k] = false) : Pl.idsKnown ss = false := by
  rw [Bool.eq_false_iff]
  intro ht
  rw [Pl.idsKnown, List.all_eq_true] at ht
  rw [ht _ (List.getElem_mem h)] at hb
  cases hb
theorem idsKnown_step {ss : List Pl.Bytes} {k : Nat} (h : k < ss.length) (ha : Pl.idsKnown (ss.take k) = true) (hb : Pl.idKnown1 ss[k] = true) : Pl.idsKnown (ss.take (k + 1)) = true := by
  unfold Pl.idsKnown at *
  rw [List.take_succ_eq_append_getElem h, List.all_append, ha]
  simp [hb]
set_option maxHeartbeats 2000000 in
theorem IdentifiersKnown_any (A : Option Addr) (c : Nat) (ss : List Pl.Bytes) (w : World) (hr : Rd w 1 A ss.length (ss.map S)) (hl : ss.length ≤ 40000) (hm : ∀ s ∈ ss, s.length ≤ 30000) :
    Calls Tryz.prog 83 #[.slice A ss.length c] w fun e w' => e = .returned (.bool (Pl.idsKnown ss)) ∧ w = w' := by
  have HM := Lib.hid hm
  clear hm
  go_enter Tryz.func83, Tryz.ntmps83
  go_wp2
  go_loop [3] (fun i => ∃ k : Nat, k ≤ ss.length ∧ i = .int .i64 k ∧ Pl.idsKnown (ss.take k) = true) (fun i => ss.length - (intOf i).toNat)
  case atStart => exact ⟨0, Nat.zero_le _, rfl, rfl⟩
  case round =>
    obtain ⟨k, hk, rfl, ha⟩ := hrel
    have HA := Lib.hid ha
    clear ha
    by_cases hlt : k < ss.length
    · obtain ⟨b, o, rfl, hc⟩ := hr.str_at hlt
      have hmk := HM.out ss[k] (List.getElem_mem hlt)
      obtain ⟨x, hx⟩ : ∃ x, (⟨ss[k].toArray⟩ : ByteArray) = x := ⟨_, rfl⟩
      have hxs : x.size ≤ 30000 := by rw [← hx]; exact hmk
      have hxd : x.data.toList = ss[k] := by rw [← hx]
      rw [S, hx] at hc
      have HX := Lib.hid hxd
      clear hx hxd
      by_cases h1 : 1 < x.size
      · have h0 : 0 < x.size := by omega
        have hke := idKnown_eq x h0
        obtain ⟨y, hy⟩ : ∃ y, x.extract 1 x.size = y := ⟨_, rfl⟩
        have hys : y.size ≤ 30000 := by rw [← hy, ByteArray.size_extract]; omega
        rw [hy] at hke
        have HK := Lib.hid hke
        clear hke
        have hi1 : (1 : Int) < (x.size : Int) := by omega
        by_cases h45 : ((x[0].toNat : Int) == 45) = true
        · by_cases hall : Pl.allDig y.data.toList = true
          · go_wp2_with (go_at_call 100; refine (allDigits_any _ _ (by unfold maxLen; omega)).mono ?_; rintro e w' ⟨rfl, rfl⟩)
            go_ret
            exact ⟨ret_bool (idsKnown_bad hlt (by rw [← HX.out]; rw [HK.out]; simp [*])).symm, rfl⟩
          · have hall1 : Pl.allDig y.data.toList = false := by simpa using hall
            clear hall
            go_wp2_with (go_at_call 100; refine (allDigits_any _ _ (by unfold maxLen; omega)).mono ?_; rintro e w' ⟨rfl, rfl⟩)
            go_round
            case rel => exact ⟨k + 1, by omega, by go_num, idsKnown_step hlt HA.out (by rw [← HX.out]; rw [HK.out]; simp [*])⟩
            case measure => simp [intOf]; omega
        · have h45f : ((x[0].toNat : Int) == 45) = false := by simpa using h45
          clear h45
          by_cases h43 : ((x[0].toNat : Int) == 43) = true
          · by_cases hall : Pl.allDig y.data.toList = true
            · go_wp2_with (go_at_call 100; refine (allDigits_any _ _ (by unfold maxLen; omega)).mono ?_; rintro e w' ⟨rfl, rfl⟩)
              go_ret
              exact ⟨ret_bool (idsKnown_bad hlt (by rw [← HX.out]; rw [HK.out]; simp [*])).symm, rfl⟩
            · have hall1 : Pl.allDig y.data.toList = false := by simpa using hall
              clear hall
              go_wp2_with (go_at_call 100; refine (allDigits_any _ _ (by unfold maxLen; omega)).mono ?_; rintro e w' ⟨rfl, rfl⟩)
              go_round
              case rel => exact ⟨k + 1, by omega, by go_num, idsKnown_step hlt HA.out (by rw [← HX.out]; rw [HK.out]; simp [*])⟩
              case measure => simp [intOf]; omega
          · have h43f : ((x[0].toNat : Int) == 43) = false := by simpa using h43
            clear h43
            go_wp2_with (go_at_call 100; refine (allDigits_any _ _ (by unfold maxLen; omega)).mono ?_; rintro e w' ⟨rfl, rfl⟩)
            go_round
            case rel => exact ⟨k + 1, by omega, by go_num, idsKnown_step hlt HA.out (by rw [← HX.out]; rw [HK.out]; simp [*])⟩
            case measure => simp [intOf]; omega
      · have hi1 : ¬ (1 : Int) < (x.size : Int) := by omega
        go_wp2_with (go_at_call 100; refine (allDigits_any _ _ (by unfold maxLen; omega)).mono ?_; rintro e w' ⟨rfl, rfl⟩)
        go_round
        case rel => exact ⟨k + 1, by omega, by go_num, idsKnown_step hlt HA.out (by rw [← HX.out]; exact idKnown_short x h1)⟩
        case measure => simp [intOf]; omega
    · go_wp2
      go_ret
      have : k = ss.length := by omega
      subst this
      refine ⟨ret_bool ?_, rfl⟩
      have h := HA.out
      rw [List.take_length] at h
      exact h.symm
def RdrAt (w : World) (g : Nat) (s : ByteArray) (i : Nat) : Prop := Blk w g 170 #[.string s, .int .i64 (i : Int), .int .i64 (-1)]
theorem RdrAt.touch {w : World} {g i : Nat} {s : ByteArray} (h : RdrAt w g s i) : RdrAt (w.setCell ⟨g, 2, none⟩ (.int .i64 (-1))) g s i := by
  have := Blk.set_ h 2 (.int .i64 (-1))
  simpa [RdrAt] using this
theorem RdrAt.move {w : World} {g i : Nat} {s : ByteArray} (h : RdrAt w g s i) (j : Nat) : RdrAt (w.setCell ⟨g, 1, none⟩ (.int .i64 (j : Int))) g s j := by
  have := Blk.set_ h 1 (.int .i64 (j : Int))
  simpa [RdrAt] using this
theorem RdrAt.drewN {w : World} {g i : Nat} {s : ByteArray} (h : RdrAt w g s i) (n : Nat) : RdrAt (w.drewN n) g s i := h
theorem grown_drewN (w : World) (n : Nat) (row : Option Nat) : w.grownBy (w.drewN n) row := ⟨rfl, rfl, rfl, Nat.le_refl _, fun _ _ _ => rfl⟩
theorem NewReader_any (s : ByteArray) (w : World) :
    Calls Tryz.prog 130 #[.string s] w fun e w' => e = .returned (.pointer (some ⟨w.heap.size, 0, none⟩)) ∧ w' = w.alloc (.cells #[.string s, .int .i64 0, .int .i64 (-1)] 170) := by
  go_enter Tryz.func130, Tryz.ntmps130
  go_wp2
  go_ret
  exact ⟨rfl, rfl⟩
theorem ReadByte_hit (g : Nat) (s : ByteArray) (i : Nat) (w : World) (hR : RdrAt w g s i) (hi : i < s.size) (hs : s.size ≤ 30000) :
    Calls Tryz.prog 322 #[.pointer (some ⟨g, 0, none⟩)] w fun e w' => e = .returned (.tuple #[.int .u8 (s[i].toNat : Int), .nilIface]) ∧ RdrAt w' g s (i + 1) ∧ w.grownBy w' (some g) := by
  have c0 := hR.cell 0
  have c1 := hR.cell 1
  have c2 := hR.cell 2
  have f0 := hR.frozen 0
  have f1 := hR.frozen 1
  have f2 := hR.frozen 2
  simp at c0 c1 c2
  have hiz : (i : Int) < (s.size : Int) := by omega
  go_enter Tryz.func322, Tryz.ntmps322
  go_wp2_with fail
  go_quiet (fail)
  generalize hnq : nq = n1
  go_wp2_with fail
  go_quiet (fail)
  go_wp2
  refine bodyPost_ret (v := .tuple #[.int .u8 (s[i].toNat : Int), .nilIface]) (by simp [results, Tryz.results322, go_sem]) rfl ⟨rfl, ?_, ?_⟩
  · have h1 := (hR.touch.drewN (n1 + nq)).move (i + 1)
    simpa using h1
  · exact ((grown_set _ _ _ _).trans (grown_drewN _ _ _)).trans (grown_set _ _ _ _)
theorem ReadByte_end (g : Nat) (s : ByteArray) (i : Nat) (w : World) (EV : Value) (hE : w.cell? ⟨4, 0, none⟩ = some EV) (hR : RdrAt w g s i) (hi : s.size ≤ i) (_hs : s.size ≤ 30000) (_hi2 : i ≤ 30000) (hg4 : g ≠ 4) :
    Calls Tryz.prog 322 #[.pointer (some ⟨g, 0, none⟩)] w fun e w' => e = .returned (.tuple #[.int .u8 0, EV]) ∧ RdrAt w' g s i ∧ w.grownBy w' (some g) := by
  have c0 := hR.cell 0
  have c1 := hR.cell 1
  have c2 := hR.cell 2
  have f0 := hR.frozen 0
  have f1 := hR.frozen 1
  have f2 := hR.frozen 2
  simp at c0 c1 c2
  have hiz : (s.size : Int) ≤ (i : Int) := by omega
  have hE2 : (w.setCell ⟨g, 2, none⟩ (.int .i64 (-1))).cell? ⟨4, 0, none⟩ = some EV := by
    rw [World.cell?_setCell_other _ _ _ _ (by intro e; injection e with e; exact hg4 e)]
    exact hE
  go_enter Tryz.func322, Tryz.ntmps322
  go_wp2_with fail
  go_quiet (fail)
  generalize hnq : nq = n1
  go_wp2_with fail
  go_quiet (fail)
  go_wp2
  refine bodyPost_ret (v := .tuple #[.int .u8 0, EV]) (by simp [results, Tryz.results322, go_sem]) rfl ⟨rfl, ?_, ?_⟩
  · exact (hR.touch.drewN _).drewN _
  · exact ((grown_set _ _ _ _).trans (grown_drewN _ _ _)).trans (grown_drewN _ _ _)
theorem UnreadByte_any (g : Nat) (s : ByteArray) (i : Nat) (w : World) (hR : RdrAt w g s (i + 1)) (hi : i ≤ 30000) :
    Calls Tryz.prog 323 #[.pointer (some ⟨g, 0, none⟩)] w fun e w' => e = .returned .nilIface ∧ RdrAt w' g s i ∧ w.grownBy w' (some g) := by
  have c0 := hR.cell 0
  have c1 := hR.cell 1
  have c2 := hR.cell 2
  have f0 := hR.frozen 0
  have f1 := hR.frozen 1
  have f2 := hR.frozen 2
  simp at c0 c1 c2
  go_enter Tryz.func323, Tryz.ntmps323
  go_wp2
  go_ret
  refine ⟨rfl, ?_, ?_⟩
  · exact hR.touch.move i
  · exact (grown_set _ _ _ _).trans (grown_set _ _ _ _)
end Go.Proofs.YtgfkdjmoflbmdaaGreatDoor
namespace Go.Proofs.YtgfkdjmoflbmdaaGreatDoor.Pl
theorem splitB_cons_ne {c d : UInt8} {l : Bytes} {p : Bytes} {ps : List Bytes} (h : splitB c l = p :: ps) (hd : d ≠ c) : splitB c (d :: l) = (d :: p) :: ps := by
  show (if d = c then [] :: splitB c l else match splitB c l with | [] => [[d]] | p :: ps => (d :: p) :: ps) = _
  rw [if_neg hd, h]
theorem splitB_cons_eq {c d : UInt8} {l : Bytes} (hd : d = c) : splitB c (d :: l) = [] :: splitB c l := by
  show (if d = c then [] :: splitB c l else match splitB c l with | [] => [[d]] | p :: ps => (d :: p) :: ps) = _
  rw [if_pos hd]
theorem splitB_snoc (c d : UInt8) : ∀ (l : Bytes) (ps : List Bytes) (p : Bytes), splitB c l = ps ++ [p] → splitB c (l ++ [d]) = if d = c then ps ++ [p, []] else ps ++ [p ++ [d]]
  | [], ps, p, h => by
    have h1 : [[]] = ps ++ [p] := h
    cases ps with
    | nil =>
      have hp : p = [] := by simpa using h1.symm
      subst hp
      show (if d = c then [] :: splitB c [] else match splitB c [] with | [] => [[d]] | p :: ps => (d :: p) :: ps) = _
      by_cases hd : d = c
      · rw [if_pos hd, if_pos hd]; rfl
      · rw [if_neg hd, if_neg hd]; rfl
    | cons q qs => simp at h1
  | x :: r, ps, p, h => by
    by_cases hx : x = c
    · rw [splitB_cons_eq hx] at h
      rw [List.cons_append, splitB_cons_eq hx]
      cases ps with
      | nil =>
        rw [List.nil_append] at h
        injection h with _ h2
        exact absurd h2 (splitB_ne c r)
      | cons q qs =>
        rw [List.cons_append] at h
        injection h with h1 h2
        subst h1
        rw [splitB_snoc c d r qs p h2]
        by_cases hd : d = c
        · rw [if_pos hd, if_pos hd]; rfl
        · rw [if_neg hd, if_neg hd]; rfl
    · obtain ⟨a, as', ha⟩ : ∃ a as', splitB c r = a :: as' := by
        cases hs : splitB c r with
        | nil => exact absurd hs (splitB_ne c r)
        | cons a as' => exact ⟨a, as', rfl⟩
      rw [splitB_cons_ne ha hx] at h
      rw [List.cons_append]
      cases ps with
      | nil =>
        rw [List.nil_append] at h
        injection h with h1 h2
        subst h1; subst h2
        have ih := splitB_snoc c d r [] a (by rw [ha]; rfl)
        by_cases hd : d = c
        · rw [if_pos hd] at ih ⊢
          rw [splitB_cons_ne ih hx]; rfl
        · rw [if_neg hd] at ih ⊢
          rw [splitB_cons_ne ih hx]; rfl
      | cons q qs =>
        rw [List.cons_append] at h
        injection h with h1 h2
        subst h1
        have ih := splitB_snoc c d r (a :: qs) p (by rw [ha, h2]; rfl)
        by_cases hd : d = c
        · rw [if_pos hd] at ih ⊢
          rw [splitB_cons_ne ih hx]; rfl
        · rw [if_neg hd] at ih ⊢
          rw [splitB_cons_ne ih hx]; rfl
def numsIn (ps : List Bytes) : List Nat := (ps.filter (fun p => !p.isEmpty)).map natOf
theorem numsIn_snoc (ps : List Bytes) (p : Bytes) : numsIn (ps ++ [p]) = if p = [] then numsIn ps else numsIn ps ++ [natOf p] := by
  by_cases h : p = []
  · rw [if_pos h]; simp [numsIn, h]
  · rw [if_neg h]; simp [numsIn, h]
theorem numsOf_eq (l : Bytes) : numsOf l = numsIn (splitB 46 (coreOf l)) := rfl
def le : Nat → Nat → List Nat
  | 0, _ => []
  | m + 1, n => n % 256 :: le m (n / 256)
theorem le_len : ∀ (m n : Nat), (le m n).length = m
  | 0, _ => rfl
  | m + 1, n => by simp [le, le_len m]
theorem le_lt : ∀ (m n : Nat), ∀ d ∈ le m n, d < 256
  | 0, _, d, h => by simp [le] at h
  | m + 1, n, d, h => by
    rcases List.mem_cons.1 h with h | h
    · subst h; exact Nat.mod_lt _ (by omega)
    · exact le_lt m _ d h
theorem le_val : ∀ (m n : Nat), n < 256 ^ m → val 256 (le m n) = n
  | 0, n, h => by have : n = 0 := by simpa using h
                  subst this; rfl
  | m + 1, n, h => by
    show n % 256 + 256 * val 256 (le m (n / 256)) = n
    rw [le_val m (n / 256) (by rw [Nat.pow_succ] at h; exact Nat.div_lt_of_lt_mul (by omega))]
    omega
theorem le_snoc : ∀ (m n : Nat), le (m + 1) n = le m n ++ [n / 256 ^ m % 256]
  | 0, n => by simp [le]
  | m + 1, n => by
    show n % 256 :: le (m + 1) (n / 256) = n % 256 :: le m (n / 256) ++ [n / 256 ^ (m + 1) % 256]
    rw [le_snoc m (n / 256), Nat.div_div_eq_div_mul, Nat.pow_succ, Nat.mul_comm 256]; rfl
def lew (ws : List Nat) : List Nat := ws.flatMap (le 8)
theorem lew_cons (d : Nat) (r : List Nat) : lew (d :: r) = le 8 d ++ lew r := rfl
theorem lew_snoc (r : List Nat) (d : Nat) : lew (r ++ [d]) = lew r ++ le 8 d := by simp [lew]
theorem lew_len (ws : List Nat) : (lew ws).length = 8 * ws.length := by
  induction ws with
  | nil => rfl
  | cons d r ih => rw [lew_cons, List.length_append, le_len, ih, List.length_cons]; omega
theorem lew_lt (ws : List Nat) : ∀ d ∈ lew ws, d < 256 := by
  intro d hd
  obtain ⟨x, _, hx⟩ := List.mem_flatMap.1 hd
  exact le_lt 8 x d hx
theorem lew_val (ws : List Nat) (h : ∀ d ∈ ws, d < 18446744073709551616) : val 256 (lew ws) = val 18446744073709551616 ws := by
  induction ws with
  | nil => rfl
  | cons d r ih =>
    rw [lew_cons, val_append, le_len, le_val 8 d (by have := h d (List.mem_cons_self ..); omega), ih fun x hx => h x (List.mem_cons_of_mem _ hx)]
    rfl
theorem mag_of_buf (L : List Nat) (i : Nat) (hL : ∀ d ∈ L, d < 256) (hi : i ≤ L.length) (hz : ∀ d ∈ L.reverse.take i, d = 0) (hs : i = L.length ∨ L.reverse[i]? ≠ some 0) :
    (L.reverse.drop i).map UInt8.ofNat = magOf (val 256 L) := by
  have hd : L.drop (L.length - i) = (L.reverse.take i).reverse := by
    rw [List.take_reverse]; simp
  have ht : L.take (L.length - i) = (L.reverse.drop i).reverse := by
    rw [List.drop_reverse]; simp
  have h := norm_digs 256 (by omega) L hL (L.length - i) (by omega) (by rw [hd]; intro d hd; exact hz d (List.mem_reverse.1 hd)) (by
    rcases hs with h | h
    · left; omega
    · by_cases h0 : L.length - i = 0
      · exact Or.inl h0
      · right
        intro e
        apply h
        rw [List.getElem?_reverse (by omega)]
        rw [← e]; congr 1; omega)
  rw [magOf, ← h, ht, List.reverse_reverse]
theorem byte_at (d j : Nat) : d / 256 ^ j / 256 = d / 256 ^ (j + 1) := by rw [Nat.div_div_eq_div_mul, Nat.pow_succ]
theorem val_take_drop (b : Nat) (l : List Nat) (k : Nat) (h : k ≤ l.length) : val b l = val b (l.take k) + b ^ k * val b (l.drop k) := by
  have := val_append b (l.take k) (l.drop k)
  rw [List.take_append_drop, List.length_take, Nat.min_eq_left h] at this
  exact this
theorem pow_words (k : Nat) : (256 : Nat) ^ (8 * k) = 18446744073709551616 ^ k := by rw [Nat.pow_mul]
theorem word_step (L ws : List Nat) (k r : Nat) (hk : ws.length = k) (hv : val 18446744073709551616 ws = val 256 (L.take (8 * k))) (hl : 8 * k ≤ L.length) :
    val 18446744073709551616 (ws ++ [val 256 ((L.drop (8 * k)).take r)]) = val 256 (L.take (8 * k + r)) := by
  rw [val_append, hv, hk, List.take_add, val_append, List.length_take, Nat.min_eq_left hl, pow_words]
  rfl
theorem word_lt (L : List Nat) (hL : ∀ d ∈ L, d < 256) (k r : Nat) (hr : r ≤ 8) : val 256 ((L.drop k).take r) < 18446744073709551616 := by
  have h1 := val_lt 256 ((L.drop k).take r) (fun d hd => hL d (List.mem_of_mem_drop (List.mem_of_mem_take hd)))
  have h2 : (256 : Nat) ^ ((L.drop k).take r).length ≤ 256 ^ 8 := Nat.pow_le_pow_right (by omega) (by rw [List.length_take]; omega)
  have h3 : (256 : Nat) ^ 8 = 18446744073709551616 := by decide
  omega
theorem byte_step (L : List Nat) (j : Nat) (hj : j < L.length) : val 256 (L.take (j + 1)) = val 256 (L.take j) + L[j] * 256 ^ j := by
  rw [List.take_succ_eq_append_getElem hj, val_append, List.length_take, Nat.min_eq_left (by omega), Nat.mul_comm (L[j])]
  show _ + 256 ^ j * (L[j] + 256 * 0) = _
  rw [Nat.mul_zero, Nat.add_zero]
def dec : Nat → Nat → List Nat
  | 0, _ => []
  | k + 1, n => dec k (n / 10) ++ [48 + n % 10]
theorem dec_succ (k n : Nat) : dec (k + 1) n = dec k (n / 10) ++ [48 + n % 10] := rfl
theorem dec_len : ∀ (k n : Nat), (dec k n).length = k
  | 0, _ => rfl
  | k + 1, n => by rw [dec_succ, List.length_append, dec_len k]; rfl
theorem dec_split : ∀ (d h n : Nat), dec (h + d) n = dec h (n / 10 ^ d) ++ dec d n
  | 0, h, n => by simp [dec]
  | d + 1, h, n => by
    rw [← Nat.add_assoc, dec_succ, dec_succ, dec_split d h (n / 10), Nat.div_div_eq_div_mul, Nat.mul_comm 10, ← Nat.pow_succ, List.append_assoc]
theorem dec_cons (k n : Nat) : dec (k + 1) n = (48 + n / 10 ^ k % 10) :: dec k n := by
  rw [Nat.add_comm k 1, dec_split k 1 n]
  rfl
theorem dec_mod : ∀ (d n : Nat), dec d (n % 10 ^ d) = dec d n
  | 0, _ => rfl
  | d + 1, n => by
    rw [dec_succ, dec_succ, Nat.pow_succ, Nat.mod_mul_left_div_self, Nat.mod_mul_left_mod, dec_mod d (n / 10)]
theorem dec_zero : ∀ (k : Nat), dec k 0 = List.replicate k 48
  | 0 => rfl
  | k + 1 => by rw [dec_succ, Nat.zero_div, dec_zero k, List.replicate_succ']
theorem dec_dig : ∀ (k n : Nat), ∀ d ∈ dec k n, 48 ≤ d ∧ d ≤ 57
  | 0, _, _, h => by simp [dec] at h
  | k + 1, n, d, h => by
    rw [dec_succ] at h
    rcases List.mem_append.1 h with h | h
    · exact dec_dig k _ d h
    · rw [List.mem_singleton] at h; omega
def strip0 (l : List Nat) : List Nat := l.dropWhile (· == 48)
def shown (n : Nat) : List Nat := if n < 10 then [48 + n] else shown (n / 10) ++ [48 + n % 10]
  termination_by n
  decreasing_by exact Nat.div_lt_self (by omega) (by omega)
theorem shown_low {n : Nat} (h : n < 10) : shown n = [48 + n] := by rw [shown, if_pos h]
theorem shown_high {n : Nat} (h : 10 ≤ n) : shown n = shown (n / 10) ++ [48 + n % 10] := by rw [shown, if_neg (by omega)]
theorem strip0_app {l m : List Nat} (h : strip0 l ≠ []) : strip0 (l ++ m) = strip0 l ++ m := by
  induction l with
  | nil => exact absurd rfl h
  | cons x l ih =>
    unfold strip0 at *
    by_cases hx : x = 48
    · subst hx
      simp only [List.cons_append, List.dropWhile_cons, beq_self_eq_true, if_true] at *
      exact ih h
    · have hb : (x == 48) = false := by rw [beq_eq_false_iff_ne]; exact hx
      simp [hb]
theorem strip0_rep (k : Nat) (m : List Nat) : strip0 (List.replicate k 48 ++ m) = strip0 m := by
  induction k with
  | zero => rfl
  | succ k ih =>
    unfold strip0 at *
    rw [List.replicate_succ, List.cons_append, List.dropWhile_cons]
    simp
theorem shown_ne (n : Nat) : shown n ≠ [] := by
  rcases Nat.lt_or_ge n 10 with h | h
  · rw [shown_low h]; simp
  · rw [shown_high h]; simp
theorem strip0_dec : ∀ (k n : Nat), 0 < n → n < 10 ^ k → strip0 (dec k n) = shown n
  | 0, n, h0, h => by simp at h; omega
  | k + 1, n, h0, h => by
    rw [dec_succ]
    rcases Nat.lt_or_ge n 10 with h1 | h1
    · rw [shown_low h1, Nat.div_eq_of_lt h1, dec_zero, strip0_rep, Nat.mod_eq_of_lt h1]
      unfold strip0
      have hb : (48 + n == 48) = false := by rw [beq_eq_false_iff_ne]; omega
      simp [hb]
    · have ih := strip0_dec k (n / 10) (by omega) (by rw [Nat.div_lt_iff_lt_mul (by omega), ← Nat.pow_succ]; exact h)
      rw [strip0_app (by rw [ih]; exact shown_ne _), ih, shown_high h1]
theorem shown_len : ∀ (k n : Nat), n < 10 ^ (k + 1) → (shown n).length ≤ k + 1
  | 0, n, h => by rw [shown_low (by simpa using h)]; simp
  | k + 1, n, h => by
    rcases Nat.lt_or_ge n 10 with h1 | h1
    · rw [shown_low h1]; simp
    · rw [shown_high h1, List.length_append]
      have := shown_len k (n / 10) (by rw [Nat.div_lt_iff_lt_mul (by omega), ← Nat.pow_succ]; exact h)
      simp; omega
def shownB (n : Nat) : Bytes := (shown n).map UInt8.ofNat
def keep1 (l : Bytes) : Bytes := if stripZ l = [] then [48] else stripZ l
theorem stripZ_snoc (l : Bytes) (c : UInt8) : stripZ (l ++ [c]) = if stripZ l = [] then stripZ [c] else stripZ l ++ [c] := by
  induction l with
  | nil => simp [stripZ]
  | cons x l ih =>
    by_cases hx : x = 48
    · simp only [List.cons_append, stripZ, hx, if_true]
      simpa [stripZ] using ih
    · simp [stripZ, hx]
theorem byte_dig {c : UInt8} (h : isDig c = true) : UInt8.ofNat (48 + (c.toNat - 48)) = c := by
  have := dig_val h
  rw [show 48 + (c.toNat - 48) = c.toNat from by omega]
  simp
theorem stripZ_nat : ∀ (l : Bytes), l.all isDig = true → (stripZ l = [] ↔ natOf l = 0)
  | [], _ => by simp [stripZ, natOf, natAcc]
  | c :: r, h => by
    simp only [List.all_cons, Bool.and_eq_true] at h
    have ih := stripZ_nat r h.2
    rw [natOf_cons]
    by_cases hc : c = 48
    · subst hc
      simp only [stripZ, if_true]
      rw [ih]
      simp
    · have hv := dig_val h.1
      have h48 : c.toNat ≠ 48 := fun e => hc (by apply UInt8.toNat_inj.1; simpa using e)
      have hp : 0 < (c.toNat - 48) * 10 ^ r.length := Nat.mul_pos (by omega) (Nat.pow_pos (by omega))
      simp only [stripZ, hc, if_false]
      constructor
      · intro h; cases h
      · intro h; omega
theorem shown_text (l : Bytes) (hl : l.all isDig = true) (h0 : l ≠ []) : shownB (natOf l) = keep1 l := by
  have key : ∀ (r : Bytes), r.reverse.all isDig = true → r ≠ [] → shownB (natOf r.reverse) = keep1 r.reverse := by
    intro r
    induction r with
    | nil => intro _ h; exact absurd rfl h
    | cons c r ih =>
      intro h _
      rw [List.reverse_cons] at h ⊢
      have h1 : r.reverse.all isDig = true := by
        rw [List.all_append, Bool.and_eq_true] at h; exact h.1
      have h2 : isDig c = true := by
        rw [List.all_append, Bool.and_eq_true] at h; simpa using h.2
      have hv := dig_val h2
      have hn : natOf (r.reverse ++ [c]) = natOf r.reverse * 10 + (c.toNat - 48) := natAcc_snoc 0 _ c
      rw [hn]
      unfold keep1
      rw [stripZ_snoc]
      by_cases hz : stripZ r.reverse = []
      · have hz0 := (stripZ_nat _ h1).1 hz
        rw [hz0, if_pos hz, Nat.zero_mul, Nat.zero_add]
        unfold shownB
        rw [shown_low (by omega)]
        simp only [List.map_cons, List.map_nil, byte_dig h2]
        by_cases hc : c = 48
        · simp [stripZ, hc]
        · simp [stripZ, hc]
      · have hp : 0 < natOf r.reverse := Nat.pos_of_ne_zero (fun e => hz ((stripZ_nat _ h1).2 e))
        have hr : r ≠ [] := by rintro rfl; exact hz rfl
        have ih := ih h1 hr
        unfold keep1 at ih
        rw [if_neg hz] at ih ⊢
        rw [if_neg (by simp)]
        unfold shownB at ih ⊢
        rw [shown_high (by omega), List.map_append, show (natOf r.reverse * 10 + (c.toNat - 48)) / 10 = natOf r.reverse from by omega, ih,
          show (natOf r.reverse * 10 + (c.toNat - 48)) % 10 = c.toNat - 48 from by omega]
        simp only [List.map_cons, List.map_nil, byte_dig h2]
  have := key l.reverse (by rw [List.reverse_reverse]; exact hl) (by simpa using h0)
  rwa [List.reverse_reverse] at this
end Go.Proofs.YtgfkdjmoflbmdaaGreatDoor.Pl
