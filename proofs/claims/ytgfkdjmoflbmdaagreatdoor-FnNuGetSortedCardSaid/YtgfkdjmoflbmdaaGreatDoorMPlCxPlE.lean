/- PLAIN: orders: turned round, and chained. Imports no program. PLAIN: texts of numbers with points between; identifiers with points between. Imports no program. PLAIN: small letters; versions as NuGet's page writes them. Imports no program. -/
import Derived.Test.YtgfkdjmoflbmdaaGreatDoorMPl8xPl9
import Derived.Test.YtgfkdjmoflbmdaaGreatDoorMPlA
namespace Go.Proofs.YtgfkdjmoflbmdaaGreatDoor.Pl

/-- the answers of an order: -1, 0, 1; turned round the other way; chained -/
structure Ord3 {α : Type} (f : α → α → Int) : Prop where
  three : ∀ a b, f a b = -1 ∨ f a b = 0 ∨ f a b = 1
  anti : ∀ a b, f a b = - f b a
  chain : ∀ a b c, f a b ≤ 0 → f b c ≤ 0 → f a c ≤ 0
section
variable {α β : Type} {f : α → α → Int} {g : β → β → Int}
theorem Ord3.self (h : Ord3 f) (a : α) : f a a = 0 := by have := h.anti a a; omega
theorem Ord3.pull (h : Ord3 f) (k : β → α) : Ord3 fun a b => f (k a) (k b) := ⟨fun _ _ => h.three _ _, fun _ _ => h.anti _ _, fun _ _ _ => h.chain _ _ _⟩
theorem Ord3.both (h : Ord3 f) {a b c : α} (h1 : f a b ≤ 0) (h2 : f b c ≤ 0) (h3 : f a c = 0) : f a b = 0 ∧ f b c = 0 := by
  have e : f c a ≤ 0 := by have := h.anti c a; omega
  have e1 := h.chain c a b e h1
  have e2 := h.chain b c a h2 e
  have a1 := h.anti b c
  have a2 := h.anti a b
  omega
theorem Ord3.lex_chain (h : Ord3 f) {a b c : α} {x y z : Int} (hg : f a b = 0 → f b c = 0 → x ≤ 0 → y ≤ 0 → z ≤ 0)
    (h1 : (if f a b ≠ 0 then f a b else x) ≤ 0) (h2 : (if f b c ≠ 0 then f b c else y) ≤ 0) : (if f a c ≠ 0 then f a c else z) ≤ 0 := by
  have k1 : f a b ≤ 0 := by split at h1 <;> omega
  have k2 : f b c ≤ 0 := by split at h2 <;> omega
  have k3 := h.chain a b c k1 k2
  by_cases e : f a c = 0
  · obtain ⟨e1, e2⟩ := h.both k1 k2 e
    rw [if_neg (by omega)] at h1 h2 ⊢
    exact hg e1 e2 h1 h2
  · rw [if_pos e]; exact k3
theorem Ord3.lex {g : α → α → Int} (h : Ord3 f) (k : Ord3 g) : Ord3 fun a b => if f a b ≠ 0 then f a b else g a b := by
  refine ⟨fun a b => ?_, fun a b => ?_, fun a b c => h.lex_chain fun _ _ => k.chain a b c⟩
  · show (if f a b ≠ 0 then f a b else g a b) = -1 ∨ (if f a b ≠ 0 then f a b else g a b) = 0 ∨ (if f a b ≠ 0 then f a b else g a b) = 1
    split
    · exact h.three a b
    · exact k.three a b
  · show (if f a b ≠ 0 then f a b else g a b) = - (if f b a ≠ 0 then f b a else g b a)
    have := h.anti a b
    by_cases e : f a b = 0
    · rw [if_neg (by omega), if_neg (by omega)]; exact k.anti a b
    · rw [if_pos (by omega), if_pos (by omega)]; exact this
end
theorem ordI_ord : Ord3 fun a b : Int => ordI a b := by
  refine ⟨fun a b => ?_, fun a b => ?_, fun a b c => ?_⟩ <;> simp only [ordI] <;> (repeat' split) <;> omega
theorem cmpN_ord : Ord3 cmpN := by
  refine ⟨fun a b => ?_, fun a b => ?_, fun a b c => ?_⟩ <;> simp only [cmpN] <;> (repeat' split) <;> omega
theorem less_irr : ∀ a : Bytes, less a a = false
  | [] => rfl
  | x :: r => by
    show (decide (x < x) || (x == x && less r r)) = false
    rw [less_irr r]; simp
theorem less_cons (x y : UInt8) (a b : Bytes) : less (x :: a) (y :: b) = (decide (x.toNat < y.toNat) || (decide (x.toNat = y.toNat) && less a b)) := by
  show (decide (x < y) || (x == y && less a b)) = _
  congr 1
  congr 1
  rw [Bool.eq_iff_iff]; simp [← UInt8.toNat_inj]
theorem less_nil (a : Bytes) : less a [] = false := by cases a <;> rfl
theorem less_trans : ∀ a b c : Bytes, less a b = true → less b c = true → less a c = true
  | a, b, [], _, h => by rw [less_nil] at h; cases h
  | a, [], _ :: _, h, _ => by rw [less_nil] at h; cases h
  | [], _ :: _, _ :: _, _, _ => rfl
  | x :: a, y :: b, z :: c, h1, h2 => by
    rw [less_cons] at h1 h2 ⊢
    simp only [Bool.or_eq_true, Bool.and_eq_true, decide_eq_true_eq] at h1 h2 ⊢
    rcases h1 with h1 | ⟨h1, k1⟩
    · rcases h2 with h2 | ⟨h2, _⟩
      · left; omega
      · left; omega
    · rcases h2 with h2 | ⟨h2, k2⟩
      · left; omega
      · right; exact ⟨by omega, less_trans a b c k1 k2⟩
theorem less_tri : ∀ a b : Bytes, less a b = true ∨ a = b ∨ less b a = true
  | [], [] => Or.inr (Or.inl rfl)
  | [], _ :: _ => Or.inl rfl
  | _ :: _, [] => Or.inr (Or.inr rfl)
  | x :: a, y :: b => by
    rw [less_cons, less_cons]
    simp only [Bool.or_eq_true, Bool.and_eq_true, decide_eq_true_eq]
    rcases Nat.lt_trichotomy x.toNat y.toNat with h | h | h
    · exact Or.inl (Or.inl h)
    · have hxy : x = y := UInt8.toNat_inj.1 h
      subst hxy
      rcases less_tri a b with k | k | k
      · exact Or.inl (Or.inr ⟨rfl, k⟩)
      · exact Or.inr (Or.inl (by rw [k]))
      · exact Or.inr (Or.inr (Or.inr ⟨rfl, k⟩))
    · exact Or.inr (Or.inr (Or.inl h))
theorem ordB_lt {a b : Bytes} (h : less a b = true) : ordB a b = -1 := by rw [ordB, if_pos h]
theorem ordB_eq (a : Bytes) : ordB a a = 0 := by rw [ordB, less_irr, if_neg (by decide), if_neg (by decide)]
theorem ordB_gt {a b : Bytes} (h : less b a = true) : ordB a b = 1 := by
  have hn : less a b = false := by
    cases e : less a b with
    | false => rfl
    | true => have := less_trans a b a e h; rw [less_irr] at this; cases this
  rw [ordB, hn, if_neg (by decide), if_pos h]
theorem ordB_ord : Ord3 ordB := by
  refine ⟨fun a b => ?_, fun a b => ?_, fun a b c h1 h2 => ?_⟩
  · rcases less_tri a b with h | h | h
    · exact Or.inl (ordB_lt h)
    · subst h; exact Or.inr (Or.inl (ordB_eq a))
    · exact Or.inr (Or.inr (ordB_gt h))
  · rcases less_tri a b with h | h | h
    · rw [ordB_lt h, ordB_gt h]
    · subst h; rw [ordB_eq]; rfl
    · rw [ordB_lt h, ordB_gt h]; rfl
  · rcases less_tri a b with h | h | h
    · rcases less_tri b c with k | k | k
      · rw [ordB_lt (less_trans a b c h k)]; omega
      · subst k; exact h1
      · rw [ordB_gt k] at h2; omega
    · subst h; exact h2
    · rw [ordB_gt h] at h1; omega
theorem all_of_allDig {a : Bytes} (h : allDig a = true) : a.all isDig = true := by rw [allDig, Bool.and_eq_true] at h; exact h.1
theorem idOne_dd {a b : Bytes} (ha : allDig a = true) (hb : allDig b = true) : idOne a b = cmpN (natOf a) (natOf b) := by
  rw [idOne, if_pos ha, if_pos hb, ordNum_nat a b (all_of_allDig ha) (all_of_allDig hb)]
theorem idOne_dt {a b : Bytes} (ha : allDig a = true) (hb : allDig b = false) : idOne a b = -1 := by rw [idOne, if_pos ha, if_neg (by rw [hb]; decide)]
theorem idOne_td {a b : Bytes} (ha : allDig a = false) (hb : allDig b = true) : idOne a b = 1 := by rw [idOne, if_neg (by rw [ha]; decide), if_pos hb]
theorem idOne_ww {a b : Bytes} (ha : allDig a = false) (hb : allDig b = false) : idOne a b = ordB a b := by rw [idOne, if_neg (by rw [ha]; decide), if_neg (by rw [hb]; decide)]
theorem idOne_ord : Ord3 idOne := by
  refine ⟨fun a b => ?_, fun a b => ?_, fun a b c h1 h2 => ?_⟩
  · cases ha : allDig a <;> cases hb : allDig b
    · rw [idOne_ww ha hb]; exact ordB_ord.three a b
    · rw [idOne_td ha hb]; omega
    · rw [idOne_dt ha hb]; omega
    · rw [idOne_dd ha hb]; exact cmpN_ord.three _ _
  · cases ha : allDig a <;> cases hb : allDig b
    · rw [idOne_ww ha hb, idOne_ww hb ha]; exact ordB_ord.anti a b
    · rw [idOne_td ha hb, idOne_dt hb ha]; rfl
    · rw [idOne_dt ha hb, idOne_td hb ha]
    · rw [idOne_dd ha hb, idOne_dd hb ha]; exact cmpN_ord.anti _ _
  · cases ha : allDig a <;> cases hb : allDig b <;> cases hc : allDig c
    · rw [idOne_ww ha hb] at h1; rw [idOne_ww hb hc] at h2; rw [idOne_ww ha hc]; exact ordB_ord.chain a b c h1 h2
    · rw [idOne_td hb hc] at h2; omega
    · rw [idOne_td ha hb] at h1; omega
    · rw [idOne_td ha hb] at h1; omega
    · rw [idOne_dt ha hc]; omega
    · rw [idOne_td hb hc] at h2; omega
    · rw [idOne_dt ha hc]; omega
    · rw [idOne_dd ha hb] at h1; rw [idOne_dd hb hc] at h2; rw [idOne_dd ha hc]; exact cmpN_ord.chain _ _ _ h1 h2
theorem ordI_len (n : Nat) : ordI 0 ((n + 1 : Nat) : Int) = -1 ∧ ordI ((n + 1 : Nat) : Int) 0 = 1 := by
  constructor
  · rw [ordI, if_pos (by omega)]
  · rw [ordI, if_neg (by omega), if_pos (by omega)]
theorem identsCmp_nc (b : Bytes) (y : List Bytes) : identsCmp [] (b :: y) = -1 := (ordI_len y.length).1
theorem identsCmp_cn (a : Bytes) (x : List Bytes) : identsCmp (a :: x) [] = 1 := (ordI_len x.length).2
theorem identsCmp_nn : identsCmp [] [] = 0 := rfl
theorem identsCmp_cc (a b : Bytes) (x y : List Bytes) : identsCmp (a :: x) (b :: y) = if idOne a b ≠ 0 then idOne a b else identsCmp x y := rfl
theorem identsCmp_three : ∀ x y : List Bytes, identsCmp x y = -1 ∨ identsCmp x y = 0 ∨ identsCmp x y = 1
  | [], [] => Or.inr (Or.inl rfl)
  | [], b :: y => Or.inl (identsCmp_nc b y)
  | a :: x, [] => Or.inr (Or.inr (identsCmp_cn a x))
  | a :: x, b :: y => by
    rw [identsCmp_cc]
    split
    · exact idOne_ord.three a b
    · exact identsCmp_three x y
theorem identsCmp_anti : ∀ x y : List Bytes, identsCmp x y = - identsCmp y x
  | [], [] => rfl
  | [], b :: y => by rw [identsCmp_nc, identsCmp_cn]
  | a :: x, [] => by rw [identsCmp_nc, identsCmp_cn]; rfl
  | a :: x, b :: y => by
    rw [identsCmp_cc, identsCmp_cc]
    have h := idOne_ord.anti a b
    by_cases e : idOne a b = 0
    · rw [if_neg (by omega), if_neg (by omega)]; exact identsCmp_anti x y
    · rw [if_pos (by omega), if_pos (by omega)]; exact h
theorem identsCmp_chain : ∀ x y z : List Bytes, identsCmp x y ≤ 0 → identsCmp y z ≤ 0 → identsCmp x z ≤ 0
  | [], _, [], _, _ => by rw [identsCmp_nn]; omega
  | [], _, c :: z, _, _ => by rw [identsCmp_nc]; omega
  | a :: x, [], _, h, _ => by rw [identsCmp_cn] at h; omega
  | _ :: _, b :: y, [], _, h => by rw [identsCmp_cn] at h; omega
  | a :: x, b :: y, c :: z, h1, h2 => by
    rw [identsCmp_cc] at h1 h2 ⊢
    exact idOne_ord.lex_chain (fun _ _ k1 k2 => identsCmp_chain x y z k1 k2) h1 h2
theorem identsCmp_ord : Ord3 identsCmp := ⟨identsCmp_three, identsCmp_anti, identsCmp_chain⟩
theorem builds_lex (a b : Bytes) : builds a b = if ordI (min ((idents b).length : Int) 1) (min ((idents a).length : Int) 1) ≠ 0 then ordI (min ((idents b).length : Int) 1) (min ((idents a).length : Int) 1) else identsCmp (idents a) (idents b) := by
  unfold builds
  by_cases h : (idents a).length = 0 ∨ (idents b).length = 0
  · rw [if_pos h]
    by_cases e : ordI (min ((idents b).length : Int) 1) (min ((idents a).length : Int) 1) = 0
    · rw [if_neg (by omega), e]
      have h2 : (idents a).length = 0 ∧ (idents b).length = 0 := by
        unfold ordI at e
        split at e
        · omega
        · split at e
          · omega
          · omega
      rw [List.eq_nil_of_length_eq_zero h2.1, List.eq_nil_of_length_eq_zero h2.2]; rfl
    · rw [if_pos e]
  · rw [if_neg h]
    have e : ordI (min ((idents b).length : Int) 1) (min ((idents a).length : Int) 1) = 0 := by
      unfold ordI
      rw [if_neg (by omega), if_neg (by omega)]
    rw [if_neg (by omega)]
theorem builds_ord : Ord3 builds := by
  have h1 : Ord3 fun a b : Bytes => ordI (min ((idents b).length : Int) 1) (min ((idents a).length : Int) 1) := by
    refine ⟨fun a b => ordI_ord.three _ _, fun a b => ordI_ord.anti _ _, fun a b c h1 h2 => ?_⟩
    have h1' : ordI (min ((idents b).length : Int) 1) (min ((idents a).length : Int) 1) ≤ 0 := h1
    have h2' : ordI (min ((idents c).length : Int) 1) (min ((idents b).length : Int) 1) ≤ 0 := h2
    exact ordI_ord.chain _ _ _ h2' h1'
  have h := h1.lex (identsCmp_ord.pull idents)
  have e : builds = fun a b => if ordI (min ((idents b).length : Int) 1) (min ((idents a).length : Int) 1) ≠ 0 then ordI (min ((idents b).length : Int) 1) (min ((idents a).length : Int) 1) else identsCmp (idents a) (idents b) := by
    funext a b; exact builds_lex a b
  rw [e]; exact h
theorem cmpNums_ht (a b : List Nat) : cmpNums a b = if cmpN (a.headD 0) (b.headD 0) ≠ 0 then cmpN (a.headD 0) (b.headD 0) else cmpNums a.tail b.tail := by
  cases a with
  | nil =>
    cases b with
    | nil => simp [cmpNums, cmpN]
    | cons y b => simp [cmpNums]
  | cons x a =>
    cases b with
    | nil => simp [cmpNums]
    | cons y b => simp [cmpNums]
theorem cmpNums_nil : cmpNums [] [] = 0 := by simp [cmpNums]
theorem cmpNums_all (n : Nat) : ∀ a b c : List Nat, a.length ≤ n → b.length ≤ n → c.length ≤ n →
    (cmpNums a b = -1 ∨ cmpNums a b = 0 ∨ cmpNums a b = 1) ∧ cmpNums a b = - cmpNums b a ∧ (cmpNums a b ≤ 0 → cmpNums b c ≤ 0 → cmpNums a c ≤ 0) := by
  induction n with
  | zero =>
    intro a b c ha hb hc
    rw [List.eq_nil_of_length_eq_zero (Nat.le_zero.1 ha), List.eq_nil_of_length_eq_zero (Nat.le_zero.1 hb), List.eq_nil_of_length_eq_zero (Nat.le_zero.1 hc), cmpNums_nil]
    omega
  | succ n ih =>
    intro a b c ha hb hc
    have hl : ∀ l : List Nat, l.length ≤ n + 1 → l.tail.length ≤ n := fun l h => by rw [List.length_tail]; omega
    obtain ⟨i1, i2, i3⟩ := ih a.tail b.tail c.tail (hl a ha) (hl b hb) (hl c hc)
    refine ⟨?_, ?_, ?_⟩
    · rw [cmpNums_ht]
      split
      · exact cmpN_ord.three _ _
      · exact i1
    · rw [cmpNums_ht a b, cmpNums_ht b a]
      have h := cmpN_ord.anti (a.headD 0) (b.headD 0)
      by_cases e : cmpN (a.headD 0) (b.headD 0) = 0
      · rw [if_neg (by omega), if_neg (by omega)]; exact i2
      · rw [if_pos (by omega), if_pos (by omega)]; exact h
    · intro h1 h2
      rw [cmpNums_ht] at h1 h2 ⊢
      exact cmpN_ord.lex_chain (fun _ _ k1 k2 => i3 k1 k2) h1 h2
theorem cmpNums_ord : Ord3 cmpNums := by
  have hb : ∀ a b c : List Nat, a.length ≤ a.length + b.length + c.length ∧ b.length ≤ a.length + b.length + c.length ∧ c.length ≤ a.length + b.length + c.length := fun a b c => by omega
  refine ⟨fun a b => ?_, fun a b => ?_, fun a b c => ?_⟩
  · exact (cmpNums_all _ a b [] (hb a b []).1 (hb a b []).2.1 (hb a b []).2.2).1
  · exact (cmpNums_all _ a b [] (hb a b []).1 (hb a b []).2.1 (hb a b []).2.2).2.1
  · exact (cmpNums_all _ a b c (hb a b c).1 (hb a b c).2.1 (hb a b c).2.2).2.2
/-- laws.chained -/
def chainedB (x y z : Int) : Bool :=
  !(decide (x ≤ 0) && decide (y ≤ 0) && (decide (0 < z) || ((z == 0) != (x == 0 && y == 0)))) && !(decide (0 ≤ x) && decide (0 ≤ y) && (decide (z < 0) || ((z == 0) != (x == 0 && y == 0))))
theorem Ord3.chained {α : Type} {f : α → α → Int} (h : Ord3 f) (a b c : α) : (f a b ≤ 0 → f b c ≤ 0 → f a c ≤ 0 ∧ (f a c = 0 ↔ f a b = 0 ∧ f b c = 0)) ∧ (0 ≤ f a b → 0 ≤ f b c → 0 ≤ f a c ∧ (f a c = 0 ↔ f a b = 0 ∧ f b c = 0)) := by
  have a1 := h.anti a b
  have a2 := h.anti b c
  have a3 := h.anti a c
  constructor
  · intro h1 h2
    refine ⟨h.chain a b c h1 h2, fun e => h.both h1 h2 e, fun ⟨e1, e2⟩ => ?_⟩
    have k1 := h.chain a b c (by omega) (by omega)
    have k2 := h.chain c b a (by omega) (by omega)
    omega
  · intro h1 h2
    have k := h.chain c b a (by omega) (by omega)
    refine ⟨by omega, fun e => ?_, fun ⟨e1, e2⟩ => ?_⟩
    · have := h.both (a := c) (b := b) (c := a) (by omega) (by omega) (by omega)
      omega
    · have k1 := h.chain a b c (by omega) (by omega)
      omega
end Go.Proofs.YtgfkdjmoflbmdaaGreatDoor.Pl

namespace Go.Proofs.YtgfkdjmoflbmdaaGreatDoor.Pl

/-- laws.numbered, byte by byte: how many numbers, is one open -/
def numScan : Bytes → Nat → Bool → Option (Nat × Bool)
  | [], n, o => some (n, o)
  | c :: r, n, o => if isDig c = true then numScan r n false else if c = 46 ∧ o = false then numScan r (n + 1) true else none
def numberedB (s : Bytes) (most : Nat) : Bool := match numScan s 1 true with
  | none => false
  | some (n, o) => !o && decide (n ≤ most)
def wordB (c : UInt8) : Bool := isDig c || (decide (97 ≤ c.toNat) && decide (c.toNat ≤ 122)) || (decide (65 ≤ c.toNat) && decide (c.toNat ≤ 90))
/-- laws.dotted, byte by byte -/
def dotScan : Bytes → Bool → Option Bool
  | [], o => some o
  | c :: r, o => if wordB c = true then dotScan r false else if c = 46 ∧ o = false then dotScan r true else none
def dottedB (s : Bytes) : Bool := match dotScan s true with
  | none => false
  | some o => !o
theorem numScan_snoc (c : UInt8) : ∀ (l : Bytes) (n : Nat) (o : Bool), numScan (l ++ [c]) n o = match numScan l n o with
    | none => none
    | some (m, p) => if isDig c = true then some (m, false) else if c = 46 ∧ p = false then some (m + 1, true) else none
  | [], n, o => rfl
  | d :: r, n, o => by
    show (if isDig d = true then numScan (r ++ [c]) n false else if d = 46 ∧ o = false then numScan (r ++ [c]) (n + 1) true else none) = _
    rw [numScan_snoc c r, numScan_snoc c r]
    conv => rhs; unfold numScan
    split
    · rfl
    · split
      · rfl
      · rfl
theorem numScan_bad (r : Bytes) : ∀ (l : Bytes) (n : Nat) (o : Bool), numScan l n o = none → numScan (l ++ r) n o = none
  | [], n, o, h => by cases h
  | d :: l, n, o, h => by
    show (if isDig d = true then numScan (l ++ r) n false else if d = 46 ∧ o = false then numScan (l ++ r) (n + 1) true else none) = none
    unfold numScan at h
    split at h
    · rename_i h1; rw [if_pos h1]; exact numScan_bad r l _ _ h
    · rename_i h1; rw [if_neg h1]
      split at h
      · rename_i h2; rw [if_pos h2]; exact numScan_bad r l _ _ h
      · rename_i h2; rw [if_neg h2]
theorem numScan_take {s : Bytes} {k n : Nat} {o : Bool} {c : UInt8} (h : numScan (s.take k) 1 true = some (n, o)) (hc : s[k]? = some c) :
    numScan (s.take (k + 1)) 1 true = if isDig c = true then some (n, false) else if c = 46 ∧ o = false then some (n + 1, true) else none := by
  rw [take_at hc, numScan_snoc, h]
theorem numberedB_bad {s : Bytes} {k n : Nat} {o : Bool} {c : UInt8} (most : Nat) (h : numScan (s.take k) 1 true = some (n, o)) (hc : s[k]? = some c) (hd : isDig c = false) (hp : ¬ (c = 46 ∧ o = false)) : numberedB s most = false := by
  have h1 := numScan_take h hc
  rw [if_neg (by rw [hd]; decide), if_neg hp] at h1
  have h2 := numScan_bad (s.drop (k + 1)) _ _ _ h1
  rw [List.take_append_drop] at h2
  rw [numberedB, h2]
theorem numberedB_end {s : Bytes} {n : Nat} {o : Bool} (most : Nat) (h : numScan (s.take s.length) 1 true = some (n, o)) : numberedB s most = (!o && decide (n ≤ most)) := by
  rw [List.take_length] at h
  rw [numberedB, h]
theorem numScan_n : ∀ (l : Bytes) (n m : Nat) (o p : Bool), numScan l n o = some (m, p) → m ≤ n + l.length
  | [], n, m, o, p, h => by injection h with h; injection h with h _; omega
  | d :: l, n, m, o, p, h => by
    unfold numScan at h
    split at h
    · have := numScan_n l _ _ _ _ h; simp; omega
    · split at h
      · have := numScan_n l _ _ _ _ h; simp; omega
      · cases h
theorem dotScan_snoc (c : UInt8) : ∀ (l : Bytes) (o : Bool), dotScan (l ++ [c]) o = match dotScan l o with
    | none => none
    | some p => if wordB c = true then some false else if c = 46 ∧ p = false then some true else none
  | [], o => rfl
  | d :: r, o => by
    show (if wordB d = true then dotScan (r ++ [c]) false else if d = 46 ∧ o = false then dotScan (r ++ [c]) true else none) = _
    rw [dotScan_snoc c r, dotScan_snoc c r]
    conv => rhs; unfold dotScan
    split
    · rfl
    · split
      · rfl
      · rfl
theorem dotScan_bad (r : Bytes) : ∀ (l : Bytes) (o : Bool), dotScan l o = none → dotScan (l ++ r) o = none
  | [], o, h => by cases h
  | d :: l, o, h => by
    show (if wordB d = true then dotScan (l ++ r) false else if d = 46 ∧ o = false then dotScan (l ++ r) true else none) = none
    unfold dotScan at h
    split at h
    · rename_i h1; rw [if_pos h1]; exact dotScan_bad r l _ h
    · rename_i h1; rw [if_neg h1]
      split at h
      · rename_i h2; rw [if_pos h2]; exact dotScan_bad r l _ h
      · rename_i h2; rw [if_neg h2]
theorem dotScan_take {s : Bytes} {k : Nat} {o : Bool} {c : UInt8} (h : dotScan (s.take k) true = some o) (hc : s[k]? = some c) :
    dotScan (s.take (k + 1)) true = if wordB c = true then some false else if c = 46 ∧ o = false then some true else none := by
  rw [take_at hc, dotScan_snoc, h]
theorem dottedB_bad {s : Bytes} {k : Nat} {o : Bool} {c : UInt8} (h : dotScan (s.take k) true = some o) (hc : s[k]? = some c) (hd : wordB c = false) (hp : ¬ (c = 46 ∧ o = false)) : dottedB s = false := by
  have h1 := dotScan_take h hc
  rw [if_neg (by rw [hd]; decide), if_neg hp] at h1
  have h2 := dotScan_bad (s.drop (k + 1)) _ _ h1
  rw [List.take_append_drop] at h2
  rw [dottedB, h2]
theorem dottedB_end {s : Bytes} {o : Bool} (h : dotScan (s.take s.length) true = some o) : dottedB s = !o := by
  rw [List.take_length] at h
  rw [dottedB, h]

/-- what the scan of numbers says of the pieces -/
theorem numScan_says : ∀ (l : Bytes) (n m : Nat) (o p : Bool), numScan l n o = some (m, p) →
    l.all coreB = true ∧ (splitB 46 l).length + n = m + 1 ∧ (p = false → o = false ∨ l ≠ []) ∧ (p = false → (o = false ∧ l = []) ∨ ∃ q qs, splitB 46 l = qs ++ [q] ∧ (q ≠ [] ∨ (qs = [] ∧ o = false)))
  | [], n, m, o, p, h => by
    injection h with h; injection h with h1 h2
    subst h1; subst h2
    exact ⟨rfl, by simp [splitB]; omega, fun h => Or.inl h, fun h => Or.inl ⟨h, rfl⟩⟩
  | c :: l, n, m, o, p, h => by
    unfold numScan at h
    split at h
    · rename_i hd
      obtain ⟨i1, i2, i3, i4⟩ := numScan_says l _ _ _ _ h
      have hne : c ≠ 46 := by rintro rfl; exact absurd hd (by decide)
      obtain ⟨a, as', ha⟩ : ∃ a as', splitB 46 l = a :: as' := by
        cases hs : splitB 46 l with
        | nil => exact absurd hs (splitB_ne 46 l)
        | cons a as' => exact ⟨a, as', rfl⟩
      have hs := splitB_cons_ne ha hne
      refine ⟨by rw [List.all_cons, i1]; simp [coreB, hd], ?_, fun _ => Or.inr (by simp), fun hp => Or.inr ?_⟩
      · rw [hs]; rw [ha] at i2; simp at i2 ⊢; omega
      · rw [hs]
        cases as' with
        | nil => exact ⟨c :: a, [], rfl, Or.inl (by simp)⟩
        | cons b bs =>
          rcases i4 hp with ⟨_, hl⟩ | ⟨q, qs, hq, hq2⟩
          · subst hl; simp [splitB] at ha
          · rw [ha] at hq
            cases qs with
            | nil => simp at hq
            | cons x xs =>
              rw [List.cons_append] at hq
              injection hq with hq1 hq3
              refine ⟨q, (c :: a) :: xs, by rw [hq3]; rfl, Or.inl ?_⟩
              rcases hq2 with hq2 | ⟨hq2, _⟩
              · exact hq2
              · cases hq2
    · rename_i hd
      split at h
      · rename_i h46
        obtain ⟨hc, ho⟩ := h46
        subst hc
        obtain ⟨i1, i2, i3, i4⟩ := numScan_says l _ _ _ _ h
        have hs := splitB_cons_eq (c := 46) (d := 46) (l := l) rfl
        refine ⟨by rw [List.all_cons, i1]; rfl, ?_, fun _ => Or.inr (by simp), fun hp => Or.inr ?_⟩
        · rw [hs]; simp; omega
        · rw [hs]
          rcases i4 hp with ⟨h1, _⟩ | ⟨q, qs, hq, hq2⟩
          · cases h1
          · refine ⟨q, [] :: qs, by rw [hq]; rfl, Or.inl ?_⟩
            rcases hq2 with hq2 | ⟨_, hq2⟩
            · exact hq2
            · cases hq2
      · cases h
/-- a text of numbers: digits and points alone, the first byte a digit, the last number not empty -/
theorem numbered_says {s : Bytes} {most : Nat} (h : numberedB s most = true) :
    s.all coreB = true ∧ (splitB 46 s).length ≤ most ∧ (∃ c r, s = c :: r ∧ isDig c = true) ∧ ∃ q qs, splitB 46 s = qs ++ [q] ∧ q ≠ [] := by
  unfold numberedB at h
  cases hn : numScan s 1 true with
  | none => rw [hn] at h; cases h
  | some x =>
    obtain ⟨m, p⟩ := x
    rw [hn] at h
    have hp : p = false ∧ m ≤ most := by
      have h' : (!p && decide (m ≤ most)) = true := h
      cases p <;> simp_all
    obtain ⟨hp, hm⟩ := hp
    obtain ⟨h1, h2, h3, h4⟩ := numScan_says s _ _ _ _ hn
    refine ⟨h1, by omega, ?_, ?_⟩
    · cases s with
      | nil => injection hn with hn; injection hn with _ hn; rw [hp] at hn; cases hn
      | cons c r =>
        refine ⟨c, r, rfl, ?_⟩
        unfold numScan at hn
        cases hd : isDig c with
        | true => rfl
        | false => rw [hd, if_neg (by decide), if_neg (by simp)] at hn; cases hn
    · rcases h4 hp with ⟨h5, _⟩ | ⟨q, qs, hq, h5 | ⟨_, h5⟩⟩
      · cases h5
      · exact ⟨q, qs, hq, h5⟩
      · cases h5
/-- numbers, and something behind them that neither a digit nor a point begins -/
theorem numbered_parts {s t : Bytes} {most : Nat} (h : numberedB s most = true) (ht : t = [] ∨ ∃ c r, t = c :: r ∧ coreB c = false) :
    numsOf (s ++ t) = numsIn (splitB 46 s) ∧ buildOf (s ++ t) = t ∧ startsV (s ++ t) = false := by
  obtain ⟨h1, _, ⟨c, r, hs, hd⟩, _⟩ := numbered_says h
  have hne : c ≠ 118 := by rintro rfl; exact absurd hd (by decide)
  have hr : restV (s ++ t) = s ++ t := by
    rw [hs, List.cons_append, restV, if_neg hne]
  have hw := while_at (p := coreB) (s ++ t) s.length (by rw [List.take_left]; exact h1) (by
    rcases ht with ht | ⟨d, r', ht, hd'⟩
    · left; rw [ht, List.append_nil]
    · right
      refine ⟨d, ?_, hd'⟩
      rw [ht, List.getElem?_append_right (Nat.le_refl _), Nat.sub_self]; rfl)
  rw [List.take_left, List.drop_left] at hw
  refine ⟨?_, ?_, ?_⟩
  · rw [numsOf_eq, coreOf, hr, hw.1]
  · rw [buildOf, hr, hw.2]
  · rw [startsV, hs]; simp [hne]
theorem numsIn_len (ps : List Bytes) : (numsIn ps).length ≤ ps.length := numsIn_le ps
theorem splitB_app (c : UInt8) (b : Bytes) : ∀ a : Bytes, splitB c (a ++ c :: b) = splitB c a ++ splitB c b
  | [] => splitB_cons_eq rfl
  | d :: r => by
    rw [List.cons_append]
    by_cases hd : d = c
    · rw [splitB_cons_eq hd, splitB_cons_eq hd, splitB_app c b r]; rfl
    · obtain ⟨a, as', ha⟩ : ∃ a as', splitB c r = a :: as' := by
        cases hs : splitB c r with
        | nil => exact absurd hs (splitB_ne c r)
        | cons a as' => exact ⟨a, as', rfl⟩
      have ih := splitB_app c b r
      rw [ha] at ih
      rw [splitB_cons_ne ha hd, splitB_cons_ne ih hd]; rfl
theorem numsIn_app (a b : List Bytes) : numsIn (a ++ b) = numsIn a ++ numsIn b := by simp [numsIn]
/-- two texts of numbers with a point between -/
theorem numbered_join {s t : Bytes} {m n : Nat} (h : numberedB s m = true) (k : numberedB t n = true) :
    numsOf (s ++ 46 :: t) = numsIn (splitB 46 s) ++ numsIn (splitB 46 t) ∧ buildOf (s ++ 46 :: t) = [] ∧ numsIn (splitB 46 t) ≠ [] := by
  obtain ⟨h1, _, ⟨c, r, hs, hd⟩, _⟩ := numbered_says h
  obtain ⟨k1, _, _, q, qs, hq, hq2⟩ := numbered_says k
  have hne : c ≠ 118 := by rintro rfl; exact absurd hd (by decide)
  have hr : restV (s ++ 46 :: t) = s ++ 46 :: t := by rw [hs, List.cons_append, restV, if_neg hne]
  have hall : (s ++ 46 :: t).all coreB = true := by rw [List.all_append, List.all_cons, h1, k1]; rfl
  have hw := while_at (p := coreB) (s ++ 46 :: t) (s ++ 46 :: t).length (by rw [List.take_length]; exact hall) (Or.inl rfl)
  rw [List.take_length, List.drop_length] at hw
  refine ⟨?_, ?_, ?_⟩
  · rw [numsOf_eq, coreOf, hr, hw.1, splitB_app, numsIn_app]
  · rw [buildOf, hr, hw.2]
  · rw [hq, numsIn_snoc, if_neg hq2]; simp
theorem cmpNums_longer : ∀ a b : List Nat, cmpNums (a ++ b) a = 0 ∨ cmpNums (a ++ b) a = 1
  | [], b => by
    rw [List.nil_append]
    induction b with
    | nil => exact Or.inl cmpNums_nil
    | cons x b ih =>
      rw [cmpNums_ht]
      show (if cmpN x 0 ≠ 0 then cmpN x 0 else cmpNums b []) = 0 ∨ (if cmpN x 0 ≠ 0 then cmpN x 0 else cmpNums b []) = 1
      by_cases hx : 0 < x
      · rw [cmpN_gt hx]; right; rfl
      · obtain rfl : x = 0 := by omega
        rw [cmpN_eq, if_neg (by omega)]; exact ih
  | x :: a, b => by
    rw [cmpNums_ht]
    show (if cmpN x x ≠ 0 then cmpN x x else cmpNums (a ++ b) a) = 0 ∨ (if cmpN x x ≠ 0 then cmpN x x else cmpNums (a ++ b) a) = 1
    rw [cmpN_self]
    simpa using cmpNums_longer a b

theorem dotScan_says : ∀ (l : Bytes) (o p : Bool), dotScan l o = some p → l.all (fun c => wordB c || c == 46) = true ∧ (o = true → p = false → ∃ c r, l = c :: r ∧ wordB c = true)
  | [], o, p, h => by injection h with h; subst h; exact ⟨rfl, fun h1 h2 => by rw [h1] at h2; cases h2⟩
  | c :: l, o, p, h => by
    unfold dotScan at h
    split at h
    · rename_i hd
      exact ⟨by rw [List.all_cons, (dotScan_says l _ _ h).1, hd]; rfl, fun _ _ => ⟨c, l, rfl, hd⟩⟩
    · split at h
      · rename_i h46
        obtain ⟨hc, ho⟩ := h46
        subst hc
        exact ⟨by rw [List.all_cons, (dotScan_says l _ _ h).1]; rfl, fun h1 => by rw [ho] at h1; cases h1⟩
      · cases h
theorem dotted_says {s : Bytes} (h : dottedB s = true) : s.all (fun c => wordB c || c == 46) = true ∧ s ≠ [] := by
  unfold dottedB at h
  cases hn : dotScan s true with
  | none => rw [hn] at h; cases h
  | some p =>
    rw [hn] at h
    have hp : p = false := by cases p <;> simp_all
    obtain ⟨h1, h2⟩ := dotScan_says s _ _ hn
    obtain ⟨c, r, hs, _⟩ := h2 rfl hp
    exact ⟨h1, by rw [hs]; simp⟩
theorem wordB_ascii {c : UInt8} (h : (wordB c || c == 46) = true) : c.toNat ≤ 127 ∧ c ≠ 45 ∧ c ≠ 43 := by
  refine ⟨?_, ?_, ?_⟩
  · simp only [wordB, isDig, Bool.or_eq_true, Bool.and_eq_true, decide_eq_true_eq, beq_iff_eq] at h
    rcases h with ((h | h) | h) | h
    · omega
    · omega
    · omega
    · subst h; decide
  · rintro rfl; exact absurd h (by decide)
  · rintro rfl; exact absurd h (by decide)
end Go.Proofs.YtgfkdjmoflbmdaaGreatDoor.Pl

namespace Go.Proofs.YtgfkdjmoflbmdaaGreatDoor.Pl

def lowB (c : UInt8) : UInt8 := if 65 ≤ c.toNat ∧ c.toNat ≤ 90 then c + 32 else c
def uppB (c : UInt8) : UInt8 := if 97 ≤ c.toNat ∧ c.toNat ≤ 122 then c - 32 else c
def lower (l : Bytes) : Bytes := l.map lowB
def upper (l : Bytes) : Bytes := l.map uppB
theorem lowB_nat (c : UInt8) : (lowB c).toNat = if 65 ≤ c.toNat ∧ c.toNat ≤ 90 then c.toNat + 32 else c.toNat := by
  unfold lowB
  split
  · rw [UInt8.toNat_add]; show (c.toNat + 32) % 256 = _; omega
  · rfl
theorem uppB_nat (c : UInt8) : (uppB c).toNat = if 97 ≤ c.toNat ∧ c.toNat ≤ 122 then c.toNat - 32 else c.toNat := by
  unfold uppB
  split
  · rename_i h
    rw [UInt8.toNat_sub_of_le _ _ (by rw [UInt8.le_iff_toNat_le]; show 32 ≤ c.toNat; omega)]; rfl
  · rfl
theorem lowB_upp (c : UInt8) : lowB (uppB c) = lowB c := by
  rw [← UInt8.toNat_inj, lowB_nat, lowB_nat, uppB_nat]
  repeat' split
  all_goals omega
theorem lower_upper (l : Bytes) : lower (upper l) = lower l := by
  rw [lower, upper, List.map_map]
  exact List.map_congr_left fun c _ => lowB_upp c
theorem lower_len (l : Bytes) : (lower l).length = l.length := List.length_map ..
theorem upper_len (l : Bytes) : (upper l).length = l.length := List.length_map ..
theorem lower_cons (c : UInt8) (r : Bytes) : lower (c :: r) = lowB c :: lower r := rfl
theorem lowB_dig (c : UInt8) : isDig (lowB c) = isDig c := by
  unfold isDig
  rw [lowB_nat, Bool.eq_iff_iff]
  simp only [Bool.and_eq_true, decide_eq_true_eq]
  split <;> omega
/-- a byte that is no letter stands for itself alone -/
theorem lowB_iff (k : UInt8) (hk : k.toNat < 65 ∨ 122 < k.toNat) (c : UInt8) : lowB c = k ↔ c = k := by
  rw [← UInt8.toNat_inj, ← UInt8.toNat_inj, lowB_nat]
  split <;> omega
theorem lowB_core (c : UInt8) : coreB (lowB c) = coreB c := by
  unfold coreB
  rw [lowB_dig]
  congr 1
  rw [Bool.eq_iff_iff, beq_iff_eq, beq_iff_eq]
  exact lowB_iff 46 (by decide) c
theorem lowB_id {c : UInt8} (h : coreB c = true) : lowB c = c := by
  rw [← UInt8.toNat_inj, lowB_nat]
  unfold coreB isDig at h
  simp only [Bool.or_eq_true, Bool.and_eq_true, decide_eq_true_eq, beq_iff_eq] at h
  rcases h with h | h
  · rw [if_neg (by omega)]
  · subst h; rfl
theorem lower_dig (l : Bytes) : allDig (lower l) = allDig l := by
  unfold allDig lower
  rw [List.all_map]
  congr 1
  · exact congrArg (fun f => l.all f) (funext fun c => lowB_dig c)
  · cases l <;> rfl
theorem lower_id {l : Bytes} (h : l.all coreB = true) : lower l = l := by
  induction l with
  | nil => rfl
  | cons c r ih =>
    rw [List.all_cons, Bool.and_eq_true] at h
    rw [lower_cons, lowB_id h.1, ih h.2]
theorem lower_app (a b : Bytes) : lower (a ++ b) = lower a ++ lower b := List.map_append ..
theorem splitB_lower (l : Bytes) : splitB 46 (lower l) = (splitB 46 l).map lower := by
  induction l with
  | nil => rfl
  | cons d r ih =>
    rw [lower_cons]
    by_cases hd : d = 46
    · rw [splitB_cons_eq hd, splitB_cons_eq ((lowB_iff 46 (by decide) d).2 hd), ih]; rfl
    · obtain ⟨a, as', ha⟩ : ∃ a as', splitB 46 r = a :: as' := by
        cases hs : splitB 46 r with
        | nil => exact absurd hs (splitB_ne 46 r)
        | cons a as' => exact ⟨a, as', rfl⟩
      rw [ha] at ih
      rw [splitB_cons_ne ha hd, splitB_cons_ne ih (fun e => hd ((lowB_iff 46 (by decide) d).1 e))]; rfl
theorem idxOf_lower (k : UInt8) (hk : k.toNat < 65 ∨ 122 < k.toNat) (l : Bytes) : idxOf k (lower l) = idxOf k l := by
  induction l with
  | nil => rfl
  | cons d r ih =>
    rw [lower_cons]
    unfold idxOf
    rw [ih]
    by_cases hd : d = k
    · rw [if_pos hd, if_pos ((lowB_iff k hk d).2 hd)]
    · rw [if_neg hd, if_neg (fun e => hd ((lowB_iff k hk d).1 e))]
theorem lower_take (l : Bytes) (k : Nat) : (lower l).take k = lower (l.take k) := List.map_take.symm
theorem lower_drop (l : Bytes) (k : Nat) : (lower l).drop k = lower (l.drop k) := List.map_drop.symm
theorem beforePlus_lower (l : Bytes) : beforePlus (lower l) = lower (beforePlus l) := by
  unfold beforePlus
  rw [idxOf_lower 43 (by decide)]
  cases idxOf 43 l with
  | none => rfl
  | some k => exact lower_take l k
theorem trimHy_lower (l : Bytes) : trimHy (lower l) = lower (trimHy l) := by
  cases l with
  | nil => rfl
  | cons c r =>
    rw [lower_cons, trimHy, trimHy]
    by_cases h : c = 45
    · rw [if_pos h, if_pos ((lowB_iff 45 (by decide) c).2 h)]
    · rw [if_neg h, if_neg (fun e => h ((lowB_iff 45 (by decide) c).1 e))]; rfl
theorem lower_nil {l : Bytes} : lower l = [] ↔ l = [] := by cases l <;> simp [lower]
theorem idents_lower (l : Bytes) : idents (lower l) = (idents l).map lower := by
  unfold idents
  rw [beforePlus_lower, trimHy_lower, splitB_lower]
  by_cases h : trimHy (beforePlus l) = []
  · rw [if_pos h, if_pos (lower_nil.2 h)]; rfl
  · rw [if_neg h, if_neg (fun e => h (lower_nil.1 e))]
theorem lower_head (k : UInt8) (hk : k.toNat < 65 ∨ 122 < k.toNat) (l : Bytes) : ((lower l)[0]? == some k) = (l[0]? == some k) := by
  cases l with
  | nil => rfl
  | cons c r =>
    rw [lower_cons]
    simp only [List.getElem?_cons_zero]
    rw [Bool.eq_iff_iff, beq_iff_eq, beq_iff_eq]
    constructor
    · intro e; injection e with e; rw [(lowB_iff k hk c).1 e]
    · intro e; injection e with e; rw [(lowB_iff k hk c).2 e]
theorem idKnown1_lower (l : Bytes) : idKnown1 (lower l) = idKnown1 l := by
  unfold idKnown1
  rw [lower_len, lower_head 45 (by decide), lower_head 43 (by decide), lower_drop, lower_dig]
theorem idsKnown_lower (l : Bytes) : idsKnown (idents (lower l)) = idsKnown (idents l) := by
  rw [idents_lower]
  unfold idsKnown
  rw [List.all_map]
  exact congrArg (fun f => (idents l).all f) (funext fun c => idKnown1_lower c)
theorem ascii_lower {l : Bytes} (h : ascii l = true) : ascii (lower l) = true := by
  unfold ascii lower at *
  rw [List.all_map]
  refine List.all_eq_true.2 fun c hc => ?_
  have := List.all_eq_true.1 h c hc
  show decide ((lowB c).toNat ≤ 127) = true
  rw [lowB_nat]
  simp only [decide_eq_true_eq] at this ⊢
  split <;> omega
theorem ascii_upper {l : Bytes} (h : ascii l = true) : ascii (upper l) = true := by
  unfold ascii upper at *
  rw [List.all_map]
  refine List.all_eq_true.2 fun c hc => ?_
  have := List.all_eq_true.1 h c hc
  show decide ((uppB c).toNat ≤ 127) = true
  rw [uppB_nat]
  simp only [decide_eq_true_eq] at this ⊢
  split <;> omega
theorem buildKnown_lower {l : Bytes} (h : buildKnown l = true) : buildKnown (lower l) = true := by
  unfold buildKnown at *
  rw [Bool.and_eq_true] at *
  exact ⟨ascii_lower h.1, by rw [idsKnown_lower]; exact h.2⟩
/-- a build of a hyphen, letters, digits and points: one of which the page speaks -/
theorem buildKnown_word {x : Bytes} (h : x.all (fun c => wordB c || c == 46) = true) : buildKnown (45 :: x) = true := by
  have hb := fun c (hc : c ∈ x) => wordB_ascii (List.all_eq_true.1 h c hc)
  have hx : idxOf 43 (45 :: x) = none := by
    have : ∀ y : Bytes, (∀ c ∈ y, c ≠ 43) → idxOf 43 y = none := by
      intro y
      induction y with
      | nil => intro _; rfl
      | cons c r ih =>
        intro hy
        unfold idxOf
        rw [if_neg (hy c (List.mem_cons_self ..)), ih fun d hd => hy d (List.mem_cons_of_mem _ hd)]; rfl
    apply this
    intro c hc
    rcases List.mem_cons.1 hc with hc | hc
    · subst hc; decide
    · exact (hb c hc).2.2
  have hid : trimHy (beforePlus (45 :: x)) = x := by rw [beforePlus, hx]; rfl
  rw [buildKnown, Bool.and_eq_true]
  constructor
  · rw [ascii, List.all_cons, Bool.and_eq_true]
    exact ⟨by decide, List.all_eq_true.2 fun c hc => by simpa using (hb c hc).1⟩
  · rw [idsKnown, List.all_eq_true]
    intro p hp
    rw [idents, hid] at hp
    split at hp
    · cases hp
    · obtain ⟨_, hm⟩ := splitB_mem 46 x p hp
      rw [idKnown1]
      cases p with
      | nil => rfl
      | cons c r =>
        have hc := hb c (hm c (List.mem_cons_self ..))
        have e1 : ((c :: r)[0]? == some 45) = false := by simp [hc.2.1]
        have e2 : ((c :: r)[0]? == some 43) = false := by simp [hc.2.2]
        rw [e1, e2]; simp
/-- NuGet's order -/
def nugetOrd (ns ms : List Nat) (a b : Bytes) : Int := if cmpNums ns ms ≠ 0 then cmpNums ns ms else builds (lower a) (lower b)
theorem numsOf_lower {l : Bytes} (h : startsV (lower l) = false) (h0 : startsV l = false) : numsOf (lower l) = numsOf l ∧ buildOf (lower l) = lower (buildOf l) := by
  have hr : ∀ x : Bytes, startsV x = false → restV x = x := by
    intro x hx
    cases x with
    | nil => rfl
    | cons c r =>
      rw [restV]
      rw [startsV] at hx
      rw [if_neg]
      intro e; subst e; simp at hx
  have hw : ∀ x : Bytes, (lower x).takeWhile coreB = x.takeWhile coreB ∧ (lower x).dropWhile coreB = lower (x.dropWhile coreB) := by
    intro x
    induction x with
    | nil => exact ⟨rfl, rfl⟩
    | cons c r ih =>
      rw [lower_cons, List.takeWhile_cons, List.takeWhile_cons, List.dropWhile_cons, List.dropWhile_cons, lowB_core]
      cases hc : coreB c with
      | true => simp only [if_true]; rw [ih.1, ih.2, lowB_id hc]; exact ⟨rfl, rfl⟩
      | false => exact ⟨rfl, rfl⟩
  rw [numsOf_eq, numsOf_eq, coreOf, coreOf, buildOf, buildOf, hr _ h, hr _ h0, (hw l).1, (hw l).2]
  exact ⟨rfl, rfl⟩
end Go.Proofs.YtgfkdjmoflbmdaaGreatDoor.Pl
