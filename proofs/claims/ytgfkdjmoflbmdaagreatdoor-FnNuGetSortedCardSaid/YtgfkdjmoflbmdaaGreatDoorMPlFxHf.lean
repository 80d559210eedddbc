/- PLAIN: versions by the page's grammar. Imports no program. PLAIN: a list put in order, one text after the other. Imports no program. Contracts: HackageVersion.compare, Compare. Contracts: HackageVersion.Compare, CompareStr. Contracts: spec.NuGetCompare, HackageCompare, HackageParse, HackageCompareText. -/
import Derived.Test.YtgfkdjmoflbmdaaGreatDoorMPlCxPlE
import Derived.Test.YtgfkdjmoflbmdaaGreatDoorMHexHb
import Derived.Test.YtgfkdjmoflbmdaaGreatDoorMWexXl
import Derived.Test.YtgfkdjmoflbmdaaGreatDoorMXuxZb
import Derived.Deep.RegionWith
namespace Go.Proofs.YtgfkdjmoflbmdaaGreatDoor.Pl

def letB (c : UInt8) : Bool := (decide (97 ≤ c.toNat) && decide (c.toNat ≤ 122)) || (decide (65 ≤ c.toNat) && decide (c.toNat ≤ 90))
def pageCh (c : UInt8) : Bool := isDig c || letB c || c == 45
def zeroAhead (s : Bytes) : Bool := decide (1 < s.length) && (s[0]? == some 48 && allDig s)
def pageOk (strict : Bool) (s : Bytes) : Bool := s.all pageCh && !(s.isEmpty || (strict && zeroAhead s))
/-- spec.pageWords -/
def pageWordsB (l : List Bytes) (strict : Bool) : Bool := l.all (pageOk strict) && (!strict || idsKnown l)
def metaOf (s : Bytes) : Bytes := match idxOf 43 s with
  | none => []
  | some k => s.drop (k + 1)
def metaOk (s : Bytes) : Bool := match idxOf 43 s with
  | none => true
  | some k => pageWordsB (splitB 46 (s.drop (k + 1))) false
def hyCore (b : Bytes) : Bytes := match idxOf 45 b with
  | none => b
  | some k => b.take k
def hyPre (b : Bytes) : List Bytes := match idxOf 45 b with
  | none => []
  | some k => splitB 46 (b.drop (k + 1))
def pgNums (s : Bytes) : List Bytes := splitB 46 (hyCore (beforePlus s))
def pgPre (s : Bytes) : List Bytes := hyPre (beforePlus s)
/-- spec.CoreOf's last answer -/
def pageB (s : Bytes) (least most : Nat) : Bool :=
  metaOk s && (!(decide ((pgNums s).length < least) || (decide (most < (pgNums s).length) || !pageWordsB (pgPre s) true)) && (pgNums s).all allDig)

theorem splitB_cover (c : UInt8) : ∀ (l : Bytes), ∀ x ∈ l, x = c ∨ ∃ p ∈ splitB c l, x ∈ p
  | [], x, h => by cases h
  | d :: r, x, h => by
    by_cases hd : d = c
    · rw [splitB_cons_eq hd]
      rcases List.mem_cons.1 h with h | h
      · left; rw [h, hd]
      · rcases splitB_cover c r x h with k | ⟨p, hp, hx⟩
        · exact Or.inl k
        · exact Or.inr ⟨p, List.mem_cons_of_mem _ hp, hx⟩
    · obtain ⟨a, as', ha⟩ : ∃ a as', splitB c r = a :: as' := by
        cases hs : splitB c r with
        | nil => exact absurd hs (splitB_ne c r)
        | cons a as' => exact ⟨a, as', rfl⟩
      rw [splitB_cons_ne ha hd]
      rcases List.mem_cons.1 h with h | h
      · exact Or.inr ⟨d :: a, List.mem_cons_self .., by rw [h]; exact List.mem_cons_self ..⟩
      · rcases splitB_cover c r x h with k | ⟨p, hp, hx⟩
        · exact Or.inl k
        · rw [ha] at hp
          rcases List.mem_cons.1 hp with hp | hp
          · exact Or.inr ⟨d :: a, List.mem_cons_self .., List.mem_cons_of_mem _ (by rw [← hp]; exact hx)⟩
          · exact Or.inr ⟨p, List.mem_cons_of_mem _ hp, hx⟩
theorem core_parts {s t : Bytes} {c : UInt8} {r : Bytes} (h1 : s.all coreB = true) (hs : s = c :: r) (hd : isDig c = true) (ht : t = [] ∨ ∃ c r, t = c :: r ∧ coreB c = false) :
    numsOf (s ++ t) = numsIn (splitB 46 s) ∧ buildOf (s ++ t) = t ∧ startsV (s ++ t) = false := by
  have hne : c ≠ 118 := by rintro rfl; exact absurd hd (by decide)
  have hr : restV (s ++ t) = s ++ t := by
    rw [hs, List.cons_append, restV, if_neg hne]
  have hw := while_at (p := coreB) (s ++ t) s.length (by rw [List.take_left]; exact h1) (by
    rcases ht with ht | ⟨d, r', ht, hd'⟩
    · left; rw [ht, List.append_nil]
    · right
      refine ⟨d, ?_, hd'⟩
      rw [ht, List.getElem?_append_right (Nat.le_refl _), Nat.sub_self]; rfl)
  rw [List.take_left, List.drop_left] at hw
  refine ⟨?_, ?_, ?_⟩
  · rw [numsOf_eq, coreOf, hr, hw.1]
  · rw [buildOf, hr, hw.2]
  · rw [startsV, hs]; simp [hne]
theorem digs_core {l : Bytes} (h : (splitB 46 l).all allDig = true) : l.all coreB = true ∧ (∃ c r, l = c :: r ∧ isDig c = true) ∧ numsIn (splitB 46 l) = (splitB 46 l).map natOf := by
  have hp := fun p (hp : p ∈ splitB 46 l) => List.all_eq_true.1 h p hp
  refine ⟨?_, ?_, ?_⟩
  · refine List.all_eq_true.2 fun x hx => ?_
    rcases splitB_cover 46 l x hx with k | ⟨p, hp1, hx1⟩
    · subst k; rfl
    · have := List.all_eq_true.1 (all_of_allDig (hp p hp1)) x hx1
      rw [coreB, this]; rfl
  · cases l with
    | nil => have := hp [] (by simp [splitB]); cases this
    | cons c r =>
      refine ⟨c, r, rfl, ?_⟩
      by_cases hc : c = 46
      · have := hp [] (by rw [splitB_cons_eq hc]; exact List.mem_cons_self ..); cases this
      · obtain ⟨a, as', ha⟩ : ∃ a as', splitB 46 r = a :: as' := by
          cases hs : splitB 46 r with
          | nil => exact absurd hs (splitB_ne 46 r)
          | cons a as' => exact ⟨a, as', rfl⟩
        have := hp (c :: a) (by rw [splitB_cons_ne ha hc]; exact List.mem_cons_self ..)
        have h2 := all_of_allDig this
        rw [List.all_cons, Bool.and_eq_true] at h2
        exact h2.1
  · rw [numsIn]
    congr 1
    refine List.filter_eq_self.2 fun p hp1 => ?_
    have := hp p hp1
    rw [allDig, Bool.and_eq_true] at this
    exact this.2
theorem pageCh_ascii {c : UInt8} (h : pageCh c = true) : c.toNat ≤ 127 := by
  simp only [pageCh, isDig, letB, Bool.or_eq_true, Bool.and_eq_true, decide_eq_true_eq, beq_iff_eq] at h
  rcases h with (h | h | h) | h
  · omega
  · omega
  · omega
  · subst h; decide
theorem words_ascii {l : Bytes} {st : Bool} (h : pageWordsB (splitB 46 l) st = true) : ∀ c ∈ l, c.toNat ≤ 127 := by
  intro c hc
  rw [pageWordsB, Bool.and_eq_true] at h
  rcases splitB_cover 46 l c hc with k | ⟨p, hp, hx⟩
  · subst k; decide
  · have := List.all_eq_true.1 h.1 p hp
    rw [pageOk, Bool.and_eq_true] at this
    exact pageCh_ascii (List.all_eq_true.1 this.1 c hx)
theorem words_ne {l : Bytes} {st : Bool} (h : pageWordsB (splitB 46 l) st = true) : l ≠ [] := by
  rintro rfl
  rw [pageWordsB, Bool.and_eq_true] at h
  have := List.all_eq_true.1 h.1 [] (by simp [splitB])
  cases st <;> cases this
theorem core_ascii {l : Bytes} (h : l.all coreB = true) : ∀ c ∈ l, c.toNat ≤ 127 := by
  intro c hc
  have := List.all_eq_true.1 h c hc
  unfold coreB isDig at this
  simp only [Bool.or_eq_true, Bool.and_eq_true, decide_eq_true_eq, beq_iff_eq] at this
  rcases this with k | k
  · omega
  · subst k; decide
theorem idxOf_noneIff {c : UInt8} {l : Bytes} (h : ∀ x ∈ l, x ≠ c) : idxOf c l = none := by
  induction l with
  | nil => rfl
  | cons d r ih =>
    unfold idxOf
    rw [if_neg (h d (List.mem_cons_self ..)), ih fun x hx => h x (List.mem_cons_of_mem _ hx)]; rfl
theorem idxOf_app {c : UInt8} {a b : Bytes} (h : ∀ x ∈ a, x ≠ c) : idxOf c (a ++ c :: b) = some a.length := by
  induction a with
  | nil => simp [idxOf]
  | cons d r ih =>
    rw [List.cons_append]
    unfold idxOf
    rw [if_neg (h d (List.mem_cons_self ..)), ih fun x hx => h x (List.mem_cons_of_mem _ hx)]; rfl
theorem idxOf_parts {c : UInt8} {l : Bytes} {k : Nat} (h : idxOf c l = some k) : l = l.take k ++ c :: l.drop (k + 1) ∧ ∀ x ∈ l.take k, x ≠ c := by
  obtain ⟨h1, h2, h3⟩ := idxOf_some h
  constructor
  · have e : l.drop k = c :: l.drop (k + 1) := by
      rw [List.drop_eq_getElem_cons h1]
      rw [List.getElem?_eq_getElem h1] at h2
      injection h2 with h2
      rw [h2]
    rw [← e, List.take_append_drop]
  · intro x hx e
    obtain ⟨j, hj, hjx⟩ := List.getElem_of_mem hx
    rw [List.length_take] at hj
    apply h3 j (by omega)
    rw [List.getElem_take] at hjx
    rw [List.getElem?_eq_getElem (by omega), hjx, e]
theorem idxOf_none_mem {c : UInt8} {l : Bytes} (h : idxOf c l = none) : ∀ x ∈ l, x ≠ c := by
  intro x hx e
  obtain ⟨j, hj, hjx⟩ := List.getElem_of_mem hx
  exact idxOf_no h j hj (by rw [List.getElem?_eq_getElem hj, hjx, e])
/-- a text by the page's grammar, by its parts -/
theorem page_shape (s : Bytes) : ∃ rest : Bytes, s = hyCore (beforePlus s) ++ rest ∧
    ((rest = [] ∧ pgPre s = []) ∨ (∃ P, rest = 45 :: P ∧ (∀ x ∈ P, x ≠ 43) ∧ pgPre s = splitB 46 P) ∨ (∃ m, rest = 43 :: m ∧ pgPre s = [] ∧ metaOk s = pageWordsB (splitB 46 m) false) ∨
      (∃ P m, rest = 45 :: (P ++ 43 :: m) ∧ (∀ x ∈ P, x ≠ 43) ∧ pgPre s = splitB 46 P ∧ metaOk s = pageWordsB (splitB 46 m) false)) := by
  cases hp : idxOf 43 s with
  | none =>
    have hb : beforePlus s = s := by rw [beforePlus, hp]
    have hno := idxOf_none_mem hp
    rw [pgPre, hb]
    cases hh : idxOf 45 s with
    | none => exact ⟨[], by rw [hyCore, hh, List.append_nil], Or.inl ⟨rfl, by rw [hyPre, hh]⟩⟩
    | some j =>
      obtain ⟨h1, _⟩ := idxOf_parts hh
      exact ⟨45 :: s.drop (j + 1), by rw [hyCore, hh]; exact h1, Or.inr (Or.inl ⟨_, rfl, fun x hx => hno x (List.mem_of_mem_drop hx), by rw [hyPre, hh]⟩)⟩
  | some k =>
    have hb : beforePlus s = s.take k := by rw [beforePlus, hp]
    obtain ⟨h1, hno⟩ := idxOf_parts hp
    have hm : metaOk s = pageWordsB (splitB 46 (s.drop (k + 1))) false := by rw [metaOk, hp]
    rw [pgPre, hb]
    cases hh : idxOf 45 (s.take k) with
    | none => exact ⟨43 :: s.drop (k + 1), by rw [hyCore, hh]; exact h1, Or.inr (Or.inr (Or.inl ⟨_, rfl, by rw [hyPre, hh], hm⟩))⟩
    | some j =>
      obtain ⟨h2, _⟩ := idxOf_parts hh
      refine ⟨45 :: ((s.take k).drop (j + 1) ++ 43 :: s.drop (k + 1)), ?_, Or.inr (Or.inr (Or.inr ⟨_, _, rfl, fun x hx => hno x (List.mem_of_mem_drop hx), by rw [hyPre, hh], hm⟩))⟩
      rw [hyCore, hh]
      show s = (s.take k).take j ++ 45 :: ((s.take k).drop (j + 1) ++ 43 :: s.drop (k + 1))
      have e : (s.take k).take j ++ 45 :: ((s.take k).drop (j + 1) ++ 43 :: s.drop (k + 1)) = ((s.take k).take j ++ 45 :: (s.take k).drop (j + 1)) ++ 43 :: s.drop (k + 1) := by simp
      rw [e, ← h2]; exact h1
theorem idents_45 {P m : Bytes} (h : ∀ x ∈ P, x ≠ 43) (hne : P ≠ []) (hm : m = [] ∨ ∃ q, m = 43 :: q) : idents (45 :: (P ++ m)) = splitB 46 P := by
  have hb : beforePlus (45 :: (P ++ m)) = 45 :: P := by
    have h45 : ∀ x ∈ (45 :: P : Bytes), x ≠ 43 := by
      intro x hx
      rcases List.mem_cons.1 hx with k | k
      · subst k; decide
      · exact h x k
    rcases hm with hm | ⟨q, hm⟩
    · subst hm
      rw [List.append_nil, beforePlus, idxOf_noneIff h45]
    · subst hm
      rw [beforePlus, show 45 :: (P ++ 43 :: q) = (45 :: P) ++ 43 :: q from rfl, idxOf_app h45]
      exact List.take_left ..
  rw [idents, hb]
  show (if trimHy (45 :: P) = [] then [] else splitB 46 (trimHy (45 :: P))) = _
  rw [show trimHy (45 :: P) = P from rfl, if_neg hne]
/-- what the page's grammar says of a version's parts -/
theorem page_parts {s : Bytes} {least most : Nat} (h : pageB s least most = true) :
    numsOf s = (pgNums s).map natOf ∧ idents (buildOf s) = pgPre s ∧ ascii s = true ∧ buildKnown (buildOf s) = true ∧ startsV s = false ∧ (pgNums s).length ≤ most ∧ (pgNums s).all allDig = true := by
  rw [pageB, Bool.and_eq_true, Bool.and_eq_true] at h
  obtain ⟨hm, hn, hd⟩ := h
  have hn' : (pgNums s).length ≤ most ∧ pageWordsB (pgPre s) true = true := by
    simp only [Bool.not_eq_true', Bool.or_eq_false_iff, decide_eq_false_iff_not, Bool.not_eq_false'] at hn
    exact ⟨by omega, hn.2.2⟩
  obtain ⟨hn1, hn2⟩ := hn'
  obtain ⟨d1, ⟨c, r, d2, d3⟩, d4⟩ := digs_core hd
  obtain ⟨rest, hs, hr⟩ := page_shape s
  have hca := core_ascii d1
  have hrest : rest = [] ∨ ∃ c r, rest = c :: r ∧ coreB c = false := by
    rcases hr with ⟨hr, _⟩ | ⟨P, hr, _⟩ | ⟨m, hr, _⟩ | ⟨P, m, hr, _⟩
    · exact Or.inl hr
    · exact Or.inr ⟨_, _, hr, by decide⟩
    · exact Or.inr ⟨_, _, hr, by decide⟩
    · exact Or.inr ⟨_, _, hr, by decide⟩
  obtain ⟨p1, p2, p3⟩ := core_parts d1 d2 d3 hrest
  rw [← hs] at p1 p2 p3
  have hi : idents rest = pgPre s := by
    rcases hr with ⟨hr, hp⟩ | ⟨P, hr, hx, hp⟩ | ⟨m, hr, hp, _⟩ | ⟨P, m, hr, hx, hp, _⟩
    · rw [hr, hp]; rfl
    · rw [hp] at hn2
      rw [hr, hp]
      have := idents_45 hx (words_ne hn2) (Or.inl rfl)
      rwa [List.append_nil] at this
    · rw [hr, hp]; rfl
    · rw [hp] at hn2
      rw [hr, hp]
      exact idents_45 hx (words_ne hn2) (Or.inr ⟨m, rfl⟩)
  have hra : ∀ x ∈ rest, x.toNat ≤ 127 := by
    rcases hr with ⟨hr, hp⟩ | ⟨P, hr, hx, hp⟩ | ⟨m, hr, hp, hmm⟩ | ⟨P, m, hr, hx, hp, hmm⟩
    · intro x hx; rw [hr] at hx; cases hx
    · rw [hp] at hn2
      intro x hx; rw [hr] at hx
      rcases List.mem_cons.1 hx with k | k
      · subst k; decide
      · exact words_ascii hn2 x k
    · rw [hmm] at hm
      intro x hx; rw [hr] at hx
      rcases List.mem_cons.1 hx with k | k
      · subst k; decide
      · exact words_ascii hm x k
    · rw [hp] at hn2
      rw [hmm] at hm
      intro x hx; rw [hr] at hx
      rcases List.mem_cons.1 hx with k | k
      · subst k; decide
      · rcases List.mem_append.1 k with k | k
        · exact words_ascii hn2 x k
        · rcases List.mem_cons.1 k with k | k
          · subst k; decide
          · exact words_ascii hm x k
  refine ⟨by rw [p1, d4]; rfl, by rw [p2]; exact hi, ?_, ?_, p3, hn1, hd⟩
  · refine List.all_eq_true.2 fun x hx => ?_
    rw [hs] at hx
    rw [decide_eq_true_eq]
    rcases List.mem_append.1 hx with k | k
    · exact hca x k
    · exact hra x k
  · rw [p2, buildKnown, Bool.and_eq_true]
    refine ⟨List.all_eq_true.2 fun x hx => by rw [decide_eq_true_eq]; exact hra x hx, ?_⟩
    rw [hi]
    rw [pageWordsB, Bool.and_eq_true] at hn2
    simpa using hn2.2
/-- identifiers' order, none ahead of all -/
def bld (p q : List Bytes) : Int := if p.length = 0 ∨ q.length = 0 then ordI (min (q.length : Int) 1) (min (p.length : Int) 1) else identsCmp p q
theorem builds_bld (a b : Bytes) : builds a b = bld (idents a) (idents b) := rfl
/-- spec.Precedence of two texts of the grammar -/
def prec (a b : Bytes) : Int := if cmpNums ((pgNums a).map natOf) ((pgNums b).map natOf) ≠ 0 then cmpNums ((pgNums a).map natOf) ((pgNums b).map natOf) else bld (pgPre a) (pgPre b)
theorem unlower_v {l : Bytes} (h : startsV (lower l) = false) (hd : ∃ c r, lower l = c :: r ∧ isDig c = true) : startsV l = false := by
  obtain ⟨c, r, h1, h2⟩ := hd
  cases l with
  | nil => rfl
  | cons d x =>
    rw [lower_cons] at h1
    injection h1 with h1 _
    rw [← h1, lowB_dig] at h2
    have : d ≠ 118 := by rintro rfl; exact absurd h2 (by decide)
    rw [startsV]; simp [this]
theorem ascii_unlower {l : Bytes} (h : ascii (lower l) = true) : ascii l = true := by
  refine List.all_eq_true.2 fun c hc => ?_
  have := List.all_eq_true.1 h (lowB c) (List.mem_map_of_mem hc)
  rw [decide_eq_true_eq, lowB_nat] at this
  rw [decide_eq_true_eq]
  split at this <;> omega
/-- the program's parts of a text whose small letters are a text of the grammar -/
theorem page_nuget {a b : Bytes} {least most : Nat} (ha : pageB (lower a) least most = true) (hb : pageB (lower b) least most = true) :
    prec (lower a) (lower b) = nugetOrd (numsOf a) (numsOf b) (buildOf a) (buildOf b) := by
  have key : ∀ x : Bytes, pageB (lower x) least most = true → numsOf x = (pgNums (lower x)).map natOf ∧ idents (lower (buildOf x)) = pgPre (lower x) := by
    intro x hx
    obtain ⟨h1, h2, _, _, h5, _, h7⟩ := page_parts hx
    obtain ⟨d1, ⟨c, r, d2, d3⟩, _⟩ := digs_core h7
    obtain ⟨rest, hs, _⟩ := page_shape (lower x)
    have h0 := unlower_v h5 ⟨c, r ++ rest, by rw [hs]; show hyCore (beforePlus (lower x)) ++ rest = _; rw [d2]; rfl, d3⟩
    obtain ⟨n1, n2⟩ := numsOf_lower h5 h0
    exact ⟨by rw [← n1]; exact h1, by rw [← n2]; exact h2⟩
  obtain ⟨a1, a2⟩ := key a ha
  obtain ⟨b1, b2⟩ := key b hb
  rw [prec, nugetOrd, builds_bld, a1, b1, a2, b2]
end Go.Proofs.YtgfkdjmoflbmdaaGreatDoor.Pl

namespace Go.Proofs.YtgfkdjmoflbmdaaGreatDoor.Pl

/-- in order by f -/
def Sorted {α : Type} (f : α → α → Int) (l : List α) : Prop := l.Pairwise fun a b => f a b ≤ 0
theorem Sorted.nil {α : Type} (f : α → α → Int) : Sorted f [] := List.Pairwise.nil
theorem Sorted.insert {α : Type} {f : α → α → Int} (h : Ord3 f) {out : List α} {s : α} {k : Nat} (hp : Sorted f out) (h1 : ∀ x ∈ out.take k, f x s ≤ 0) (h2 : out.length ≤ k ∨ ∃ hk : k < out.length, 0 < f out[k] s) :
    Sorted f (out.take k ++ s :: out.drop k) := by
  unfold Sorted at *
  have e := List.take_append_drop k out
  rw [← e] at hp
  obtain ⟨p1, p2, p3⟩ := List.pairwise_append.1 hp
  refine List.pairwise_append.2 ⟨p1, List.pairwise_cons.2 ⟨?_, p2⟩, ?_⟩
  · rcases h2 with h2 | ⟨hk, h2⟩
    · rw [List.drop_of_length_le h2]; intro b hb; cases hb
    · intro b hb
      rw [List.drop_eq_getElem_cons hk] at hb p2
      have h3 : f s out[k] ≤ 0 := by have := h.anti s out[k]; omega
      rcases List.mem_cons.1 hb with hb | hb
      · rw [hb]; exact h3
      · exact h.chain _ _ _ h3 ((List.pairwise_cons.1 p2).1 b hb)
  · intro a ha b hb
    rcases List.mem_cons.1 hb with hb | hb
    · rw [hb]; exact h1 a ha
    · exact p3 a ha b hb
theorem Sorted.at {α : Type} {f : α → α → Int} {l : List α} (h : Sorted f l) {i j : Nat} (hi : i < l.length) (hj : j < l.length) (hij : i < j) : f l[i] l[j] ≤ 0 :=
  List.pairwise_iff_getElem.1 h i j hi hj hij
/-- NuGet's order of two texts, by their parts -/
def nugetT (a b : Bytes) : Int := nugetOrd (numsOf a) (numsOf b) (buildOf a) (buildOf b)
theorem nuget_ord : Ord3 nugetT :=
  ((cmpNums_ord.pull numsOf).lex (builds_ord.pull fun a : Bytes => lower (buildOf a)))
/-- Hackage's order of two texts of numbers -/
def hackOrd (ns ms : List Nat) : Int := if cmpNums ns ms ≠ 0 then cmpNums ns ms else ordI ns.length ms.length
theorem hack_ord : Ord3 hackOrd := by
  have := cmpNums_ord.lex (ordI_ord.pull fun l : List Nat => (l.length : Int))
  exact this
theorem hack_more {a b : List Nat} (hb : b ≠ []) : hackOrd (a ++ b) a = 1 := by
  rw [hackOrd]
  rcases cmpNums_longer a b with h | h
  · rw [if_neg (by omega), ordI]
    have : 0 < b.length := List.length_pos_iff.2 hb
    rw [if_neg (by rw [List.length_append]; omega), if_pos (by rw [List.length_append]; omega)]
  · rw [if_pos (by omega), h]
/-- Pub's order: by what stands behind the first plus sign at last -/
def pubOrd (ns ms : List Nat) (a b : Bytes) : Int := if cmpNums ns ms ≠ 0 then cmpNums ns ms else if builds a b ≠ 0 then builds a b else ordB (metaOf a) (metaOf b)
theorem metaOf_len (a : Bytes) : (metaOf a).length ≤ a.length := by
  unfold metaOf
  split
  · exact Nat.zero_le _
  · rw [List.length_drop]; omega
end Go.Proofs.YtgfkdjmoflbmdaaGreatDoor.Pl

namespace Go.Proofs.YtgfkdjmoflbmdaaGreatDoor
open Go.RowKit
open Go.Proofs

abbrev NoB : ByteArray := ⟨#[]⟩
theorem builds_none : Pl.builds [] [] = 0 := rfl
theorem known_none : Pl.buildKnown [] = true := rfl
set_option maxRecDepth 100000 in
set_option maxHeartbeats 1000000 in
theorem hackCmp_any (va vb : Bool) (A B : Option Addr) (ca cb : Nat) (ns ms : List Nat) (oa ob : ByteArray) (pe pn pi : Addr) (w : World) (hA : Bigs w A ns) (hB : Bigs w B ms) (hna : Small ns) (hnb : Small ms) (hV : PkgVars w pe pn pi) :
    Calls Tryz.prog 119 #[VV va A ns.length ca NoB oa, VV vb B ms.length cb NoB ob] w fun e w' => e = .returned (.int .i64 (Pl.cmpNums ns ms)) ∧ Below w.heap.size w w' := by
  obtain ⟨W, hW⟩ : ∃ W, (w.alloc (.cells #[.bool va, .slice A ns.length ca, .string NoB, .string oa] 82)).alloc (.cells #[.bool vb, .slice B ms.length cb, .string NoB, .string ob] 82) = W := ⟨_, rfl⟩
  have hbW : Below w.heap.size w W := by rw [← hW]; exact ((Below.refl _ _).alloc (Nat.le_refl _) _).alloc (by simp) _
  have hP : Blk W w.heap.size 82 #[.bool va, .slice A ns.length ca, .string NoB, .string oa] := by rw [← hW]; exact (Blk.new _ _ _).alloc _
  have hQ : Blk W (w.heap.size + 1) 82 #[.bool vb, .slice B ms.length cb, .string NoB, .string ob] := by
    rw [← hW]
    have := Blk.new (w.alloc (.cells #[.bool va, .slice A ns.length ca, .string NoB, .string oa] 82)) 82 #[.bool vb, .slice B ms.length cb, .string NoB, .string ob]
    rw [World.size_alloc] at this
    exact this
  have p1 := hP.cell 1
  have q1 := hQ.cell 1
  simp at p1 q1
  have HC := Lib.hid (compsCmp_any w.heap.size 1 A B ca cb ns ms W p1 (hA.below hbW) (hB.below hbW) hna.1 hnb.1 (fun n h => by have := hna.2 n h; omega) (fun n h => by have := hnb.2 n h; omega))
  have HW := Lib.hid hW
  obtain ⟨z, hz⟩ : ∃ z, Pl.cmpNums ns ms = z := ⟨_, rfl⟩
  rw [hz] at HC ⊢
  clear hW hz hA hB hna hnb
  by_cases hz0 : z = 0
  · have hz1 : (z != 0) = false := by simp [hz0]
    have HZ := Lib.hid hz0
    clear hz0
    go_enter Tryz.func119, Tryz.ntmps119
    go_wp2_with fail
    rw [HW.out]
    refine HC.out.mono ?_; rintro e w1 ⟨rfl, hb1⟩
    have hP1 := hP.below hb1 hP.lt
    have hQ1 := hQ.below hb1 hQ.lt
    have p2 := hP1.cell 2
    have q2 := hQ1.cell 2
    simp at p2 q2
    have hBI := Lib.hid (implBuilds_any NoB NoB pe pn pi w1.drew (by decide) (by decide) (((hV.below hbW).below hb1).below ((Below.refl _ _).drew)) known_none known_none)
    have hB0 : Hid (Pl.builds (NoB : ByteArray).data.toList (NoB : ByteArray).data.toList = 0) := Lib.hid builds_none
    rw [hB0.out] at hBI
    go_wp2_with fail
    go_region_with (first
      | (go_at_call 117; refine (toLower_nil _).mono ?_; rintro e w' ⟨rfl, rfl⟩)
      | (go_at_call 108; refine hBI.out.mono ?_; rintro e w2 ⟨rfl, hb2⟩))
    all_goals go_wp2_with fail
    all_goals go_ret
    all_goals exact ⟨ret_int HZ.out.symm, hbW.trans ((hb1.mono hbW.size).trans (Below.trans (Below.drew (Below.refl _ _)) (hb2.mono (Nat.le_trans hbW.size hb1.size))))⟩
  · have hz1 : (z != 0) = true := by simpa using hz0
    clear hz0
    go_enter Tryz.func119, Tryz.ntmps119
    go_wp2_with fail
    rw [HW.out]
    refine HC.out.mono ?_; rintro e w1 ⟨rfl, hb1⟩
    go_wp2
    go_ret
    exact ⟨rfl, hbW.trans (hb1.mono hbW.size)⟩
end Go.Proofs.YtgfkdjmoflbmdaaGreatDoor

namespace Go.Proofs.YtgfkdjmoflbmdaaGreatDoor
open Go.RowKit
open Go.Proofs

theorem tassert82 (v : Value) (w : World) : (Instr.typeAssert (.iface 82 v) 95 82 true).run Tryz.prog w = .ok (.tuple #[v, .bool true]) w := by kernel_rfl
set_option maxRecDepth 100000 in
set_option maxHeartbeats 1000000 in
theorem hackCompare_any (va vb : Bool) (A B : Option Addr) (ca cb : Nat) (ns ms : List Nat) (oa ob : ByteArray) (pe pn pi : Addr) (w : World) (hA : Bigs w A ns) (hB : Bigs w B ms) (hna : Small ns) (hnb : Small ms) (hV : PkgVars w pe pn pi) :
    Calls Tryz.prog 101 #[VV va A ns.length ca NoB oa, .iface 82 (VV vb B ms.length cb NoB ob)] w fun e w' => e = .returned (.tuple #[.int .i64 (Pl.hackOrd ns ms), .nilIface]) ∧ Below w.heap.size w w' := by
  obtain ⟨W, hW⟩ : ∃ W, (w.alloc (.cells #[.bool va, .slice A ns.length ca, .string NoB, .string oa] 82)).alloc (.cells #[.bool vb, .slice B ms.length cb, .string NoB, .string ob] 82) = W := ⟨_, rfl⟩
  have hbW : Below w.heap.size w W := by rw [← hW]; exact ((Below.refl _ _).alloc (Nat.le_refl _) _).alloc (by simp) _
  have hP : Blk W w.heap.size 82 #[.bool va, .slice A ns.length ca, .string NoB, .string oa] := by rw [← hW]; exact (Blk.new _ _ _).alloc _
  have hQ : Blk W (w.heap.size + 1) 82 #[.bool vb, .slice B ms.length cb, .string NoB, .string ob] := by
    rw [← hW]
    have := Blk.new (w.alloc (.cells #[.bool va, .slice A ns.length ca, .string NoB, .string oa] 82)) 82 #[.bool vb, .slice B ms.length cb, .string NoB, .string ob]
    rw [World.size_alloc] at this
    exact this
  have HC := Lib.hid (hackCmp_any va vb A B ca cb ns ms oa ob pe pn pi W (hA.below hbW) (hB.below hbW) hna hnb (hV.below hbW))
  have HW := Lib.hid hW
  obtain ⟨z, hz⟩ : ∃ z, Pl.cmpNums ns ms = z := ⟨_, rfl⟩
  have hres : Pl.hackOrd ns ms = if z ≠ 0 then z else Pl.ordI ns.length ms.length := by rw [Pl.hackOrd, hz]
  have hn1 := hna.1
  have hn2 := hnb.1
  rw [hz] at HC
  clear hW hz hA hB hna hnb hV
  by_cases hz0 : z = 0
  · rw [if_neg (by simp [hz0])] at hres
    have HR := Lib.hid hres
    have hz1 : (z != 0) = false := by simp [hz0]
    clear hz0 hres
    by_cases hgt : (ms.length : Int) < (ns.length : Int)
    · have HO : Hid (Pl.ordI ns.length ms.length = 1) := Lib.hid (by rw [Pl.ordI, if_neg (by omega), if_pos hgt])
      go_enter Tryz.func101, Tryz.ntmps101
      go_wp2_with fail
      rw [tassert82]
      go_wp2_with fail
      rw [HW.out]
      refine HC.out.mono ?_; rintro e w1 ⟨rfl, hb1⟩
      have p1 := (hP.below hb1 hP.lt).cell 1
      have q1 := (hQ.below hb1 hQ.lt).cell 1
      simp at p1 q1
      go_wp2
      exact bodyPost_ret (v := .tuple #[.int .i64 1, .nilIface]) (by simp [results, Tryz.results101, go_sem]) rfl ⟨by rw [HR.out, HO.out], hbW.trans (hb1.mono hbW.size)⟩
    · by_cases hlt : (ns.length : Int) < (ms.length : Int)
      · have HO : Hid (Pl.ordI ns.length ms.length = -1) := Lib.hid (by rw [Pl.ordI, if_pos hlt])
        go_enter Tryz.func101, Tryz.ntmps101
        go_wp2_with fail
        rw [tassert82]
        go_wp2_with fail
        rw [HW.out]
        refine HC.out.mono ?_; rintro e w1 ⟨rfl, hb1⟩
        have p1 := (hP.below hb1 hP.lt).cell 1
        have q1 := (hQ.below hb1 hQ.lt).cell 1
        simp at p1 q1
        go_wp2
        exact bodyPost_ret (v := .tuple #[.int .i64 (-1), .nilIface]) (by simp [results, Tryz.results101, go_sem]) rfl ⟨by rw [HR.out, HO.out], hbW.trans (hb1.mono hbW.size)⟩
      · have HO : Hid (Pl.ordI ns.length ms.length = 0) := Lib.hid (by rw [Pl.ordI, if_neg hlt, if_neg hgt])
        go_enter Tryz.func101, Tryz.ntmps101
        go_wp2_with fail
        rw [tassert82]
        go_wp2_with fail
        rw [HW.out]
        refine HC.out.mono ?_; rintro e w1 ⟨rfl, hb1⟩
        have p1 := (hP.below hb1 hP.lt).cell 1
        have q1 := (hQ.below hb1 hQ.lt).cell 1
        simp at p1 q1
        go_wp2
        exact bodyPost_ret (v := .tuple #[.int .i64 0, .nilIface]) (by simp [results, Tryz.results101, go_sem]) rfl ⟨by rw [HR.out, HO.out], hbW.trans (hb1.mono hbW.size)⟩
  · rw [if_pos hz0] at hres
    have HR := Lib.hid hres
    have hz1 : (z != 0) = true := by simpa using hz0
    clear hz0 hres
    go_enter Tryz.func101, Tryz.ntmps101
    go_wp2_with fail
    rw [tassert82]
    go_wp2_with fail
    rw [HW.out]
    refine HC.out.mono ?_; rintro e w1 ⟨rfl, hb1⟩
    go_wp2
    exact bodyPost_ret (v := .tuple #[.int .i64 z, .nilIface]) (by simp [results, Tryz.results101, go_sem]) rfl ⟨by rw [HR.out], hbW.trans (hb1.mono hbW.size)⟩
/-- what comparing a version to a text hands back -/
def HackAns (ns : List Nat) (s : ByteArray) (pi : Addr) (e : Ending) : Prop :=
  (Pl.buildOf s.data.toList = [] ∧ e = .returned (.tuple #[.int .i64 (Pl.hackOrd ns (Pl.numsOf s.data.toList)), .nilIface])) ∨ (Pl.buildOf s.data.toList ≠ [] ∧ e = .returned (.tuple #[.int .i64 0, .iface 305 (.pointer (some pi))]))
set_option maxRecDepth 100000 in
set_option maxHeartbeats 1000000 in
theorem hackStr_any (va : Bool) (A : Option Addr) (ca : Nat) (ns : List Nat) (oa s : ByteArray) (pe pn pi : Addr) (w : World) (hA : Bigs w A ns) (hna : Small ns) (hs : s.size ≤ 30000) (hV : PkgVars w pe pn pi) :
    Calls Tryz.prog 76 #[VV va A ns.length ca NoB oa, .string s] w fun e w' => HackAns ns s pi e ∧ Below w.heap.size w w' := by
  obtain ⟨W, hW⟩ : ∃ W, w.alloc (.cells #[.bool va, .slice A ns.length ca, .string NoB, .string oa] 82) = W := ⟨_, rfl⟩
  have hbW : Below w.heap.size w W := by rw [← hW]; exact (Below.refl _ _).alloc (Nat.le_refl _) _
  have hP : Blk W w.heap.size 82 #[.bool va, .slice A ns.length ca, .string NoB, .string oa] := by rw [← hW]; exact Blk.new _ _ _
  have HW := Lib.hid hW
  clear hW
  by_cases hb : Pl.buildOf s.data.toList = []
  · have HC := Lib.hid (parseHack_ok s pe pn pi W hs (hV.below hbW) hb)
    have hsm := nums_small hs
    have HCC := Lib.hid (fun (w1 : World) (h : Below w.heap.size w w1) B c (hB : Bigs w1 B (Pl.numsOf s.data.toList)) => hackCompare_any va (Pl.startsV s.data.toList) A B ca c ns (Pl.numsOf s.data.toList) oa s pe pn pi w1 (hA.below h) hB hna hsm (hV.below h))
    have HBB := Lib.hid hb
    clear hb hsm hA hna
    go_enter Tryz.func76, Tryz.ntmps76
    go_wp2_with fail
    rw [HW.out]
    refine HC.out.mono ?_; rintro e w1 ⟨B, c, rfl, hob, hb1⟩
    have hbel1 := hbW.trans (hb1.mono hbW.size)
    obtain ⟨X, hX⟩ : ∃ X, w1.alloc (.cells #[.bool (Pl.startsV s.data.toList), .slice B (Pl.numsOf s.data.toList).length c, .string NoB, .string s] 82) = X := ⟨_, rfl⟩
    have hbX : Below w1.heap.size w1 X := by rw [← hX]; exact (Below.refl _ _).alloc (Nat.le_refl _) _
    have hQ : Blk X w1.heap.size 82 #[.bool (Pl.startsV s.data.toList), .slice B (Pl.numsOf s.data.toList).length c, .string NoB, .string s] := by rw [← hX]; exact Blk.new _ _ _
    have hPX := (hP.below hb1 hP.lt).below hbX (Nat.lt_of_lt_of_le hP.lt hb1.size)
    have hbelX := hbel1.trans (hbX.mono hbel1.size)
    have hobX := hob.below hbX
    have HX := Lib.hid hX
    have hP1 := hP.below hb1 hP.lt
    have p0 := hP1.cell 0
    have p1 := hP1.cell 1
    have p2 := hP1.cell 2
    have p3 := hP1.cell 3
    have hlt1 := hP1.lt
    simp at p0 p1 p2 p3
    clear hX
    go_wp2_with fail
    rw [HX.out]
    refine (HCC.out X hbelX B c hobX.bigs).mono ?_; rintro e w3 ⟨rfl, hb3⟩
    go_wp2
    exact bodyPost_ret (v := .tuple #[.int .i64 (Pl.hackOrd ns (Pl.numsOf s.data.toList)), .nilIface]) (by simp [results, Tryz.results76, go_sem]) rfl ⟨Or.inl ⟨HBB.out, rfl⟩, hbelX.trans (hb3.mono hbelX.size)⟩
  · have HC := Lib.hid (parseHack_bad s pe pn pi W hs (hV.below hbW) hb)
    have HBB := Lib.hid hb
    clear hb hA hna hV
    go_enter Tryz.func76, Tryz.ntmps76
    go_wp2_with fail
    rw [HW.out]
    refine HC.out.mono ?_; rintro e w1 ⟨rfl, hb1⟩
    have hbel1 := hbW.trans (hb1.mono hbW.size)
    go_wp2
    exact bodyPost_ret (v := .tuple #[.int .i64 0, .iface 305 (.pointer (some pi))]) (by simp [results, Tryz.results76, go_sem]) rfl ⟨Or.inr ⟨HBB.out, rfl⟩, hbel1.alloc hbel1.size _⟩
/-- what the thin package's compare of two texts hands back -/
def hackText (a b : Pl.Bytes) : Int × Bool := if Pl.buildOf a = [] ∧ Pl.buildOf b = [] then (Pl.hackOrd (Pl.numsOf a) (Pl.numsOf b), true) else (0, false)
theorem hackText_yes {a b : Pl.Bytes} (h1 : Pl.buildOf a = []) (h2 : Pl.buildOf b = []) : hackText a b = (Pl.hackOrd (Pl.numsOf a) (Pl.numsOf b), true) := if_pos ⟨h1, h2⟩
theorem hackText_no {a b : Pl.Bytes} (h : ¬ (Pl.buildOf a = [] ∧ Pl.buildOf b = [])) : hackText a b = (0, false) := if_neg h
set_option maxRecDepth 100000 in
set_option maxHeartbeats 1000000 in
theorem hackText_any (a b : ByteArray) (pe pn pi : Addr) (w : World) (ha : a.size ≤ 30000) (hb : b.size ≤ 30000) (hV : PkgVars w pe pn pi) :
    Calls Tryz.prog 37 #[.string a, .string b] w fun e w' => e = .returned (.tuple #[.int .i64 (hackText a.data.toList b.data.toList).1, .bool (hackText a.data.toList b.data.toList).2]) ∧ Below w.heap.size w w' := by
  obtain ⟨r, hr⟩ : ∃ r, hackText a.data.toList b.data.toList = r := ⟨_, rfl⟩
  rw [hr]
  have HRR := Lib.hid hr
  clear hr
  by_cases h1 : Pl.buildOf a.data.toList = []
  · have HC := Lib.hid (parseHack_ok a pe pn pi w ha hV h1)
    have HS := Lib.hid (fun (w1 : World) (h : Below w.heap.size w w1) A c (hA : Bigs w1 A (Pl.numsOf a.data.toList)) => hackStr_any (Pl.startsV a.data.toList) A c (Pl.numsOf a.data.toList) a b pe pn pi w1 hA (nums_small ha) hb (hV.below h))
    have H1 := Lib.hid h1
    clear h1
    go_enter Tryz.func37, Tryz.ntmps37
    go_wp2_with fail
    refine HC.out.mono ?_; rintro e w1 ⟨A, c, rfl, hob, hb1⟩
    obtain ⟨X, hX⟩ : ∃ X, w1.alloc (.cells #[.bool (Pl.startsV a.data.toList), .slice A (Pl.numsOf a.data.toList).length c, .string NoB, .string a] 82) = X := ⟨_, rfl⟩
    have hbX : Below w1.heap.size w1 X := by rw [← hX]; exact (Below.refl _ _).alloc (Nat.le_refl _) _
    have hQ : Blk X w1.heap.size 82 #[.bool (Pl.startsV a.data.toList), .slice A (Pl.numsOf a.data.toList).length c, .string NoB, .string a] := by rw [← hX]; exact Blk.new _ _ _
    have hbelX := hb1.trans (hbX.mono hb1.size)
    have hobX := hob.below hbX
    have HX := Lib.hid hX
    have q0 := hQ.cell 0
    have q1 := hQ.cell 1
    have q2 := hQ.cell 2
    have q3 := hQ.cell 3
    simp at q0 q1 q2 q3
    clear hX
    go_wp2_with fail
    rw [HX.out]
    go_wp2_with fail
    refine (HS.out X hbelX A c hobX.bigs).mono ?_; rintro e w3 ⟨⟨h2, rfl⟩ | ⟨h2, rfl⟩, hb3⟩
    · have hR := hackText_yes H1.out h2
      have HR := Lib.hid hR
      clear hR h2
      go_wp2_with fail
      go_quiet (fail)
      go_wp2
      exact bodyPost_ret (v := .tuple #[.int .i64 (Pl.hackOrd (Pl.numsOf a.data.toList) (Pl.numsOf b.data.toList)), .bool true]) (by simp [results, Tryz.results37, go_sem]) rfl ⟨by rw [← HRR.out, HR.out], below_drewN (hbelX.trans (hb3.mono hbelX.size)) _⟩
    · have hR := hackText_no (a := a.data.toList) (b := b.data.toList) (fun h => h2 h.2)
      have HR := Lib.hid hR
      clear hR h2
      go_wp2_with fail
      go_quiet (fail)
      go_wp2
      exact bodyPost_ret (v := .tuple #[.int .i64 0, .bool false]) (by simp [results, Tryz.results37, go_sem]) rfl ⟨by rw [← HRR.out, HR.out], below_drewN (hbelX.trans (hb3.mono hbelX.size)) _⟩
  · have HC := Lib.hid (parseHack_bad a pe pn pi w ha hV h1)
    have hR := hackText_no (a := a.data.toList) (b := b.data.toList) (fun h => h1 h.1)
    have HR := Lib.hid hR
    clear hR h1 hV
    go_enter Tryz.func37, Tryz.ntmps37
    go_wp2_with fail
    refine HC.out.mono ?_; rintro e w1 ⟨rfl, hb1⟩
    go_wp2
    exact bodyPost_ret (v := .tuple #[.int .i64 0, .bool false]) (by simp [results, Tryz.results37, go_sem]) rfl ⟨by rw [← HRR.out, HR.out], hb1.alloc hb1.size _⟩
end Go.Proofs.YtgfkdjmoflbmdaaGreatDoor

namespace Go.Proofs.YtgfkdjmoflbmdaaGreatDoor
open Go.RowKit
open Go.Proofs

set_option maxRecDepth 100000 in
set_option maxHeartbeats 2000000 in
theorem NuGetCompare_any (va vb : Bool) (A B : Option Addr) (ca cb : Nat) (ns ms : List Nat) (da db : ByteArray) (oa ob : ByteArray) (w : World)
    (hra : Rd w 2 A ns.length (IntC ns)) (hrb : Rd w 2 B ms.length (IntC ms)) (hfa : Pl.Fits ns) (hfb : Pl.Fits ms) (hda : da.size ≤ 30000) (hdb : db.size ≤ 30000) :
    Calls Tryz.prog 35 #[VV va A ns.length ca da oa, VV vb B ms.length cb db ob] w fun e w' => e = .returned (.tuple #[.int .i64 (Pl.nugetOrd ns ms da.data.toList db.data.toList), .bool true]) ∧ Below w.heap.size w w' := by
  obtain ⟨W, hW⟩ : ∃ W, (w.alloc (.cells #[.bool va, .slice A ns.length ca, .string da, .string oa] 27)).alloc (.cells #[.bool vb, .slice B ms.length cb, .string db, .string ob] 27) = W := ⟨_, rfl⟩
  have hbW : Below w.heap.size w W := by rw [← hW]; exact ((Below.refl _ _).alloc (Nat.le_refl _) _).alloc (by simp) _
  have hP : Blk W w.heap.size 27 #[.bool va, .slice A ns.length ca, .string da, .string oa] := by rw [← hW]; exact (Blk.new _ _ _).alloc _
  have hQ : Blk W (w.heap.size + 1) 27 #[.bool vb, .slice B ms.length cb, .string db, .string ob] := by
    rw [← hW]
    have := Blk.new (w.alloc (.cells #[.bool va, .slice A ns.length ca, .string da, .string oa] 27)) 27 #[.bool vb, .slice B ms.length cb, .string db, .string ob]
    rw [World.size_alloc] at this
    exact this
  have hPd : Blk W.drew w.heap.size 27 #[.bool va, .slice A ns.length ca, .string da, .string oa] := hP
  have hQd : Blk W.drew (w.heap.size + 1) 27 #[.bool vb, .slice B ms.length cb, .string db, .string ob] := hQ
  have hbWd : Below w.heap.size w W.drew := hbW.drew
  have p2 := hP.cell 2
  have q2 := hQ.cell 2
  simp at p2 q2
  have HW := Lib.hid hW
  clear hW
  obtain ⟨R, hR⟩ : ∃ R, Pl.nugetOrd ns ms da.data.toList db.data.toList = R := ⟨_, rfl⟩
  rw [hR]
  have HR := Lib.hid hR
  clear hR
  go_enter Tryz.func35, Tryz.ntmps35
  go_upto_region 1 with (fail)
  rw [HW.out]
  go_cut [] (fun wx => Blk wx w.heap.size 27 #[.bool va, .slice A ns.length ca, S (Pl.lower da.data.toList), .string oa] ∧ Blk wx (w.heap.size + 1) 27 #[.bool vb, .slice B ms.length cb, S (Pl.lower db.data.toList), .string ob] ∧ Below w.heap.size w wx)
  case first =>
    go_region_with (first
      | (go_at_call_of 70 (Value.string da); refine (lower_any da _ hda).mono ?_; rintro e w1 ⟨rfl, hb1⟩; have hP1 := hPd.below hb1 hPd.lt; have hQ1 := hQd.below hb1 hQd.lt; have q12 := hQ1.cell 2; simp at q12; have hbb1 := hbWd.trans (hb1.mono hbWd.size))
      | (go_at_call_of 70 (Value.string db); refine (lower_any db _ hdb).mono ?_; rintro e w2 ⟨rfl, hb2⟩; have hP2 := hP1.below hb2 hP1.lt; have hQ2 := hQ1.below hb2 hQ1.lt; have r2 := hP2.cell 2; have s2 := hQ2.cell 2; have f2 := hP2.frozen 2; have g2 := hQ2.frozen 2; simp at r2 s2; have hbb2 := hbb1.trans (hb2.mono hbb1.size)))
    all_goals go_wp2_with fail
    all_goals go_meet
    all_goals exact ⟨(hP2.set_ 2 (S (Pl.lower da.data.toList))).far (by simp) _, (hQ2.far (by simp) _).set_ 2 (S (Pl.lower db.data.toList)), (hbb2.setCell (by simp) _).setCell (by simp) _⟩
  case rest =>
    obtain ⟨hP3, hQ3, hbb3⟩ := hcut
    have c0 := hP3.cell 0
    have c1 := hP3.cell 1
    have c2 := hP3.cell 2
    have c3 := hP3.cell 3
    have d0 := hQ3.cell 0
    have d1 := hQ3.cell 1
    have d2 := hQ3.cell 2
    have d3 := hQ3.cell 3
    simp at c0 c1 c2 c3 d0 d1 d2 d3
    have HL := Lib.hid (likeOrder_any va vb A B ca cb ns ms ⟨(Pl.lower da.data.toList).toArray⟩ ⟨(Pl.lower db.data.toList).toArray⟩ oa ob _ (hra.below hbb3) (hrb.below hbb3) hfa hfb (by rw [S_size, Pl.lower_len, len_list]; exact hda) (by rw [S_size, Pl.lower_len, len_list]; exact hdb))
    rw [show Pl.likeOrd ns ms (Pl.lower da.data.toList) (Pl.lower db.data.toList) = Pl.nugetOrd ns ms da.data.toList db.data.toList from rfl] at HL
    rw [HR.out] at HL
    clear hfa hfb
    go_wp2_with fail
    refine HL.out.mono ?_; rintro e w4 ⟨rfl, hb4⟩
    go_wp2
    exact bodyPost_ret (v := .tuple #[.int .i64 R, .bool true]) (by simp [results, Tryz.results35, go_sem]) rfl ⟨rfl, hbb3.trans (hb4.mono hbb3.size)⟩
end Go.Proofs.YtgfkdjmoflbmdaaGreatDoor
