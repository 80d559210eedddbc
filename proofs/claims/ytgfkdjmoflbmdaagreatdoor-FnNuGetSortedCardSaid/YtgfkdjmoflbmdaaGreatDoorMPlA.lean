/- PLAIN: a version read byte by byte: the steps. Imports no program. -/
import Derived.Test.YtgfkdjmoflbmdaaGreatDoorMPl8xPl9
namespace Go.Proofs.YtgfkdjmoflbmdaaGreatDoor.Pl

/-- what has been read: the numbers, what is not yet read as one, whether what stands behind the numbers has begun -/
def Read (t : Bytes) (k : Nat) (ns : List Nat) (cur : Bytes) (fb : Bool) : Prop :=
  (fb = false ∧ (t.take k).all coreB = true ∧ ∃ ps, splitB 46 (t.take k) = ps ++ [cur] ∧ ns = numsIn ps) ∨
  (fb = true ∧ ∃ m, m < k ∧ (t.take m).all coreB = true ∧ (∃ c, t[m]? = some c ∧ coreB c = false) ∧ ns = numsIn (splitB 46 (t.take m)) ∧ cur = (t.drop m).take (k - m))
theorem take_at {t : Bytes} {k : Nat} {c : UInt8} (h : t[k]? = some c) : t.take (k + 1) = t.take k ++ [c] := by
  obtain ⟨hk, he⟩ := List.getElem?_eq_some_iff.1 h
  rw [List.take_succ_eq_append_getElem hk, he]
theorem Read.start (t : Bytes) : Read t 0 [] [] false := Or.inl ⟨rfl, by simp, [], by simp [splitB], rfl⟩
theorem Read.more {t : Bytes} {k : Nat} {ns : List Nat} {cur : Bytes} {c : UInt8} (h : Read t k ns cur true) (hc : t[k]? = some c) : Read t (k + 1) ns (cur ++ [c]) true := by
  rcases h with ⟨h, _⟩ | ⟨_, m, h1, h2, h3, h4, h5⟩
  · cases h
  · refine Or.inr ⟨rfl, m, by omega, h2, h3, h4, ?_⟩
    have hd : (t.drop m)[k - m]? = some c := by rw [List.getElem?_drop, show m + (k - m) = k from by omega]; exact hc
    rw [show k + 1 - m = (k - m) + 1 from by omega, take_at hd, ← h5]
theorem Read.digs {t : Bytes} {k : Nat} {ns : List Nat} {cur : Bytes} (h : Read t k ns cur false) : cur.all isDig = true ∧ cur.length ≤ k := by
  rcases h with ⟨_, h1, ps, h2, _⟩ | ⟨h, _⟩
  · have hm : cur ∈ splitB 46 (t.take k) := by rw [h2]; simp
    obtain ⟨h3, h4⟩ := splitB_mem 46 _ cur hm
    refine ⟨List.all_eq_true.2 fun x hx => ?_, Nat.le_trans h3 (by rw [List.length_take]; omega)⟩
    have h5 := List.all_eq_true.1 h1 x (h4 x hx)
    have h6 := splitB_no 46 _ cur hm x hx
    unfold coreB at h5
    rw [Bool.or_eq_true, beq_iff_eq] at h5
    exact h5.resolve_right h6
  · cases h
theorem Read.len {t : Bytes} {k : Nat} {ns : List Nat} {cur : Bytes} {fb : Bool} (h : Read t k ns cur fb) : cur.length ≤ k := by
  cases fb with
  | false => exact h.digs.2
  | true =>
    rcases h with ⟨h, _⟩ | ⟨_, m, h1, _, _, _, h5⟩
    · cases h
    · rw [h5, List.length_take]; omega
theorem numsIn_le (ps : List Bytes) : (numsIn ps).length ≤ ps.length := by
  rw [numsIn, List.length_map]; exact List.length_filter_le _ _
theorem Read.count {t : Bytes} {k : Nat} {ns : List Nat} {cur : Bytes} {fb : Bool} (h : Read t k ns cur fb) : ns.length ≤ t.length + 1 := by
  rcases h with ⟨_, _, ps, h2, h3⟩ | ⟨_, m, _, _, _, h4, _⟩
  · have h5 := splitB_length 46 (t.take k)
    rw [h2, List.length_append, List.length_take] at h5
    have := numsIn_le ps
    rw [h3]; omega
  · have h5 := splitB_length 46 (t.take m)
    rw [List.length_take] at h5
    have := numsIn_le (splitB 46 (t.take m))
    rw [h4]; omega
theorem Read.dig {t : Bytes} {k : Nat} {ns : List Nat} {cur : Bytes} {c : UInt8} (h : Read t k ns cur false) (hc : t[k]? = some c) (hd : isDig c = true) : Read t (k + 1) ns (cur ++ [c]) false := by
  rcases h with ⟨_, h1, ps, h2, h3⟩ | ⟨h, _⟩
  · have hne : c ≠ 46 := by rintro rfl; exact absurd hd (by decide)
    refine Or.inl ⟨rfl, ?_, ps, ?_, h3⟩
    · rw [take_at hc, List.all_append, h1]; simp [coreB, hd]
    · rw [take_at hc, splitB_snoc 46 c _ ps cur h2, if_neg hne]
  · cases h
theorem Read.dot {t : Bytes} {k : Nat} {ns : List Nat} {cur : Bytes} (h : Read t k ns cur false) (hc : t[k]? = some 46) : Read t (k + 1) (if cur = [] then ns else ns ++ [natOf cur]) [] false := by
  rcases h with ⟨_, h1, ps, h2, h3⟩ | ⟨h, _⟩
  · refine Or.inl ⟨rfl, ?_, ps ++ [cur], ?_, ?_⟩
    · rw [take_at hc, List.all_append, h1]; rfl
    · rw [take_at hc, splitB_snoc 46 46 _ ps cur h2, if_pos rfl]; simp
    · rw [numsIn_snoc, h3]
  · cases h
theorem Read.build {t : Bytes} {k : Nat} {ns : List Nat} {cur : Bytes} {c : UInt8} (h : Read t k ns cur false) (hc : t[k]? = some c) (hb : coreB c = false) : Read t (k + 1) (if cur = [] then ns else ns ++ [natOf cur]) [c] true := by
  rcases h with ⟨_, h1, ps, h2, h3⟩ | ⟨h, _⟩
  · refine Or.inr ⟨rfl, k, by omega, h1, ⟨c, hc, hb⟩, ?_, ?_⟩
    · rw [h2, numsIn_snoc, h3]
    · obtain ⟨hk, he⟩ := List.getElem?_eq_some_iff.1 hc
      rw [show k + 1 - k = 0 + 1 from by omega, List.drop_eq_getElem_cons hk, he]; rfl
  · cases h
/-- at the end, nothing behind the numbers -/
theorem Read.done {l t : Bytes} {ns : List Nat} {cur : Bytes} (ht : t = restV l) (h : Read t t.length ns cur false) : numsOf l = (if cur = [] then ns else ns ++ [natOf cur]) ∧ buildOf l = [] := by
  rcases h with ⟨_, h1, ps, h2, h3⟩ | ⟨h, _⟩
  · obtain ⟨w1, w2⟩ := while_at t t.length h1 (Or.inl rfl)
    rw [List.take_length] at h2 w1
    rw [List.drop_length] at w2
    refine ⟨?_, ?_⟩
    · rw [numsOf_eq, coreOf, ← ht, w1, h2, numsIn_snoc, h3]
    · rw [buildOf, ← ht, w2]
  · cases h
theorem Read.doneB {l t : Bytes} {ns : List Nat} {cur : Bytes} (ht : t = restV l) (h : Read t t.length ns cur true) : numsOf l = ns ∧ buildOf l = cur := by
  rcases h with ⟨h, _⟩ | ⟨_, m, h1, h2, h3, h4, h5⟩
  · cases h
  · obtain ⟨w1, w2⟩ := while_at t m h2 (Or.inr h3)
    refine ⟨?_, ?_⟩
    · rw [numsOf_eq, coreOf, ← ht, w1, h4]
    · rw [buildOf, ← ht, w2, h5, List.take_of_length_le (by rw [List.length_drop]; exact Nat.le_refl _)]
end Go.Proofs.YtgfkdjmoflbmdaaGreatDoor.Pl
