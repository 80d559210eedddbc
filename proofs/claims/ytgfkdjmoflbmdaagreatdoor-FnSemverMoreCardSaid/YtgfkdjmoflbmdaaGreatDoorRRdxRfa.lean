/- Words for the divisions; Numbers in blocks of their own. -/
import Derived.Test.YtgfkdjmoflbmdaaGreatDoorRRaxRe
import Derived.Laws.CopyOwn
import Derived.Laws.Bits64b
import Derived.LaidEqlPtr
namespace Go.Proofs.YtgfkdjmoflbmdaaGreatDoor
open Go.RowKit
open Go.Proofs
structure DivIn (w : World) (A : Option Addr) (ns bq oq Nq bu ou Nu bv ov : Nat) (qs us vs : List Nat) : Prop where
  arrq : Arr w bq Nq
  fitq : oq + qs.length ≤ Nq
  atq : WAt w bq oq qs
  arru : Arr w bu Nu
  fitu : ou + us.length ≤ Nu
  atu : WAt w bu ou us
  arrv : ∃ N, Arr w bv N
  atv : WAt w bv ov vs
  qu : bq ≠ bu ∨ oq + qs.length ≤ ou ∨ ou + us.length ≤ oq
  qv : bq ≠ bv ∨ oq + qs.length ≤ ov ∨ ov + vs.length ≤ oq
  uv : bu ≠ bv ∨ ou + us.length ≤ ov ∨ ov + vs.length ≤ ou
  sq : A = some ⟨bq, 0, none⟩ → oq + qs.length ≤ ns
  su : A = some ⟨bu, 0, none⟩ → ou + us.length ≤ ns
  sv : A = some ⟨bv, 0, none⟩ → ov + vs.length ≤ ns
  ult : ∀ d ∈ us, d < M
  qlt : ∀ d ∈ qs, d < M
  vlt : ∀ d ∈ vs, d < M
theorem StkAt.top {w : World} {p : Nat} {q : Option Nat} {A : Option Addr} {n c : Nat} (h : StkAt w p q A n c) : ∃ v, Blk w p 226 #[v] := by
  cases q with
  | none => exact ⟨_, h.1⟩
  | some q => exact ⟨_, h.1⟩
theorem StkAt.ne {w : World} {p b N : Nat} {q : Option Nat} {A : Option Addr} {n c : Nat} (h : StkAt w p q A n c) (ha : Arr w b N) : b ≠ p ∧ q ≠ some b := by
  obtain ⟨v, hp⟩ := h.top
  refine ⟨hp.not_arr (by decide) ha, ?_⟩
  rintro rfl
  exact h.2.inner.not_arr (by decide) ha rfl
theorem stk_keeps {w w2 : World} {p b o N ns c : Nat} {q : Option Nat} {A : Option Addr} {xs : List Nat} (hS : StkAt w p q A ns c) (hch : Chg w w2 (fun b off => b = p ∨ q = some b ∨ (A = some ⟨b, 0, none⟩ ∧ off = ns))) (ha : Arr w b N) (hx : WAt w b o xs) (hs : A = some ⟨b, 0, none⟩ → o + xs.length ≤ ns) : WAt w2 b o xs := by
  obtain ⟨h1, h2⟩ := hS.ne ha
  refine hch.at hx (fun j hj h => ?_)
  rcases h with h | h | ⟨h, h3⟩
  · exact h1 h
  · exact h2 h
  · have := hs h; omega
theorem getD_lt {l : List Nat} (h : ∀ d ∈ l, d < M) (i : Nat) : l.getD i 0 < M := by
  rw [List.getD_eq_getElem?_getD]
  rcases Nat.lt_or_ge i l.length with h1 | h1
  · rw [List.getElem?_eq_getElem h1]
    exact h _ (List.getElem_mem h1)
  · rw [List.getElem?_eq_none h1]
    exact M_pos
theorem WAt.getD {w : World} {b o : Nat} {ws : List Nat} (h : WAt w b o ws) {i : Nat} (hi : i < ws.length) : w.cell? ⟨b, o + i, none⟩ = some (.int .u64 ((ws.getD i 0 : Nat) : Int)) := by
  rw [h i hi]
  simp [List.getD_eq_getElem?_getD, hi]
theorem val_ge_top (b : Nat) (l : List Nat) (n : Nat) (hl : l.length = n + 1) : l.getD n 0 * b ^ n ≤ Pl.val b l := by
  have h := Pl.val_take_drop b l n (by omega)
  rw [List.drop_eq_getElem_cons (by omega : n < l.length), List.drop_of_length_le (by omega)] at h
  simp only [Pl.val, Nat.mul_zero, Nat.add_zero] at h
  have e : l.getD n 0 = l[n] := by simp [List.getD_eq_getElem?_getD, show n < l.length from by omega]
  rw [e, h, Nat.mul_comm]
  omega
def DivS (bq oq lq bu ou lu g ns n : Nat) (b off : Nat) : Prop := (b = g ∧ ns ≤ off ∧ off < ns + n) ∨ (b = bu ∧ ou ≤ off ∧ off < ou + lu) ∨ (b = bq ∧ oq ≤ off ∧ off < oq + lq)
theorem StkAt.chg {w w' : World} {p n c : Nat} {q : Option Nat} {A : Option Addr} {S : Nat → Nat → Prop} (h : StkAt w p q A n c) (hc : Chg w w' S) (hS : ∀ b off, S b off → ∃ N, Arr w b N) : StkAt w' p q A n c := by
  have keep : ∀ (b : Nat) (t : TypeId) (cs : Array Value), t ≠ 179 → Blk w b t cs → Blk w' b t cs := by
    intro b t cs ht hB
    refine (hc.blk b (fun off hs => ?_) hB.lt).trans hB
    obtain ⟨N, hN⟩ := hS b off hs
    exact hB.not_arr ht hN rfl
  have arrk : SlW w A n c → SlW w' A n c := by
    rintro (h | ⟨g, h1, h2, h3⟩)
    · exact Or.inl h
    · exact Or.inr ⟨g, h1, hc.arr _ _ h2, h3⟩
  cases q with
  | none => exact ⟨keep _ _ _ (by decide) h.1, h.2⟩
  | some q => exact ⟨keep _ _ _ (by decide) h.1, ⟨keep _ _ _ (by decide) h.2.inner, arrk h.2.arr⟩⟩
theorem StkAt.below {w w' : World} {p n c : Nat} {q : Option Nat} {A : Option Addr} (h : StkAt w p q A n c) (hb : Below w.heap.size w w') : StkAt w' p q A n c :=
  h.chg (Chg.of_below hb (fun _ _ => False)) (fun _ _ h => h.elim)
def DivCh (p : Nat) (q : Option Nat) (A : Option Addr) (ns bq oq lq bu ou lu : Nat) (b off : Nat) : Prop :=
  b = p ∨ q = some b ∨ (A = some ⟨b, 0, none⟩ ∧ ns ≤ off) ∨ (b = bu ∧ ou ≤ off ∧ off < ou + lu) ∨ (b = bq ∧ oq ≤ off ∧ off < oq + lq)
def DivBack (w : World) (p : Nat) (q : Option Nat) (A : Option Addr) (ns bq oq lq bu ou : Nat) (us vs : List Nat) (e : Ending) (w' : World) : Prop :=
  e = .returned (.tuple #[]) ∧ ∃ (us' qs' : List Nat) (q' : Nat) (g c' : Nat), Pl.KInv M us vs 0 us' qs' ∧ qs'.length = lq ∧ WAt w' bu ou us' ∧ WAt w' bq oq qs' ∧ StkAt w' p (some q') (some ⟨g, 0, none⟩) ns c' ∧
    (A = some ⟨g, 0, none⟩ ∨ w.heap.size ≤ g) ∧ (q = some q' ∨ (q = none ∧ w.heap.size ≤ q')) ∧ Chg w w' (DivCh p q A ns bq oq lq bu ou us.length)
theorem no_panic {P : Program} {c : Code} {K : Act → World → Prop} {Q : Exit → Act → World → Prop} {a : Act} {w : World} (h : c.wp P (Exit.then K (fun _ _ _ => False)) a w) : c.wp P (Exit.then K Q) a w :=
  wp_mono h (fun e a w h => by
    cases e with
    | normal => exact h
    | _ => exact h.elim)
theorem WAt.app {w : World} {b o : Nat} {l1 l2 : List Nat} (h1 : WAt w b o l1) (h2 : WAt w b (o + l1.length) l2) : WAt w b o (l1 ++ l2) := by
  intro j hj
  rcases Nat.lt_or_ge j l1.length with h | h
  · rw [h1 j h, List.getElem_append_left h]
  · have := h2 (j - l1.length) (by rw [List.length_append] at hj; omega)
    rw [show o + l1.length + (j - l1.length) = o + j from by omega] at this
    rw [this, List.getElem_append_right h]
theorem WAt.left {w : World} {b o : Nat} {l1 l2 : List Nat} (h : WAt w b o (l1 ++ l2)) : WAt w b o l1 := by
  intro j hj
  rw [h j (by rw [List.length_append]; omega), List.getElem_append_left hj]
theorem WAt.right {w : World} {b o : Nat} {l1 l2 : List Nat} (h : WAt w b o (l1 ++ l2)) : WAt w b (o + l1.length) l2 := by
  intro j hj
  have := h (l1.length + j) (by rw [List.length_append]; omega)
  rw [← Nat.add_assoc] at this
  rw [this, List.getElem_append_right (by omega)]
  simp
theorem WAt.take {w : World} {b o : Nat} {l : List Nat} (h : WAt w b o l) (k : Nat) : WAt w b o (l.take k) := by
  rw [← List.take_append_drop k l] at h; exact h.left
theorem WAt.drop {w : World} {b o : Nat} {l : List Nat} (h : WAt w b o l) (k : Nat) (hk : k ≤ l.length) : WAt w b (o + k) (l.drop k) := by
  rw [← List.take_append_drop k l] at h
  have := h.right
  rwa [List.length_take, Nat.min_eq_left hk] at this
theorem Arr.has {w : World} {b N i : Nat} (h : Arr w b N) (hi : i < N) : (∃ u, w.cell? ⟨b, i, none⟩ = some u) ∧ w.frozen? ⟨b, i, none⟩ = false := by
  obtain ⟨l, hB, hl⟩ := h
  refine ⟨⟨_, by rw [hB.cell i]; exact Array.getElem?_eq_getElem (h := by simp only [List.size_toArray]; omega)⟩, hB.frozen i⟩
theorem Arr.put {w : World} {b N i : Nat} (h : Arr w b N) (hi : i < N) (u : Value) : (w.setCell ⟨b, i, none⟩ u).cell? ⟨b, i, none⟩ = some u := by
  obtain ⟨l, hB, hl⟩ := h
  rw [(hB.set_ i u).cell i]
  simp [hl, hi]
theorem WAt.one {w : World} {b o x : Nat} (h : w.cell? ⟨b, o, none⟩ = some (.int .u64 (x : Int))) : WAt w b o [x] := by
  intro j hj
  have : j = 0 := by simp at hj; omega
  subst this
  exact h
theorem rdW {w : World} {b o n : Nat} {ws : List Nat} (hX : WAt w b o ws) (hn : ws.length = n) : Rd w 1 (some ⟨b, o, none⟩) n (WC ws) := by
  refine ⟨by rw [WC_len, hn, Nat.mul_one], fun _ => ⟨b, o, rfl, fun j u hu => ?_⟩⟩
  have hj : j < ws.length := by
    have := (List.getElem?_eq_some_iff.1 hu).1
    rwa [WC_len] at this
  rw [WC_get ws j hj] at hu
  rw [← Option.some.inj hu]
  exact hX j hj
def Old (w : World) (A : Option Addr) (c : Nat) : Prop := (A = none ∧ c = 0) ∨ ∃ b, A = some ⟨b, 0, none⟩ ∧ Arr w b c ∧ c ≤ maxLen
def MadeW (w : World) (A : Option Addr) (c m : Nat) (e : Ending) (w' : World) : Prop :=
  ∃ g c', e = .returned (.slice (some ⟨g, 0, none⟩) m c') ∧ m ≤ c' ∧ c' ≤ maxLen ∧ Arr w' g c' ∧ Below w.heap.size w w' ∧ ((A = some ⟨g, 0, none⟩ ∧ c' = c ∧ m ≤ c ∧ w' = w) ∨ (w.heap.size ≤ g ∧ c < m))
theorem Arr.len_eq {w : World} {b N N' : Nat} (h : Arr w b N) (h' : Arr w b N') : N = N' := by
  obtain ⟨l, h1, h2⟩ := h
  obtain ⟨l', h1', h2'⟩ := h'
  unfold Blk at h1 h1'
  rw [h1] at h1'
  have e : l.toArray = l'.toArray := by injection h1' with h; injection h
  have e2 : l = l' := by simpa using e
  rw [← h2, ← h2', e2]
theorem Blk.arr {w : World} {b N : Nat} {cs : Array Value} (h : Blk w b 179 cs) (hs : cs.size = N) : Arr w b N := ⟨cs.toList, by rw [Array.toArray_toList]; exact h, by simpa using hs⟩
theorem makeW_any (A : Option Addr) (n c m : Nat) (w : World) (hO : Old w A c) (hn : n ≤ c) (hm : 1 ≤ m) (hml : m ≤ 1000000) : Calls Tryz.prog 168 #[.slice A n c, .int .i64 (m : Int)] w (MadeW w A c m) := by
  obtain ⟨xs, hown⟩ : ∃ xs, w.ownsRow 0 179 1 (.slice A n c) n xs := by
    rcases hO with ⟨rfl, rfl⟩ | ⟨b, rfl, ⟨l, hB, hl⟩, hcm⟩
    · obtain rfl : n = 0 := by omega
      exact ⟨[], rfl, Or.inl ⟨rfl, rfl⟩⟩
    · refine ⟨l.take n, by simp; omega, Or.inr ⟨b, c, l.toArray, rfl, Nat.zero_le _, hB, hn, hcm, by simp; exact hl, by simp⟩⟩
  have h := make_any 0 n c m A xs w hown hm hml (Nat.zero_le _)
  by_cases hfit : m ≤ c
  · rcases hO with ⟨rfl, rfl⟩ | ⟨b, rfl, hA, hcm⟩
    · omega
    · have hfz : (m : Int) ≤ (c : Int) := by omega
      clear h hown
      go_enter Tryz.func168, Tryz.ntmps168
      go_wp2
      go_ret
      exact ⟨b, c, rfl, hfit, hcm, hA, Below.refl _ _, Or.inl ⟨rfl, rfl, hfit, rfl⟩⟩
  · refine h.mono ?_
    rintro e w' ⟨g, c', tail, rfl, _, hB, hts, hmc, hcm, hb, hor⟩
    rcases hor with ⟨rfl, rfl⟩ | hg
    · exfalso
      rcases hO with ⟨h1, _⟩ | ⟨b, h1, h2, _⟩
      · cases h1
      · have hbg : b = g := by injection h1 with h1; injection h1 with h1; exact h1.symm
        subst hbg
        have := (hB.arr hts).len_eq h2
        omega
    · exact ⟨g, c', rfl, hmc, hcm, hB.arr hts, hb, Or.inr ⟨hg, by omega⟩⟩
theorem normW_any (b o cap n : Nat) (ws : List Nat) (w : World) (hn : ws.length = n) (hnc : n ≤ cap) (hl : n ≤ 1000000) (hX : WAt w b o ws) (hlt : ∀ d ∈ ws, d < M) :
    Calls Tryz.prog 170 #[.slice (some ⟨b, o, none⟩) n cap] w fun e w' => e = .returned (.slice (some ⟨b, o, none⟩) (Pl.digs M (Pl.val M ws)).length cap) ∧ (Pl.digs M (Pl.val M ws)).length ≤ n ∧ ws.take (Pl.digs M (Pl.val M ws)).length = Pl.digs M (Pl.val M ws) ∧ w = w' :=
  norm_any _ n cap ws w hn hnc hl (rdW hX hn) hlt
theorem WC_one (l : List Nat) : ∀ v ∈ WC l, v.oneCell' = true := by
  intro v hv
  obtain ⟨d, _, rfl⟩ := List.mem_map.1 hv
  rfl
theorem setRow_words {w : World} {b off N : Nat} {l : List Value} {xs : List Nat} (hB : Blk w b 179 l.toArray) (hl : l.length = N) (hfit : off + xs.length ≤ N) :
    WAt (w.setRow b (l.take off ++ (WC xs ++ l.drop (off + (WC xs).length))).toArray) b off xs ∧ Wr w (w.setRow b (l.take off ++ (WC xs ++ l.drop (off + (WC xs).length))).toArray) b off xs.length := by
  have hB' : Blk (w.setRow b (l.take off ++ (WC xs ++ l.drop (off + (WC xs).length))).toArray) b 179 (splice l off (WC xs)).toArray := by
    have := setRow_heap w b _ (l.take off ++ (WC xs ++ l.drop (off + (WC xs).length))).toArray 179 _ hB
    unfold Blk splice
    rw [List.append_assoc]
    exact this
  have hg : w.grownBy (w.setRow b (l.take off ++ (WC xs ++ l.drop (off + (WC xs).length))).toArray) (some b) :=
    ⟨rfl, rfl, rfl, by simp [World.setRow], fun k _ hk => setRow_other w b k _ (fun e => hk (by rw [e]))⟩
  refine ⟨WAt.of_splice hB' (by omega), ?_⟩
  have := Wr.of_splice hB hB' hg (by rw [WC_len]; omega)
  rw [WC_len] at this ⊢
  exact this
theorem run_copyW (b off N dLen dCap bx ox sLen sCap : Nat) (xs : List Nat) (dT sT ty : TypeId) (hu : Tryz.prog.underlying dT = some (.slice 179)) (w : World) (hA : Arr w b N) (hX : WAt w bx ox xs) (hn : xs.length = Nat.min sLen dLen) (hfit : off + xs.length ≤ N) :
    ∃ w', (Builtin.copy_ #[dT, sT] ty #[.slice (some ⟨b, off, none⟩) dLen dCap, .slice (some ⟨bx, ox, none⟩) sLen sCap]).run Tryz.prog w = .ok (.int .i64 (xs.length : Int)) w' ∧ WAt w' b off xs ∧ Wr w w' b off xs.length := by
  obtain ⟨l, hB, hl⟩ := hA
  obtain ⟨i0, hi, hz0, hz1, hz2⟩ := info_parts info179
  have h2 := setRow_words hB hl hfit
  have hrun := run_copy_row (P := Tryz.prog) w dT sT ty 179 b off dLen dCap ⟨bx, ox, none⟩ sLen sCap l.toArray 179 (WC xs) hu (by rw [hi]; simp [hz1]) hB (by rw [WC_len]; exact hn) (fun j v hv => by
    have hj : j < xs.length := by
      have := (List.getElem?_eq_some_iff.1 hv).1
      rwa [WC_len] at this
    rw [WC_get xs j hj] at hv
    rw [← Option.some.inj hv, Addr.add_lit]
    exact hX j hj) (by rw [WC_len]; simp; omega) (WC_one xs)
  refine ⟨_, ?_, h2.1, h2.2⟩
  rw [hrun]
  simp [WC_len, goInt]
theorem zeroCells_words (n : Nat) : (Builtin.zeroCells #[.int .u64 0] n).toList = WC (List.replicate n 0) := by
  apply List.ext_getElem
  · simp [Builtin.zeroCells, WC]
  · intro j h1 h2
    simp [Builtin.zeroCells, WC, Nat.mod_one]
theorem run_clearW (b off N n cap : Nat) (dT ty : TypeId) (hu : Tryz.prog.underlying dT = some (.slice 179)) (w : World) (hA : Arr w b N) (hfit : off + n ≤ N) :
    ∃ w', (Builtin.clear_ #[dT] ty #[.slice (some ⟨b, off, none⟩) n cap]).run Tryz.prog w = .ok (.tuple #[]) w' ∧ WAt w' b off (List.replicate n 0) ∧ Wr w w' b off n := by
  obtain ⟨l, hB, hl⟩ := hA
  obtain ⟨i0, hi, hz0, hz1, hz2⟩ := info_parts info179
  rcases Nat.eq_zero_or_pos n with h0 | h0
  · subst h0
    refine ⟨w, ?_, fun j hj => by simp at hj, Wr.refl _ _ _ _⟩
    simp [Builtin.clear_, run_underlying hu]
  · have h2 := setRow_words (xs := List.replicate n 0) hB hl (by simpa using hfit)
    rw [List.length_replicate] at h2
    refine ⟨_, ?_, h2.1, h2.2⟩
    obtain ⟨k, rfl⟩ : ∃ k, n = k + 1 := ⟨n - 1, by omega⟩
    have hst := run_storeCells_at Tryz.prog b off 179 (WC (List.replicate (k + 1) 0)) 0 l.toArray w hB (by rw [WC_len]; simp; omega) (WC_one _)
    simp [Builtin.clear_, run_underlying hu, zeroValue, typeInfo, hi, hz0, Value.cells]
    rw [zeroCells_words, hst]
    simp [Result.andThen]
theorem bits_or {a b : Nat} (ha : a < M) (hb : b < M) : bits .or .u64 (a : Int) (b : Int) = ((a ||| b : Nat) : Int) := bits_or_u64_nat a b (by rw [M_eq] at ha; exact ha) (by rw [M_eq] at hb; exact hb)
theorem smear_or {d k s : Nat} (h : d < 2 ^ k) : d ≤ (d ||| d / 2 ^ s) ∧ (d ||| d / 2 ^ s) < 2 ^ k :=
  ⟨Nat.left_le_or, Nat.or_lt_two_pow h (Nat.lt_of_le_of_lt (Nat.div_le_self _ _) h)⟩
theorem under239 : Tryz.prog.underlying 239 = some (.pointer 179) := by kernel_rfl
theorem neq_same (a : Addr) (W : World) : (binOp .neq 239 (.pointer (some a)) (.pointer (some a))).run Tryz.prog W = .ok (.bool false) W := by
  obtain ⟨i0, hi, _⟩ := info_parts info179
  exact Lib.run_neq_ptr_same W a under239 hi
set_option maxRecDepth 100000 in
set_option maxHeartbeats 2000000 in
theorem bitLenW_any (b o c n k d : Nat) (ws : List Nat) (w : World) (hX : WAt w b o (ws ++ [d])) (hn : ws.length = n) (hl : n ≤ 100000) (hd : Pl.Bits d k) (hk : 0 < k) (hk2 : k ≤ 64) :
    Calls Tryz.prog 177 #[.slice (some ⟨b, o, none⟩) (n + 1) c] w fun e w' => e = .returned (.int .i64 ((64 * n + k : Nat) : Int)) ∧ w = w' := by
  have hc := hX n (by simp [hn])
  have hce : (ws ++ [d])[n]'(by simp [hn]) = d := by rw [List.getElem_append_right (by omega)]; simp [hn]
  rw [hce] at hc
  have hdk := hd.hi
  have h2k : 2 ^ k ≤ M := by rw [show M = 2 ^ 64 from rfl]; exact Nat.pow_le_pow_right (by omega) hk2
  have st : ∀ (s x : Nat), 2 ^ (k - 1) ≤ x → x < 2 ^ k → bits .or .u64 (x : Int) ((x / 2 ^ s : Nat) : Int) = ((x ||| x / 2 ^ s : Nat) : Int) ∧ 2 ^ (k - 1) ≤ (x ||| x / 2 ^ s) ∧ (x ||| x / 2 ^ s) < 2 ^ k := by
    intro s x h1 h2
    obtain ⟨h3, h4⟩ := smear_or (s := s) h2
    exact ⟨bits_or (by omega) (Nat.lt_of_le_of_lt (Nat.div_le_self _ _) (by omega)), by omega, h4⟩
  obtain ⟨e1, l1, u1⟩ := st 1 d hd.lo hdk
  obtain ⟨d1, hd1⟩ : ∃ x, d ||| d / 2 ^ 1 = x := ⟨_, rfl⟩
  rw [hd1] at e1 l1 u1
  obtain ⟨e2, l2, u2⟩ := st 2 d1 l1 u1
  obtain ⟨d2, hd2⟩ : ∃ x, d1 ||| d1 / 2 ^ 2 = x := ⟨_, rfl⟩
  rw [hd2] at e2 l2 u2
  obtain ⟨e3, l3, u3⟩ := st 4 d2 l2 u2
  obtain ⟨d3, hd3⟩ : ∃ x, d2 ||| d2 / 2 ^ 4 = x := ⟨_, rfl⟩
  rw [hd3] at e3 l3 u3
  obtain ⟨e4, l4, u4⟩ := st 8 d3 l3 u3
  obtain ⟨d4, hd4⟩ : ∃ x, d3 ||| d3 / 2 ^ 8 = x := ⟨_, rfl⟩
  rw [hd4] at e4 l4 u4
  obtain ⟨e5, l5, u5⟩ := st 16 d4 l4 u4
  obtain ⟨d5, hd5⟩ : ∃ x, d4 ||| d4 / 2 ^ 16 = x := ⟨_, rfl⟩
  rw [hd5] at e5 l5 u5
  obtain ⟨e6, l6, u6⟩ := st 32 d5 l5 u5
  obtain ⟨d6, hd6⟩ : ∃ x, d5 ||| d5 / 2 ^ 32 = x := ⟨_, rfl⟩
  rw [hd6] at e6 l6 u6
  have i1 : IntKind.i64.wrap ((n : Int) + 1 - 1) = (n : Int) := by rw [IntWalk.i64_in _ (by omega)]; omega
  have HL := Lib.hid (Tryz.bits_Len (d6 : Int) w (by omega) (by rw [M_eq] at h2k; omega))
  have hbl : Lib.bitLen d6 = k := by
    obtain ⟨j, rfl⟩ : ∃ j, k = j + 1 := ⟨k - 1, by omega⟩
    exact bitLen_of (by simpa using l6) u6 (by omega)
  rw [Int.toNat_natCast, hbl] at HL
  clear hd1 hd2 hd3 hd4 hd5 hd6 l1 l2 l3 l4 l5 l6 u1 u2 u3 u4 u5 u6 st hbl hdk h2k
  have f1 : bits .or .u64 (d : Int) ((d : Int) / 2) = (d1 : Int) := by rw [← e1]; simp
  have f2 : bits .or .u64 (d1 : Int) ((d1 : Int) / 4) = (d2 : Int) := by rw [← e2]; simp
  have f3 : bits .or .u64 (d2 : Int) ((d2 : Int) / 16) = (d3 : Int) := by rw [← e3]; simp
  have f4 : bits .or .u64 (d3 : Int) ((d3 : Int) / 256) = (d4 : Int) := by rw [← e4]; simp
  have f5 : bits .or .u64 (d4 : Int) ((d4 : Int) / 65536) = (d5 : Int) := by rw [← e5]; simp
  have f6 : bits .or .u64 (d5 : Int) ((d5 : Int) / 65536 / 65536) = (d6 : Int) := by rw [← e6]; congr 1; omega
  clear e1 e2 e3 e4 e5 e6 hce hd hX
  have hn0 : (0 : Int) ≤ (n : Int) := by omega
  go_enter Tryz.func177, Tryz.ntmps177
  go_wp2_with fail
  refine HL.out.mono ?_; rintro e w2 ⟨rfl, rfl⟩
  go_wp2
  go_ret
  exact ⟨ret_int (by omega), rfl⟩
def condOf (k : Nat) : Code → Option Code
  | .cond (.tmp n) a b => if n = k then some (.cond (.tmp n) a b) else match condOf k a with
    | some c => some c
    | none => condOf k b
  | .cond _ a b => match condOf k a with
    | some c => some c
    | none => condOf k b
  | .seq a b => match condOf k a with
    | some c => some c
    | none => condOf k b
  | .loop c => condOf k c
  | .block _ c => condOf k c
  | .scope c => condOf k c
  | _ => none
theorem wp_code {P : Program} {c c' : Code} {Q : Exit → Act → World → Prop} {a : Act} {w : World} (e : c' = c) (h : c'.wp P Q a w) : c.wp P Q a w := e ▸ h
set_option maxRecDepth 100000 in
set_option maxHeartbeats 8000000 in
theorem divGuess (bu ou lu cu bv ov n cv j kk x y1 y0 a1 a0 rc Q : Nat) (w4 : World) (ds : List Deferred) {s0 s1 s4 s5 s6 s7 s9 s10 s16 s17 s18 s19 s20 s21 s22 s23 s24 s25 s26 s27 s28 s29 s30 s31 s32 s33 s34 s35 s36 s37 s38 s39 s40 s41 s42 s43 s44 s45 s46 s47 s48 s49 s50 s52 s53 s54 s55 s56 s57 s58 s59 s60 s61 s62 s63 s64 s65 s66 s67 s68 s69 s70 s71 s72 s73 s74 s75 s76 s77 s78 s79 s80 s81 s82 s83 s84 s85 s86 s87 s88 s89 s90 s91 s92 s93 s94 s95 s96 s97 s98 s99 s100 s101 s102 s103 s104 s105 s106 s107 s108 s109 s110 s111 s112 s113 s114 s115 s116 s117 s118 s119 s120 s121 s122 s123 s124 s125 s126 s127 s128 s129 s130 s131 s132 s133 s134 s135 s136 s137 s138 s139 s140 s141 s142 s143 s144 s145 s146 s147 s148 s149 s150 s151 s152 s153 s154 s155 s156 s157 s158 s159 s160 s161 s162 s163 s164 s165 s166 s167 s168 s169 s170 s171 s172 s173 s174 s175 s176 s177 s178 s179 s180 s181 s182 s183 s184 s185 s186 s187 s188 s189 s190 s191 s192 s193 s194 s195 s196 s197 s198 s199 s200 : Value} {K : Act → World → Prop} {Q0 : Exit → Act → World → Prop}
    (hnorm : M ≤ 2 * y1) (hyM : y1 < M) (ha0M : a0 < M) (ha1M : a1 < M) (hy0M : y0 < M)
    (HDW : Hid (∀ (x1 x0 : Nat) (W : World), x1 < y1 → x0 < M → Calls Tryz.prog 243 #[.int .u64 (x1 : Int), .int .u64 (x0 : Int), .int .u64 (y1 : Int), .int .u64 (rc : Int)] W fun e w' => e = .returned (.tuple #[.int .u64 (((x1 * M + x0) / y1 : Nat) : Int), .int .u64 (((x1 * M + x0) % y1 : Nat) : Int)]) ∧ W = w'))
    (hxy1 : x ≤ y1) (HG2 : Hid (x = y1 → Q ≤ M - 1 ∧ M - 1 ≤ Q + 1)) (HG3 : Hid (x < y1 → ((x * M + a1) * M + a0) / (y1 * M + y0) < M ∧ Q ≤ ((x * M + a1) * M + a0) / (y1 * M + y0) ∧ ((x * M + a1) * M + a0) / (y1 * M + y0) ≤ Q + 1 ∧ (x = 0 → ((x * M + a1) * M + a0) / (y1 * M + y0) ≤ 1)))
    (cy0 : w4.cell? ⟨bv, ov + kk, none⟩ = some (.int .u64 (y0 : Int))) (ca1 : w4.cell? ⟨bu, ou + (j + (kk + 1)), none⟩ = some (.int .u64 (a1 : Int))) (ca0 : w4.cell? ⟨bu, ou + (j + kk), none⟩ = some (.int .u64 (a0 : Int)))
    (i4 : IntKind.i64.wrap ((j : Int) + (n : Int) - 1) = ((j + (kk + 1) : Nat) : Int)) (i5 : IntKind.i64.wrap ((j : Int) + (n : Int) - 2) = ((j + kk : Nat) : Int)) (i6 : IntKind.i64.wrap ((n : Int) - 2) = (kk : Int)) (b1 : j + (kk + 1) < lu) (b3 : kk < n) (hnb : n ≤ 400) (hjb : j ≤ 400)
    (hK : ∀ (qh : Nat) {v16 v17 v18 v19 v20 v51 v52 v53 v54 v55 v56 v57 v58 v59 v60 v61 v62 v63 v64 v65 v66 v67 v68 v69 v70 v71 v72 v73 v74 v75 v76 v77 v78 v79 v80 v81 v82 v83 v84 v85 v86 v87 v88 v89 v90 v91 v92 v93 v94 v95 v96 v97 v98 v99 v100 v101 v102 v103 v104 v105 v106 v107 v108 v109 v110 v111 v112 v113 v114 v115 v116 v117 v118 v119 v120 v121 v122 v123 v124 v125 v126 v127 v128 v129 v130 v131 v132 v133 v134 v135 v136 v137 v138 v139 v140 v141 v142 v143 v144 v145 v146 v147 v148 v149 v150 v151 v152 v153 v154 v155 v156 v157 v158 v159 v160 v161 v162 v163 v164 v165 v166 v167 v168 v169 v170 v171 v172 v173 v174 v175 v176 v177 v178 v179 v180 v181 v182 v183 v184 v185 v186 v187 v188 v189 v190 v191 v192 v193 v194 v195 v196 v197 v198 v199 v200 : Value}, qh < M → Q ≤ qh → qh ≤ Q + 1 → (x = 0 → qh ≤ 1) → K ⟨#[s0, s1, .slice (some ⟨bu, ou, none⟩) lu cu, .slice (some ⟨bv, ov, none⟩) n cv, s4, s5, s6, s7, .int .i64 (n : Int), s9, s10, .int .u64 (y1 : Int), .int .u64 (rc : Int), .int .u64 (x : Int), .int .i64 (j : Int), .int .u64 (qh : Int), v16, v17, v18, v19, v20, s21, s22, s23, s24, s25, s26, s27, s28, s29, s30, s31, s32, s33, s34, s35, s36, s37, s38, s39, s40, s41, s42, s43, s44, s45, s46, s47, s48, s49, s50, v51, v52, v53, v54, v55, v56, v57, v58, v59, v60, v61, v62, v63, v64, v65, v66, v67, v68, v69, v70, v71, v72, v73, v74, v75, v76, v77, v78, v79, v80, v81, v82, v83, v84, v85, v86, v87, v88, v89, v90, v91, v92, v93, v94, v95, v96, v97, v98, v99, v100, v101, v102, v103, v104, v105, v106, v107, v108, v109, v110, v111, v112, v113, v114, v115, v116, v117, v118, v119, v120, v121, v122, v123, v124, v125, v126, v127, v128, v129, v130, v131, v132, v133, v134, v135, v136, v137, v138, v139, v140, v141, v142, v143, v144, v145, v146, v147, v148, v149, v150, v151, v152, v153, v154, v155, v156, v157, v158, v159, v160, v161, v162, v163, v164, v165, v166, v167, v168, v169, v170, v171, v172, v173, v174, v175, v176, v177, v178, v179, v180, v181, v182, v183, v184, v185, v186, v187, v188, v189, v190, v191, v192, v193, v194, v195, v196, v197, v198, v199, v200], ds⟩ w4) :
    Code.wp Tryz.prog ((Tryz.f239.body.bind (condOf 51)).getD .skip) (Exit.then K Q0) ⟨#[s0, s1, .slice (some ⟨bu, ou, none⟩) lu cu, .slice (some ⟨bv, ov, none⟩) n cv, s4, s5, s6, s7, .int .i64 (n : Int), s9, s10, .int .u64 (y1 : Int), .int .u64 (rc : Int), .int .u64 (x : Int), .int .i64 (j : Int), .int .u64 18446744073709551615, s16, s17, s18, s19, s20, s21, s22, s23, s24, s25, s26, s27, s28, s29, s30, s31, s32, s33, s34, s35, s36, s37, s38, s39, s40, s41, s42, s43, s44, s45, s46, s47, s48, s49, s50, .bool ((x : Int) != (y1 : Int)), s52, s53, s54, s55, s56, s57, s58, s59, s60, s61, s62, s63, s64, s65, s66, s67, s68, s69, s70, s71, s72, s73, s74, s75, s76, s77, s78, s79, s80, s81, s82, s83, s84, s85, s86, s87, s88, s89, s90, s91, s92, s93, s94, s95, s96, s97, s98, s99, s100, s101, s102, s103, s104, s105, s106, s107, s108, s109, s110, s111, s112, s113, s114, s115, s116, s117, s118, s119, s120, s121, s122, s123, s124, s125, s126, s127, s128, s129, s130, s131, s132, s133, s134, s135, s136, s137, s138, s139, s140, s141, s142, s143, s144, s145, s146, s147, s148, s149, s150, s151, s152, s153, s154, s155, s156, s157, s158, s159, s160, s161, s162, s163, s164, s165, s166, s167, s168, s169, s170, s171, s172, s173, s174, s175, s176, s177, s178, s179, s180, s181, s182, s183, s184, s185, s186, s187, s188, s189, s190, s191, s192, s193, s194, s195, s196, s197, s198, s199, s200], ds⟩ w4 := by
  conv => arg 2; whnf
  have HK9 := Lib.hid hK
  clear hK
  rcases Nat.lt_or_ge x y1 with hxy | hxy
  · have hne : ((x : Int) != (y1 : Int)) = true := by rw [bne_iff_ne]; omega
    have hU := Nat.lt_of_lt_of_le (show x * M + a1 < (x + 1) * M by rw [Nat.add_mul, Nat.one_mul]; omega) (Nat.le_trans (Nat.mul_le_mul_right M (show x + 1 ≤ y1 by omega)) (Nat.le_add_right _ y0))
    have hdg0 := Pl.dig_start hnorm hy0M hU ha0M
    have hq0M : (x * M + a1) / y1 < M := by
      rw [Nat.div_lt_iff_lt_mul (by omega), Nat.mul_comm M]
      have := Nat.mul_le_mul_right M (show x + 1 ≤ y1 by omega)
      rw [Nat.add_mul, Nat.one_mul] at this
      omega
    have hr0M : (x * M + a1) % y1 < M := Nat.lt_trans (Nat.mod_lt _ (by omega)) hyM
    have HDW1 := Lib.hid (HDW.out x a1 w4 hxy ha1M)
    have hmodu : x * M + a1 - (x * M + a1) / y1 * y1 = (x * M + a1) % y1 := by
      have := Nat.div_add_mod (x * M + a1) y1
      rw [Nat.mul_comm] at this
      omega
    rw [hmodu] at hdg0
    obtain ⟨q0, hq0⟩ : ∃ a, (x * M + a1) / y1 = a := ⟨_, rfl⟩
    obtain ⟨r0, hr0⟩ : ∃ a, (x * M + a1) % y1 = a := ⟨_, rfl⟩
    rw [hq0, hr0] at hdg0 HDW1
    rw [hq0] at hq0M
    rw [hr0] at hr0M
    have HMW := Lib.hid (mulWW_any q0 y0 hq0M hy0M w4)
    have hp0 : q0 * y0 / M * M + q0 * y0 % M = q0 * y0 := by rw [Nat.mul_comm]; exact Nat.div_add_mod _ _
    have hp1 : q0 * y0 % M < M := Nat.mod_lt _ M_pos
    have hp2 : q0 * y0 / M < M := by
      rw [Nat.div_lt_iff_lt_mul M_pos]
      exact Nat.mul_lt_mul'' hq0M hy0M
    obtain ⟨z1, hz1⟩ : ∃ a, q0 * y0 / M = a := ⟨_, rfl⟩
    obtain ⟨z2, hz2⟩ : ∃ a, q0 * y0 % M = a := ⟨_, rfl⟩
    rw [hz1, hz2] at HMW hp0
    rw [hz2] at hp1
    rw [hz1] at hp2
    have HDG0 := Lib.hid (And.intro hdg0 (And.intro hp0 hU))
    obtain ⟨g0, g1, g2, g3⟩ := HG3.out hxy
    obtain ⟨D, hD⟩ : ∃ D, ((x * M + a1) * M + a0) / (y1 * M + y0) = D := ⟨_, rfl⟩
    rw [hD] at g0 g1 g2 g3
    have HDD := Lib.hid hD
    clear hmodu hq0 hr0 hz1 hz2 hdg0 hp0 hU hD
    go_wp2_with fail
    refine HDW1.out.mono ?_; rintro e w5 ⟨rfl, rfl⟩
    go_wp2_with fail
    refine HMW.out.mono ?_; rintro e w5 ⟨rfl, rfl⟩
    go_wp2_with fail
    go_loopw [15, 16, 18, 19] (fun qv rv av bv2 wx => ∃ q r z1 z2 : Nat, qv = .int .u64 (q : Int) ∧ rv = .int .u64 (r : Int) ∧ av = .int .u64 (z1 : Int) ∧ bv2 = .int .u64 (z2 : Int) ∧ Pl.Dig M (x * M + a1) y1 y0 a0 q r ∧ r < M ∧ q < M ∧ z1 < M ∧ z2 < M ∧ z1 * M + z2 = q * y0 ∧ wx = w4) (fun qv _ _ _ _ => (intOf qv).toNat)
    case atStart => exact ⟨q0, r0, z1, z2, rfl, rfl, rfl, rfl, HDG0.out.1, hr0M, hq0M, hp2, hp1, HDG0.out.2.1, rfl⟩
    case round =>
      obtain ⟨q, r, u1, u2, rfl, rfl, rfl, rfl, hdg, hrM, hqM, hu1, hu2, hsum, rfl⟩ := hrel
      have HGR := Lib.hid (greater_any u1 u2 r a0 hu2 ha0M wr)
      rw [hsum] at HGR
      by_cases hgt : r * M + a0 < q * y0
      · obtain ⟨hq0, hnx⟩ := Pl.dig_down ha0M HDG0.out.2.2 hdg (Or.inr (by rw [Nat.mul_comm M]; exact hgt))
        rw [show decide (r * M + a0 < q * y0) = true from by rw [decide_eq_true_eq]; exact hgt] at HGR
        have HNX := Lib.hid hnx
        have c2 : IntKind.u64.wrap ((q : Int) - 1) = ((q - 1 : Nat) : Int) := by rw [IntKind.wrap_u64]; rw [M_eq] at hqM; omega
        obtain ⟨rw_, hrw⟩ : ∃ a, (r + y1) % M = a := ⟨_, rfl⟩
        have c3 : IntKind.u64.wrap ((r : Int) + (y1 : Int)) = (rw_ : Int) := by rw [IntKind.wrap_u64]; rw [M_eq] at hrw; omega
        have hqn1 : (q - 1) * y0 + y0 = q * y0 := by
          obtain ⟨k, rfl⟩ : ∃ k, q = k + 1 := ⟨q - 1, by omega⟩
          rw [Nat.add_mul, Nat.one_mul]; simp
        obtain ⟨qn, hqn⟩ : ∃ a, q - 1 = a := ⟨_, rfl⟩
        rw [hqn] at c2 HNX hqn1
        have hqn2 : qn ≤ M ∧ qn < q := by omega
        by_cases hrb : M ≤ r + y1
        · have hrw2 : rw_ = r + y1 - M := by
            rw [← hrw, Nat.mod_eq_sub_mod hrb, Nat.mod_eq_of_lt (by omega)]
          have c4 : (rw_ : Int) < (y1 : Int) := by omega
          have hqe := Pl.dig_break hy0M HDG0.out.2.2 HNX.out hqn2.1 hrb
          rw [HDD.out] at hqe
          subst hqe
          clear hrb hgt hdg hsum hqn hqn1 hrw hrw2 hnx
          go_wp2_with fail
          refine HGR.out.mono ?_; rintro e w5 ⟨rfl, rfl⟩
          go_wp2
          exact HK9.out _ g0 g1 g2 g3
        · have hrw2 : rw_ = r + y1 := by
            rw [← hrw, Nat.mod_eq_of_lt (by omega)]
          have c4 : ¬ (rw_ : Int) < (y1 : Int) := by omega
          have hrwM : rw_ < M := by omega
          rw [← hrw2] at HNX
          by_cases hb : u2 < y0
          · have c5 : (u2 : Int) < (y0 : Int) := by omega
            have hu1p : 1 ≤ u1 := by
              rcases Nat.eq_zero_or_pos u1 with h | h
              · rw [h] at hsum; omega
              · exact h
            have hsum2 : (u1 - 1) * M + (u2 + M - y0) = qn * y0 := by
              obtain ⟨k, rfl⟩ : ∃ k, u1 = k + 1 := ⟨u1 - 1, by omega⟩
              rw [Nat.add_mul, Nat.one_mul] at hsum
              rw [Nat.add_sub_cancel]
              omega
            have c6 : IntKind.u64.wrap ((u1 : Int) - 1) = ((u1 - 1 : Nat) : Int) := by rw [IntKind.wrap_u64]; rw [M_eq] at hu1; omega
            have c7 : IntKind.u64.wrap ((u2 : Int) - (y0 : Int)) = ((u2 + M - y0 : Nat) : Int) := by rw [IntKind.wrap_u64]; rw [M_eq] at *; omega
            have hn1 : u1 - 1 < M := by omega
            have hn2 : u2 + M - y0 < M := by omega
            obtain ⟨v1, hv1⟩ : ∃ a, u1 - 1 = a := ⟨_, rfl⟩
            obtain ⟨v2, hv2⟩ : ∃ a, u2 + M - y0 = a := ⟨_, rfl⟩
            rw [hv1] at c6 hn1 hsum2
            rw [hv2] at c7 hn2 hsum2
            have HSUM2 := Lib.hid hsum2
            clear hrb hgt hdg hsum hqn hqn1 hrw hrw2 hnx hv1 hv2 hsum2
            go_wp2_with fail
            refine HGR.out.mono ?_; rintro e w5 ⟨rfl, rfl⟩
            go_wp2
            go_roundw
            case rel => exact ⟨qn, rw_, v1, v2, rfl, rfl, rfl, rfl, HNX.out, hrwM, by omega, hn1, hn2, HSUM2.out, trivial⟩
            case measure => simp [intOf]; omega
          · have c5 : ¬ (u2 : Int) < (y0 : Int) := by omega
            have hsum2 : u1 * M + (u2 - y0) = qn * y0 := by omega
            have c7 : IntKind.u64.wrap ((u2 : Int) - (y0 : Int)) = ((u2 - y0 : Nat) : Int) := by rw [IntKind.wrap_u64]; rw [M_eq] at *; omega
            have hn2 : u2 - y0 < M := by omega
            obtain ⟨v2, hv2⟩ : ∃ a, u2 - y0 = a := ⟨_, rfl⟩
            rw [hv2] at c7 hn2 hsum2
            have HSUM2 := Lib.hid hsum2
            clear hrb hgt hdg hsum hqn hqn1 hrw hrw2 hnx hv2 hsum2
            go_wp2_with fail
            refine HGR.out.mono ?_; rintro e w5 ⟨rfl, rfl⟩
            go_wp2
            go_roundw
            case rel => exact ⟨qn, rw_, u1, v2, rfl, rfl, rfl, rfl, HNX.out, hrwM, by omega, hu1, hn2, HSUM2.out, trivial⟩
            case measure => simp [intOf]; omega
      · have hqe := Pl.dig_stop HDG0.out.2.2 hdg (by rw [Nat.mul_comm M]; omega)
        rw [HDD.out] at hqe
        rw [show decide (r * M + a0 < q * y0) = false from by rw [decide_eq_false_iff_not]; exact hgt] at HGR
        subst hqe
        clear hgt hdg hsum
        go_wp2_with fail
        refine HGR.out.mono ?_; rintro e w5 ⟨rfl, rfl⟩
        go_wp2
        exact HK9.out _ g0 g1 g2 g3
  · have hxe : x = y1 := by omega
    subst hxe
    have hne : ((x : Int) != (x : Int)) = false := by simp
    obtain ⟨g1, g2⟩ := HG2.out rfl
    have hM1 : ((M - 1 : Nat) : Int) = 18446744073709551615 := by rw [M_eq]; rfl
    have hrel : M - 1 < M ∧ Q ≤ M - 1 ∧ M - 1 ≤ Q + 1 ∧ (x = 0 → M - 1 ≤ 1) := ⟨by have := M_pos; omega, g1, g2, fun h => by rw [M_eq] at hnorm; omega⟩
    have HREL := Lib.hid hrel
    clear hrel hM1 g1 g2
    go_wp2
    obtain ⟨r2, r3, r4, r5⟩ := HREL.out
    have hM2 : ((M - 1 : Nat) : Int) = 18446744073709551615 := by rw [M_eq]; rfl
    rw [← hM2]
    exact HK9.out (M - 1) r2 r3 r4 r5
end Go.Proofs.YtgfkdjmoflbmdaaGreatDoor
