/- Contract: convertWords. -/
import Derived.Test.YtgfkdjmoflbmdaaGreatDoorRSoxSp
import Derived.StillTailTactics
namespace Go.Proofs.YtgfkdjmoflbmdaaGreatDoor
open Go.RowKit
open Go.Proofs
structure CwAt (w0 w : World) (p : Nat) (q : Option Nat) (A : Option Addr) (ns bq cq sb os ls Ns V E : Nat) (q' : Option Nat) (A' : Option Addr) (c' : Nat) : Prop where
  c : CwC w0 w p q A ns bq sb os ls Ns q' A' c'
  nat : NatW w bq cq (Pl.digs M (V / ten E))
  at_ : BAt w sb (os + (ls - E)) (Pl.dec (ls - (ls - E)) V)
theorem ten_add (a b : Nat) : ten (a + b) = ten a * ten b := Nat.pow_add 10 a b
theorem ten_pos (a : Nat) : 0 < ten a := Nat.pow_pos (by omega)
theorem ten_lt {a b : Nat} (h : a < b) : ten a < ten b := Nat.pow_lt_pow_right (by omega) h
theorem div_ten (V E D : Nat) : V / ten E / ten D = V / ten (E + D) := by rw [Nat.div_div_eq_div_mul, ten_add]
theorem leaf_step {V E j ls : Nat} (hj : j < 19) (h : E + j < ls) : Pl.dec (ls - (ls - (E + j + 1))) V = (48 + V / ten E % 10000000000000000000 / 10 ^ j % 10) :: Pl.dec (ls - (ls - (E + j))) V := by
  rw [show ls - (ls - (E + j + 1)) = (E + j) + 1 from by omega, show ls - (ls - (E + j)) = E + j from by omega, Pl.dec_cons]
  congr 2
  have := Pl.leaf_digit (V / ten E) j hj
  rw [show (10 : Nat) ^ 19 = 10000000000000000000 from by decide] at this
  rw [this]
  unfold ten
  rw [Pl.div_pow]
theorem quot_small {V E ls : Nat} (hV : V < ten ls) (h : ls ≤ E) : V / ten E = 0 := Nat.div_eq_of_lt (Nat.lt_of_lt_of_le hV (ten_mono h))
theorem digs_zero_len {V : Nat} (h : V = 0) : (Pl.digs M V).length = 0 := by rw [h, Pl.digs_zero]; rfl
theorem digs_pos_len {V : Nat} (h : 0 < V) : 0 < (Pl.digs M V).length := by
  rcases Nat.eq_zero_or_pos (Pl.digs M V).length with e | e
  · have := Pl.val_digs M V M_two
    rw [List.eq_nil_of_length_eq_zero e] at this
    simp [Pl.val] at this
    omega
  · exact e
theorem val_pos_of_len {V n : Nat} (h : (Pl.digs M V).length = n) (hn : 0 < n) : 0 < V := by
  rcases Nat.eq_zero_or_pos V with e | e
  · rw [digs_zero_len e] at h; omega
  · exact e
def lenOf : Value → Nat
  | .slice _ n _ => n
  | _ => 0
def TabOk (w : World) (tb t : Nat) (N : Nat → Nat → Prop) : Prop := ∀ j, j < t → ∃ b c, Ent w tb j b c ∧ (∀ off, ¬ N b off) ∧ (∀ off, ¬ N tb off)
theorem TabOk.chg {w w' : World} {tb t : Nat} {N : Nat → Nat → Prop} (h : TabOk w tb t N) (hc : Chg w w' N) : TabOk w' tb t N := by
  intro j hj
  obtain ⟨b, c, h1, h2, h3⟩ := h j hj
  exact ⟨b, c, h1.chg hc (fun r _ => h3 _) h2, h2, h3⟩
theorem stk_not_bytes {w : World} {p ns c sb N : Nat} {q : Option Nat} {A : Option Addr} (hS : StkAt w p q A ns c) (hB : BArr w sb N) (off : Nat) : ¬ StkCh p q A ns sb off := by
  obtain ⟨cs, hC, _⟩ := hB
  rintro (k | k | k)
  · obtain ⟨v, hp⟩ := hS.top
    exact Blk.ne_ hC hp (by decide) k
  · subst k
    exact Blk.ne_ hC hS.2.inner (by decide) rfl
  · rcases q with _ | q
    · rw [hS.2.1] at k; cases k.1
    · rcases hS.2.arr with ⟨h1, _⟩ | ⟨g, h1, h2, _⟩
      · rw [h1] at k; cases k.1
      · have hA := k.1
        rw [h1] at hA
        injection hA with hA; injection hA with hA
        subst hA
        exact hC.not_arr (by decide) h2 rfl
theorem stk_not_words {w : World} {p ns c b N : Nat} {q : Option Nat} {A : Option Addr} (hS : StkAt w p q A ns c) (hB : Arr w b N) (hA : A ≠ some ⟨b, 0, none⟩) (off : Nat) : ¬ StkCh p q A ns b off := by
  obtain ⟨h1, h2⟩ := hS.ne hB
  rintro (k | k | k)
  · exact h1 k
  · exact h2 k
  · exact hA k.1
theorem tab_len {j : Nat} (hj : j < 4) : ((4 < (Pl.digs M (ten (Pl.tabD j))).length ∧ (Pl.digs M (ten (Pl.tabD j))).length < 40) ∨ (Pl.digs M (ten (Pl.tabD j))).length = 64) ∧ (Pl.digs M (ten (Pl.tabD j))).length ≤ 64 := by
  rw [ten_len hj (tab_steps j hj).2.2.2.1 (Nat.le_refl _)]
  have : j = 0 ∨ j = 1 ∨ j = 2 ∨ j = 3 := by omega
  rcases this with rfl | rfl | rfl | rfl <;> simp [Pl.tabW]
theorem tabD_pos (j : Nat) : 0 < Pl.tabD j := by
  rcases j with _ | _ | _ | j <;> simp [Pl.tabD]
theorem pow_mul_le {k a b : Nat} (h : k ≤ a * b) : (2 : Nat) ^ k ≤ (2 ^ a) ^ b := by
  rw [← Nat.pow_mul]
  exact Pl.pow2_mono h
theorem cw_pick {V1 bl j : Nat} (h8 : 8 < (Pl.digs M V1).length) (hb : Pl.Bits V1 bl) (hbl : 0 < bl) (hj : j < 4) (hjB : j = 0 ∨ Pl.tabB (j - 1) ≤ bl / 2) : (Pl.tabB j < bl → ten (Pl.tabD j) ≤ V1) ∧ (bl ≤ Pl.tabB j → 0 < j ∧ ten (Pl.tabD (j - 1)) ≤ V1) := by
  constructor
  · intro h
    exact Nat.le_of_lt (Pl.tab_less hj hb h)
  · intro h
    have hlow : 0 < j → ten (Pl.tabD (j - 1)) ≤ V1 := by
      intro h0
      rcases hjB with e | e
      · omega
      · have h1 := Pl.tab_hi (i := j - 1) (by omega)
        have h2 := Pl.pow2_mono (show Pl.tabB (j - 1) ≤ bl - 1 by omega)
        exact Nat.le_of_lt (Nat.lt_of_lt_of_le h1 (Nat.le_trans h2 hb.lo))
    rcases Nat.eq_zero_or_pos j with e | e
    · exfalso
      subst e
      have h1 : V1 < M ^ 8 := by
        refine Nat.lt_of_lt_of_le hb.hi ?_
        refine Nat.le_trans (Pl.pow2_mono h) ?_
        exact pow_mul_le (k := Pl.tabB 0) (a := 64) (b := 8) (by decide)
      have h2 := Pl.digs_len_le M_two h1
      omega
    · exact ⟨e, hlow e⟩
theorem cw_div {w0 w w' : World} {p : Nat} {q : Option Nat} {A : Option Addr} {ns bq cq sb os ls Ns V1 T : Nat} {q' : Option Nat} {A' : Option Addr} {c' : Nat} {rA : Option Addr} {br cr : Nat} (h : CwC w0 w p q A ns bq sb os ls Ns q' A' c') (hsb : sb < w0.heap.size) (hr : rA = none ∨ ∃ b, rA = some ⟨b, 0, none⟩ ∧ w0.heap.size ≤ b) (hq : Arr w bq cq)
    (_hN : NatW w' br cr (Pl.digs M (V1 % T))) (hbr : rA = some ⟨br, 0, none⟩ ∨ w.heap.size ≤ br) (hst : StkTo w p q' A' ns br w') (hc : Chg w w' (fun b off => b = bq ∨ rA = some ⟨b, 0, none⟩ ∨ StkCh p q' A' ns b off)) :
    w0.heap.size ≤ br ∧ ∃ q2 A2 c2, CwC w0 w' p q A ns bq sb os ls Ns q2 A2 c2 ∧ A2 ≠ some ⟨br, 0, none⟩ ∧ (∀ off, ¬ (sb = bq ∨ rA = some ⟨sb, 0, none⟩ ∨ StkCh p q' A' ns sb off)) := by
  obtain ⟨q2, A2, c2, s1, s2, s3, s4⟩ := hst
  have hsz := h.chg.size
  have hrn : ∀ b, b < w0.heap.size → rA ≠ some ⟨b, 0, none⟩ := by
    intro b hb e
    rcases hr with k | ⟨b', k, k2⟩
    · rw [k] at e; cases e
    · rw [k] at e; injection e with e; injection e with e; omega
  have hns : ∀ off, ¬ (sb = bq ∨ rA = some ⟨sb, 0, none⟩ ∨ StkCh p q' A' ns sb off) := by
    rintro off (k | k | k)
    · exact h.arr.ne hq k.symm
    · exact hrn sb hsb k
    · exact stk_not_bytes h.stk h.arr off k
  refine ⟨?_, q2, A2, c2, h.step hc (fun b off hb k => ?_) (h.arr.chg hc hns) s1 s2 s3, s4, hns⟩
  · rcases hbr with k | k
    · rcases hr with k2 | ⟨b', k2, k3⟩
      · rw [k2] at k; cases k
      · rw [k2] at k; injection k with k; injection k with k; omega
    · omega
  · rcases k with k | k | k
    · exact Or.inl k
    · exact absurd k (hrn b hb)
    · exact Or.inr (Or.inr k)
theorem tab_rec {w0 w w' : World} {p : Nat} {q : Option Nat} {A : Option Addr} {ns bq sb os ls Ns tb t jj br h D : Nat} {q' : Option Nat} {A' : Option Addr} {c' : Nat} (hC : CwC w0 w p q A ns bq sb os ls Ns q' A' c') (hT : TabOk w0 tb t (CwCh p q A ns bq sb os ls)) (hw : Below w.heap.size w w') (hj : jj < t) (hbr : w0.heap.size ≤ br) (hh : h + D ≤ ls) : TabOk w' tb jj (CwCh p q' A' ns br sb (os + h) D) := by
  have hT1 := hT.chg hC.chg
  intro j hj2
  obtain ⟨b, c, h1, h2, h3⟩ := hT1 j (by omega)
  obtain ⟨b0, c0, k1, k2, k3⟩ := hT j (by omega)
  have hbb : b = b0 := by
    have e := hC.chg.cell _ _ _ (k3 _) k1.c0
    rw [h1.c0] at e
    injection e with e; injection e with e; injection e with e; injection e
  have hbl : b < w0.heap.size := by rw [hbb]; exact k1.nat.arr.lt
  have htl : tb < w0.heap.size := World.block_lt_of_cell? w0 _ k1.c0
  have key : ∀ x, x < w0.heap.size → (∀ off, ¬ CwCh p q A ns bq sb os ls x off) → ∀ off, ¬ CwCh p q' A' ns br sb (os + h) D x off := by
    rintro x hx hn off (e | e | e)
    · omega
    · exact hn off (Or.inr (Or.inl ⟨e.1, by omega, by omega⟩))
    · exact hn off (Or.inr (Or.inr (stkCh_to hC.ga hC.gq hx e)))
  exact ⟨b, c, h1.chg (Chg.of_below hw (fun _ _ => False)) (fun _ _ h => h) (fun _ h => h), key b hbl h2, key tb htl h3⟩
theorem cw_rec {w0 w w' : World} {p : Nat} {q : Option Nat} {A : Option Addr} {ns bq cq sb os ls Ns V E D R h br cr : Nat} {q2 : Option Nat} {A2 : Option Addr} {c2 : Nat} {q3 : Option Nat} {A3 : Option Addr} {c3 : Nat} (hC : CwC w0 w p q A ns bq sb os ls Ns q2 A2 c2) (hbr : w0.heap.size ≤ br) (hbA : Arr w br cr) (hbq : bq < w0.heap.size) (hAq : A ≠ some ⟨bq, 0, none⟩) (hE : E ≤ ls) (hh : ls - E = h + D) (hR : R = V / ten E % ten D)
    (hN : NatW w bq cq (Pl.digs M (V / ten (E + D)))) (hB : BAt w sb (os + (ls - E)) (Pl.dec (ls - (ls - E)) V)) (hB2 : BAt w' sb (os + h) (Pl.dec D R)) (hC2 : CwC w w' p q2 A2 ns br sb (os + h) D Ns q3 A3 c3) :
    CwAt w0 w' p q A ns bq cq sb os ls Ns V (E + D) q3 A3 c3 := by
  have hnb : bq ≠ br := by omega
  have hns : bq ≠ sb := hC.arr.ne hN.arr
  refine ⟨hC.step hC2.chg (fun b off hb k => ?_) hC2.arr hC2.stk hC2.ga hC2.gq, hN.chg hC2.chg ?_, ?_⟩
  · rcases k with k | k | k
    · omega
    · exact Or.inr (Or.inl ⟨k.1, by omega, by omega⟩)
    · exact Or.inr (Or.inr k)
  · rintro off (k | k | k)
    · exact hnb k
    · exact hns k.1
    · exact stk_not_words hC.stk hN.arr (hC.not hbq hAq) off k
  · have e1 : ls - (E + D) = h := by omega
    have e2 : Pl.dec (ls - (ls - (E + D))) V = Pl.dec D R ++ Pl.dec (ls - (ls - E)) V := by
      rw [show ls - (ls - (E + D)) = D + E from by omega, show ls - (ls - E) = E from by omega, Pl.dec_split, hR]
      unfold ten
      rw [Pl.dec_mod]
    rw [e1] at e2 ⊢
    rw [e2]
    refine BAt.app hB2 ?_
    rw [Pl.dec_len, show os + h + D = os + (ls - E) from by omega]
    refine hB.chg hC2.chg (fun j hj k => ?_)
    rcases k with k | k | k
    · exact hC.arr.ne hbA k.symm
    · omega
    · exact stk_not_bytes hC.stk hC.arr _ k
set_option maxRecDepth 100000 in
set_option maxHeartbeats 8000000 in
theorem cw_any (t : Nat) : t ≤ 4 → ∀ (p : Nat) (q : Option Nat) (A : Option Addr) (ns c bq cq sb os ls cs Ns V : Nat) (TV : Value) (w : World), StkAt w p q A ns c → BigVars w → StkHi p q A → 16 < bq → 16 < sb → NatW w bq cq (Pl.digs M V) → A ≠ some ⟨bq, 0, none⟩ → BArr w sb Ns → os + ls ≤ Ns → V < ten ls → ls ≤ cs → ls ≤ 1000000 → (Pl.digs M V).length ≤ 79 → ns ≤ 500 →
    (t = 0 → (Pl.digs M V).length ≤ 8) → (TV = .slice none 0 0 ∧ t = 0 ∨ ∃ tb ct, TV = .slice (some ⟨tb, 0, none⟩) t ct ∧ t ≤ ct ∧ TabOk w tb t (CwCh p q A ns bq sb os ls)) →
    Calls Tryz.prog 183 #[.slice (some ⟨bq, 0, none⟩) (Pl.digs M V).length cq, .pointer (some ⟨p, 0, none⟩), .slice (some ⟨sb, os, none⟩) ls cs, .int .u64 10, .int .i64 19, .int .u64 10000000000000000000, TV] w (CwBk w p q A ns bq sb os ls Ns V) := by
  induction t using Nat.strongRecOn with
  | _ t ih =>
  intro ht4 p q A ns c bq cq sb os ls cs Ns V TV w hS hV hH hbq hsb hN hAq hB hfit hVl hcs hls hlen hns ht0 hT
  have IH := Lib.hid ih
  have HT := Lib.hid (And.intro ht0 hT)
  have HI := Lib.hid (And.intro hS (And.intro hV (And.intro hH (And.intro hN (And.intro hAq (And.intro hB (And.intro hVl hlen)))))))
  have h16 := hV.lt
  have hstart : CwAt w w p q A ns bq cq sb os ls Ns V 0 q A c := by
    refine ⟨⟨hS, Or.inl rfl, Or.inl rfl, Chg.refl _ _, hB⟩, ?_, ?_⟩
    · rw [show V / ten 0 = V from by unfold ten; simp]; exact hN
    · rw [show ls - (ls - 0) = 0 from by omega]; exact BAt.nil _ _ _
  have HST := Lib.hid hstart
  have hTV : ∃ tv, (∀ W, (binOp .neq 209 TV (.slice none 0 0)).run Tryz.prog W = .ok (.bool tv) W ∧ (eqGuard BinOp.neq 209 (.tmp 24) (.const (.slice none 0 0)) TV (.slice none 0 0)).run Tryz.prog W = .ok () W) ∧ ((tv = false ∧ t = 0) ∨ (tv = true ∧ ∃ tb ct, TV = .slice (some ⟨tb, 0, none⟩) t ct ∧ t ≤ ct ∧ TabOk w tb t (CwCh p q A ns bq sb os ls))) := by
    rcases hT with ⟨rfl, h⟩ | ⟨tb, ct, rfl, h2, h3⟩
    · exact ⟨false, fun W => ⟨by kernel_rfl, by kernel_rfl⟩, Or.inl ⟨rfl, h⟩⟩
    · exact ⟨true, fun W => ⟨by kernel_rfl, by kernel_rfl⟩, Or.inr ⟨rfl, tb, ct, rfl, h2, h3⟩⟩
  obtain ⟨tv, hne, htv⟩ := hTV
  have hne1 := fun W => (hne W).1
  have hne2 := fun W => (hne W).2
  clear hne
  have HTV := Lib.hid htv
  have hv0 : V / ten 0 = V := by unfold ten; simp
  have HV0 := Lib.hid hv0
  clear ih ht0 hT hS hV hH hN hAq hB hVl hlen hstart htv hv0
  go_enter Tryz.func183, Tryz.ntmps183
  go_upto_if 25 with fail
  go_cut [0, 2] (fun qv sv wx => ∃ E q' A' c', E ≤ ls ∧ qv = .slice (some ⟨bq, 0, none⟩) (Pl.digs M (V / ten E)).length cq ∧ sv = .slice (some ⟨sb, os, none⟩) (ls - E) cs ∧ CwAt w wx p q A ns bq cq sb os ls Ns V E q' A' c')
  case first =>
    rcases HTV.out with ⟨h1, h2⟩ | ⟨h1, tb, ct, h2, h3, h4⟩
    · subst h1
      clear h2
      go_wp2
      go_meet
      case rel => exact ⟨0, q, A, c, Nat.zero_le _, by rw [HV0.out], rfl, HST.out⟩
    · subst h1
      subst h2
      have HTB := Lib.hid h4
      have i0 : IntKind.i64.wrap ((t : Int) - 1) = (t : Int) - 1 := IntWalk.i64_in _ (by omega)
      clear hne1 hne2 h4
      go_wp2_with fail
      go_loopw [0, 2, 14, 15] (fun qv sv rv iv wr => ∃ E k rA rn rc q' A' c', E ≤ ls ∧ k ≤ t ∧ (0 < k ∨ t = 0) ∧ qv = .slice (some ⟨bq, 0, none⟩) (Pl.digs M (V / ten E)).length cq ∧ sv = .slice (some ⟨sb, os, none⟩) (ls - E) cs ∧ rv = .slice rA rn rc ∧ iv = .int .i64 ((k : Int) - 1) ∧ CwAt w wr p q A ns bq cq sb os ls Ns V E q' A' c' ∧ Old wr rA rc ∧ rn ≤ rc ∧ (rA = none ∨ ∃ b, rA = some ⟨b, 0, none⟩ ∧ w.heap.size ≤ b) ∧ (∀ b, A' = some ⟨b, 0, none⟩ → rA ≠ some ⟨b, 0, none⟩) ∧ (t = 0 → E = 0)) (fun _ sv _ _ _ => lenOf sv)
      case atStart => exact ⟨0, t, none, 0, 0, q, A, c, Nat.zero_le _, Nat.le_refl _, by omega, by rw [HV0.out], rfl, rfl, rfl, HST.out, Or.inl ⟨rfl, rfl⟩, Nat.le_refl _, Or.inl rfl, fun _ _ => by simp, fun _ => rfl⟩
      case round =>
        obtain ⟨w1, hw1⟩ : ∃ w1, w1 = wr := ⟨_, rfl⟩
        subst hw1
        obtain ⟨E, k, rA, rn, rc, q', A', c', hE, hk, hk0, rfl, rfl, rfl, rfl, hat, hO, hrn, hrA, hAr, ht0⟩ := hrel
        obtain ⟨ln, hln⟩ : ∃ ln, (Pl.digs M (V / ten E)).length = ln := ⟨_, rfl⟩
        have hV1l : ln ≤ 79 := by
          rw [← hln]
          refine Nat.le_trans ?_ HI.out.2.2.2.2.2.2.2
          rcases Nat.lt_or_ge (Pl.digs M V).length (Pl.digs M (V / ten E)).length with h | h
          · have := Pl.len_lt M M_two (Pl.digs M V) (Pl.digs M (V / ten E)) (Pl.digs_lt M V M_two) (Pl.digs_norm M _ M_two) h
            rw [Pl.val_digs M _ M_two, Pl.val_digs M _ M_two] at this
            have := Nat.div_le_self V (ten E)
            omega
          · exact h
        have hbig : BigVars w1 := HI.out.2.1.chg hat.c.chg (fun b off h => by
          rcases h with h | h | h
          · rw [h]; exact hbq
          · rw [h.1]; exact hsb
          · exact HI.out.2.2.1.ch h)
        have v10 := hbig.v10
        by_cases h8 : 8 < ln
        · have h8z : (8 : Int) < (ln : Int) := by omega
          have hV1p : 0 < V / ten E := val_pos_of_len hln (by omega)
          have ht : 0 < t := by
            rcases Nat.eq_zero_or_pos t with e | e
            · have := HT.out.1 e
              rw [ht0 e, HV0.out] at hln
              omega
            · exact e
          obtain ⟨i, rfl⟩ : ∃ i, k = i + 1 := ⟨k - 1, by omega⟩
          rw [show (((i + 1 : Nat) : Int) - 1) = (i : Int) from by omega]
          have hbl := bitLenN_any bq cq (V / ten E) w1 hat.nat hV1p (by omega)
          rw [hln] at hbl ⊢
          obtain ⟨l1, hl1⟩ : ∃ l1, ls - E = l1 := ⟨_, rfl⟩
          rw [hl1]
          obtain ⟨V1, hV1⟩ : ∃ V1, V / ten E = V1 := ⟨_, rfl⟩
          rw [hV1] at hbl hV1p hln
          have HBL := Lib.hid hbl
          have HAT := Lib.hid hat
          have HR := Lib.hid (And.intro hO (And.intro hrn (And.intro hrA hAr)))
          have HE := Lib.hid (And.intro hE (And.intro hl1 (And.intro hV1 (And.intro hln hV1p))))
          have HBV := Lib.hid hbig
          clear hbl hat hO hrn hrA hAr hE hl1 hV1 hln hV1p hbig ht0 hk0
          go_wp2_with fail
          refine HBL.out.mono ?_; rintro e w2 ⟨bl, hbl0, hBits, rfl, rfl⟩
          go_upto_block 2 with fail
          go_cut [15] (fun iv wx => ∃ j : Nat, j < t ∧ iv = .int .i64 (j : Int) ∧ (j = 0 ∨ Pl.tabB (j - 1) ≤ bl / 2) ∧ w1 = wx)
          case first =>
            go_wp2_with fail
            go_loopw [15] (fun iv wx => ∃ j : Nat, j < t ∧ iv = .int .i64 (j : Int) ∧ w1 = wx) (fun iv _ => (intOf iv).toNat)
            case atStart => exact ⟨i, by omega, rfl, rfl⟩
            case round =>
              obtain ⟨j, hjt, rfl, hw⟩ := hrel
              subst hw
              rcases Nat.eq_zero_or_pos j with hj0 | hj0
              · subst hj0
                go_wp2
                go_meet
                case rel => exact ⟨0, hjt, rfl, Or.inl rfl, rfl⟩
              · obtain ⟨j2, rfl⟩ : ∃ j2, j = j2 + 1 := ⟨j - 1, by omega⟩
                have hjz : (0 : Int) < ((j2 + 1 : Nat) : Int) := by omega
                obtain ⟨be, ce, hEn, _, _⟩ := (HTB.out.chg HAT.out.c.chg) j2 (by omega)
                have hc1 := hEn.c1
                obtain ⟨tB, htB⟩ : ∃ x, Pl.tabB j2 = x := ⟨_, rfl⟩
                rw [htB] at hc1
                have i1 : IntKind.i64.wrap (((j2 + 1 : Nat) : Int) - 1) = (j2 : Int) := by rw [IntWalk.i64_in _ (by omega)]; omega
                have b1 : j2 < t := by omega
                have b2 : (j2 : Int) < (t : Int) := by omega
                have HB := Lib.hid htB
                clear hEn htB
                by_cases hlt : bl / 2 < tB
                · have hlz : (bl : Int) / 2 < (tB : Int) := by omega
                  go_wp2
                  go_roundw
                  case rel => exact ⟨j2, b1, rfl, trivial⟩
                  case measure => simp [intOf]
                · have hlz : ¬ (bl : Int) / 2 < (tB : Int) := by omega
                  go_wp2
                  go_meet
                  case rel => exact ⟨j2 + 1, hjt, rfl, Or.inr (by rw [Nat.add_sub_cancel, HB.out]; omega), rfl⟩
          case rest =>
            obtain ⟨j, hjt, rfl, hjB, hw⟩ := hcut
            subst hw
            go_upto_region 8 with fail
            obtain ⟨be, ce, hEn, _, _⟩ := (HTB.out.chg HAT.out.c.chg) j hjt
            have hpick := cw_pick (by rw [HE.out.2.2.2.1]; exact h8) hBits hbl0 (show j < 4 by omega) hjB
            have c0 := hEn.c0
            have c1 := hEn.c1
            have hnat := HAT.out.nat
            rw [HE.out.2.2.1] at hnat
            have hcm := natCmp_any (some ⟨be, 0, none⟩) (some ⟨bq, 0, none⟩) ce cq (ten (Pl.tabD j)) V1 w1 (rdW hEn.nat.at_ rfl) (rdW hnat.at_ rfl) (by have := (tab_len (j := j) (by omega)).2; omega) (by rw [HE.out.2.2.2.1]; omega)
            rw [HE.out.2.2.2.1] at hcm
            obtain ⟨nj, hnj⟩ : ∃ nj, (Pl.digs M (ten (Pl.tabD j))).length = nj := ⟨_, rfl⟩
            rw [hnj] at c0 hcm
            obtain ⟨tB, htB⟩ : ∃ x, Pl.tabB j = x := ⟨_, rfl⟩
            rw [htB] at c1
            obtain ⟨r, hr⟩ : ∃ r, Pl.cmpN (ten (Pl.tabD j)) V1 = r := ⟨_, rfl⟩
            rw [hr] at hcm
            have hr0 : r < 0 → ten (Pl.tabD j) ≤ V1 := by
              intro h
              rcases Pl.cmpN_cases (ten (Pl.tabD j)) V1 with ⟨e, h2⟩ | ⟨e, h2⟩ | ⟨e, h2⟩ <;> omega
            have HCM := Lib.hid hcm
            have HP := Lib.hid (And.intro hpick (And.intro htB hr0))
            clear hEn hpick hnat hcm hnj htB hr hr0 hjB hBits
            go_cut [67] (fun bv wx => ∃ (bb : Bool) (qk : Nat), bv = .bool bb ∧ wx = w1.drewN qk ∧ (bb = true → 0 < j ∧ ten (Pl.tabD (j - 1)) ≤ V1) ∧ (bb = false → ten (Pl.tabD j) ≤ V1))
            case first =>
              have b2 : (j : Int) < (t : Int) := by omega
              by_cases hge : bl ≤ tB
              · have hgz : (bl : Int) ≤ (tB : Int) := by omega
                go_wp2_with fail
                refine HCM.out.mono ?_; rintro e w3 ⟨rfl, qk, rfl⟩
                by_cases hr0 : 0 ≤ r
                · go_wp2
                  go_meet
                  case rel => exact ⟨true, qk, (by first | rfl | (simp; omega)), rfl, (fun _ => HP.out.1.2 (by rw [HP.out.2.1]; exact hge)), (fun h => (by cases h))⟩
                · go_wp2
                  go_meet
                  case rel => exact ⟨false, qk, (by first | rfl | (simp; omega)), rfl, (fun h => (by cases h)), (fun _ => HP.out.2.2 (by omega))⟩
              · have hgz : ¬ (bl : Int) ≤ (tB : Int) := by omega
                go_wp2
                go_meet
                case rel => exact ⟨false, 0, rfl, rfl, fun h => (by cases h), fun _ => HP.out.1.1 (by rw [HP.out.2.1]; omega)⟩
            case rest =>
              obtain ⟨bb, qk, rfl, hw, hb1, hb0⟩ := hcut
              subst hw
              clear c0 c1 HCM HP
              have HBB := Lib.hid (And.intro hb1 hb0)
              clear hb1 hb0
              go_upto_if 67 with fail
              go_cut [15] (fun iv wx => ∃ jj : Nat, jj < t ∧ iv = .int .i64 (jj : Int) ∧ wx = w1.drewN qk ∧ ten (Pl.tabD jj) ≤ V1)
              case first =>
                cases bb with
                | true =>
                  obtain ⟨hj0, hjT⟩ := HBB.out.1 rfl
                  obtain ⟨j2, rfl⟩ : ∃ j2, j = j2 + 1 := ⟨j - 1, by omega⟩
                  have i1 : IntKind.i64.wrap (((j2 + 1 : Nat) : Int) - 1) = (j2 : Int) := by rw [IntWalk.i64_in _ (by omega)]; omega
                  rw [Nat.add_sub_cancel] at hjT
                  have HJT := Lib.hid hjT
                  clear hjT
                  have hneg : ¬ (j2 : Int) < 0 := by omega
                  go_wp2
                  go_meet
                  case rel => exact ⟨j2, by omega, rfl, rfl, HJT.out⟩
                | false =>
                  have HJT := Lib.hid (HBB.out.2 rfl)
                  go_wp2
                  go_meet
                  case rel => exact ⟨j, hjt, rfl, rfl, HJT.out⟩
              case rest =>
                obtain ⟨jj, hjj, rfl, hw, hjT⟩ := hcut
                subst hw
                have hjj4 : jj < 4 := by omega
                have hT3 := HTB.out.chg HAT.out.c.chg
                obtain ⟨w3, hw3⟩ : ∃ w3, w3 = w1.drewN qk := ⟨_, rfl⟩
                have hd3 : Below w1.heap.size w1 w3 := by rw [hw3]; exact below_drewN (Below.refl _ _) qk
                have hC3 : CwC w w3 p q A ns bq sb os ls Ns q' A' c' := by rw [hw3]; exact HAT.out.c.drewN qk
                have hN3 : NatW w3 bq cq (Pl.digs M V1) := by have := HAT.out.nat.below hd3; rw [HE.out.2.2.1] at this; exact this
                have hB3 : BAt w3 sb (os + (ls - E)) (Pl.dec (ls - (ls - E)) V) := HAT.out.at_.chg (Chg.of_below hd3 (fun _ _ => False)) (fun _ _ h => h)
                rw [← hw3]
                clear hw3
                obtain ⟨bj, cj, hEn, hbj, htbj⟩ := (HTB.out.chg hC3.chg) jj hjj
                obtain ⟨b0, _, k1, _, _⟩ := HTB.out jj hjj
                have htl : tb < w.heap.size := World.block_lt_of_cell? w _ k1.c0
                have hbjl : bj < w.heap.size := by
                  obtain ⟨b0, _, k1, _, k3⟩ := HTB.out jj hjj
                  have e := hC3.chg.cell _ _ _ (k3 _) k1.c0
                  rw [hEn.c0] at e
                  have e2 : bj = b0 := by injection e with e; injection e with e; injection e with e; injection e
                  rw [e2]; exact k1.nat.arr.lt
                have hAbj : A ≠ some ⟨bj, 0, none⟩ := fun e => hbj ns (Or.inr (Or.inr (Or.inr (Or.inr ⟨e, Nat.le_refl _⟩))))
                have hrn : ∀ b, b < w.heap.size → rA ≠ some ⟨b, 0, none⟩ := by
                  intro b hb e
                  rcases HR.out.2.2.1 with k | ⟨b', k, k2⟩
                  · rw [k] at e; cases e
                  · rw [k] at e; injection e with e; injection e with e; omega
                have hbig3 : BigVars w3 := HBV.out.below hd3
                have hhi3 : StkHi p q' A' := HI.out.2.2.1.to h16 hC3.ga hC3.gq
                have hbqw : bq < w.heap.size := HI.out.2.2.2.1.arr.lt
                have hsbw : sb < w.heap.size := HI.out.2.2.2.2.2.1.lt
                have hdv := div_any p q' A' rA ns c' bq cq bj cj rn rc _ ln V1 (ten (Pl.tabD jj)) w3 hC3.stk hbig3 hhi3 hbq (fun b e => by
                  rcases HR.out.2.2.1 with k | ⟨b', k, k2⟩
                  · rw [k] at e; cases e
                  · rw [k] at e; injection e with e; injection e with e; omega) hN3 hEn.nat (HR.out.1.below hd3) HR.out.2.1 rfl HE.out.2.2.2.1 (tab_len hjj4).1 hV1l hns hjT (hC3.not hbqw HI.out.2.2.2.2.1) (hC3.not hbjl hAbj) HR.out.2.2.2 (hrn _ hbqw) (hrn _ hbjl)
                have hV1t : V1 < ten l1 := by
                  have hV := HI.out.2.2.2.2.2.2.1
                  rw [← HE.out.2.2.1, Nat.div_lt_iff_lt_mul (ten_pos E), ← ten_add, show l1 + E = ls from by have := HE.out.1; have := HE.out.2.1; omega]
                  exact hV
                have hDl : Pl.tabD jj ≤ l1 := by
                  rcases Nat.lt_or_ge l1 (Pl.tabD jj) with h | h
                  · have := ten_lt h; omega
                  · exact h
                have c0 := hEn.c0
                have hD1 : Pl.tabD jj ≤ 1233 := tabD_le
                obtain ⟨kk, hh⟩ : ∃ kk, l1 = kk + Pl.tabD jj := ⟨l1 - Pl.tabD jj, by omega⟩
                obtain ⟨D, hD⟩ : ∃ D, Pl.tabD jj = D := ⟨_, rfl⟩
                rw [hD] at hdv c0 hh hjT hD1
                obtain ⟨nj, hnj⟩ : ∃ nj, (Pl.digs M (ten D)).length = nj := ⟨_, rfl⟩
                rw [hnj] at hdv c0
                have HDV := Lib.hid hdv
                have H3 := Lib.hid (And.intro hC3 (And.intro hN3 (And.intro hB3 (And.intro hbqw (And.intro hsbw (And.intro hD (And.intro hh hjT)))))))
                have hneg : ¬ (jj : Int) < 0 := by omega
                have hl1m : l1 ≤ ls := by have := HE.out.2.1; omega
                have b2 : (jj : Int) < (t : Int) := by omega
                have i2 : IntKind.i64.wrap ((l1 : Int) - (D : Int)) = (kk : Int) := by rw [IntWalk.i64_in _ (by omega)]; omega
                have hhl : kk ≤ l1 := by omega
                have hhz : (kk : Int) ≤ (l1 : Int) := by omega
                have hDp : 0 < D := by rw [← hD]; exact tabD_pos jj
                clear hT3 hd3 hC3 hN3 hB3 hEn hbj htbj hAbj hrn hbig3 hhi3 hbqw hsbw hdv hV1t hDl hD hh hjT hnj k1 hbjl
                go_wp2_with fail
                refine HDV.out.mono ?_; rintro e w4 hB
                obtain ⟨br, cr, rfl, hNq, hNr, hbr, hst, hc4⟩ := hB
                obtain ⟨hC3, hN3, hB3, hbqw, hsbw, hD, hh, hjT⟩ := H3.out
                obtain ⟨hbrw, q2, A2, c2, hC4, hA2, hnsb⟩ := cw_div hC3 hsbw HR.out.2.2.1 hN3.arr hNr hbr hst hc4
                have hB4 := hB3.chg hc4 (fun j _ => hnsb _)
                obtain ⟨bj', cj', hEn4, _, _⟩ := (HTB.out.chg hC4.chg) jj hjj
                have cD := hEn4.c2
                rw [hD] at cD
                obtain ⟨R, hR⟩ : ∃ R, V1 % ten D = R := ⟨_, rfl⟩
                rw [hR] at hNr ⊢
                have hRT : R < ten D := by rw [← hR]; exact Nat.mod_lt _ (ten_pos D)
                have hRl : (Pl.digs M R).length ≤ 79 := by
                  have h2 := (tab_len hjj4).2
                  rw [hD] at h2
                  rcases Nat.lt_or_ge (Pl.digs M (ten D)).length (Pl.digs M R).length with h | h
                  · have := Pl.len_lt M M_two (Pl.digs M (ten D)) (Pl.digs M R) (Pl.digs_lt M _ M_two) (Pl.digs_norm M _ M_two) h
                    rw [Pl.val_digs M _ M_two, Pl.val_digs M _ M_two] at this
                    omega
                  · omega
                have hw4 : Below w4.heap.size w4 w4.drew := (Below.refl _ _).drew
                have hC4d : CwC w w4.drew p q A ns bq sb os ls Ns q2 A2 c2 := hC4.step (Chg.of_below hw4 (fun _ _ => False)) (fun _ _ _ h => h.elim) (hC4.arr.chg (Chg.of_below hw4 (fun _ _ => False)) (fun _ h => h)) (hC4.stk.below hw4) (Or.inl rfl) (Or.inl rfl)
                have hNr4 := hNr.below hw4
                have hNq4 := hNq.below hw4
                have hB4d : BAt w4.drew sb (os + (ls - E)) (Pl.dec (ls - (ls - E)) V) := hB4.chg (Chg.of_below hw4 (fun _ _ => False)) (fun _ _ h => h)
                have hbig4 : BigVars w4.drew := HI.out.2.1.chg hC4d.chg (fun b off h => by
                  rcases h with h | h | h
                  · rw [h]; exact hbq
                  · rw [h.1]; exact hsb
                  · exact HI.out.2.2.1.ch h)
                have hl1e := HE.out.2.1
                have hrec := IH.out jj hjj (by omega) p q2 A2 ns c2 br cr sb (os + kk) D (cs - kk) Ns R (.slice (some ⟨tb, 0, none⟩) jj ct) w4.drew hC4d.stk hbig4 (HI.out.2.2.1.to h16 hC4d.ga hC4d.gq) (by omega) hsb hNr4 hA2 hC4d.arr (by omega) hRT (by omega) (by omega) hRl hns (fun e => by
                  have h1 : R < M ^ 8 := by
                    refine Nat.lt_trans hRT ?_
                    rw [← hD, e]
                    exact (tab_steps 0 (by omega)).2.1
                  exact Pl.digs_len_le M_two h1) (Or.inr ⟨tb, ct, rfl, by omega, tab_rec hC4 HTB.out hw4 hjj hbrw (by omega)⟩)
                rw [show D = l1 - kk from by omega] at hrec
                have hHE : V / ten (E + D) = V1 / ten D := by rw [← div_ten, HE.out.2.2.1]
                have HREC := Lib.hid hrec
                obtain ⟨lr, hlr⟩ : ∃ lr, (Pl.digs M R).length = lr := ⟨_, rfl⟩
                obtain ⟨lq, hlq⟩ : ∃ lq, (Pl.digs M (V1 / ten D)).length = lq := ⟨_, rfl⟩
                rw [hlr] at HREC
                rw [hlr, hlq]
                have H4 := Lib.hid (And.intro hC4d (And.intro hNr4 (And.intro hNq4 (And.intro hB4d (And.intro hbrw (And.intro hbqw (And.intro hR (And.intro hlr (And.intro hlq (And.intro hHE (And.intro hA2 hh)))))))))))
                have b4 : jj ≤ ct := by omega
                have b5 : (jj : Int) ≤ (ct : Int) := by omega
                have b6 : kk ≤ cs := by omega
                have b8 : ¬ cs = kk := by omega
                have b9 : ¬ l1 = kk := by omega
                have b7 : (kk : Int) ≤ (cs : Int) := by omega
                clear hNq hNr hbr hst hc4 hC3 hN3 hB3 hbqw hsbw hD hh hjT hbrw hC4 hA2 hnsb hB4 hEn4 hR hRT hRl hw4 hC4d hNr4 hNq4 hB4d hbig4 hrec hHE hlr hlq hl1e c0
                go_wp2_with fail
                go_still_tail 11, (by kernel_rfl)
                change wpList _ _ _ _ _ w4.drew
                go_wp2_with fail
                refine HREC.out.mono ?_
                rintro e w5 hB5
                have HB5 := Lib.hid hB5
                obtain ⟨rfl, _⟩ := hB5
                go_wp2
                go_roundw
                case rel =>
                  obtain ⟨hC4d, hNr4, hNq4, hB4d, hbrw, hbqw, hR, hlr, hlq, hHE, hA2, hh⟩ := H4.out
                  obtain ⟨_, hB5, q3, A3, c3, hC5⟩ := HB5.out
                  have hl1e := HE.out.2.1
                  rw [show l1 - kk = D from by omega] at hB5 hC5
                  rw [← hHE] at hNq4
                  have hfin := cw_rec hC4d hbrw hNr4.arr hbqw HI.out.2.2.2.2.1 HE.out.1 (by omega) (by rw [HE.out.2.2.1, hR]) hNq4 hB4d hB5 hC5
                  refine ⟨E + D, jj + 1, some ⟨br, 0, none⟩, lr, cr, q3, A3, c3, by omega, by omega, Or.inl (by omega), by rw [hHE, hlq], by rw [show ls - (E + D) = kk from by omega], rfl, by rw [show ((jj + 1 : Nat) : Int) - 1 = (jj : Int) from by omega], hfin, Or.inr ⟨br, rfl, hC5.chg.arr _ _ hNr4.arr, hNr4.cap⟩, by rw [← hlr]; exact hNr4.fit, Or.inr ⟨br, rfl, hbrw⟩, ?_, fun e => absurd e (by omega)⟩
                  intro b e e2
                  injection e2 with e2; injection e2 with e2
                  subst e2
                  rcases hC5.ga with k | ⟨b', k, k2⟩
                  · exact hA2 (k.symm.trans e)
                  · rw [k] at e; injection e with e; injection e with e
                    have := hNr4.arr.lt
                    omega
                case measure => simp [lenOf]; omega
        · have h8z : ¬ (8 : Int) < (ln : Int) := by omega
          rw [hln]
          have HAT := Lib.hid hat
          have HLN := Lib.hid hln
          clear hat hO hrn hrA hAr hln hbig
          go_wp2_with fail
          go_meet
          case rel => exact ⟨E, q', A', c', hE, by rw [HLN.out], rfl, HAT.out⟩
  case rest =>
    obtain ⟨E0, qa, Aa, ca, hE0, rfl, rfl, hat0⟩ := hcut
    obtain ⟨l1, hl1⟩ : ∃ l1, ls - E0 = l1 := ⟨_, rfl⟩
    rw [hl1]
    have hl1s : l1 ≤ ls := by omega
    have HL1 := Lib.hid hl1
    have HAT0 := Lib.hid hat0
    clear hl1 hat0
    go_wp2_with fail
    go_loopw [0, 19] (fun qv iv wr => ∃ E q' A' c', E0 ≤ E ∧ qv = .slice (some ⟨bq, 0, none⟩) (Pl.digs M (V / ten E)).length cq ∧ iv = .int .i64 ((ls - E : Nat) : Int) ∧ CwAt w wr p q A ns bq cq sb os ls Ns V E q' A' c') (fun _ iv _ => (intOf iv).toNat)
    case atStart => exact ⟨E0, qa, Aa, ca, Nat.le_refl _, rfl, by rw [HL1.out], HAT0.out⟩
    case round =>
      obtain ⟨E, q', A', c', hEE, rfl, rfl, hat⟩ := hrel
      obtain ⟨i, hi⟩ : ∃ i, ls - E = i := ⟨_, rfl⟩
      have hil : i ≤ l1 := by have := HL1.out; omega
      obtain ⟨V1, hV1⟩ : ∃ V1, V / ten E = V1 := ⟨_, rfl⟩
      obtain ⟨ln, hln⟩ : ∃ ln, (Pl.digs M V1).length = ln := ⟨_, rfl⟩
      have hV1l : ln ≤ 79 := by
        rw [← hln, ← hV1]
        refine Nat.le_trans ?_ HI.out.2.2.2.2.2.2.2
        rcases Nat.lt_or_ge (Pl.digs M V).length (Pl.digs M (V / ten E)).length with h | h
        · have := Pl.len_lt M M_two (Pl.digs M V) (Pl.digs M (V / ten E)) (Pl.digs_lt M V M_two) (Pl.digs_norm M _ M_two) h
          rw [Pl.val_digs M _ M_two, Pl.val_digs M _ M_two] at this
          have := Nat.div_le_self V (ten E)
          omega
        · exact h
      rw [hV1, hln, hi]
      by_cases hp : 0 < ln
      · have hpz : (0 : Int) < (ln : Int) := by omega
        have hV1p : 0 < V1 := val_pos_of_len hln hp
        have hEls : E < ls := by
          rcases Nat.lt_or_ge E ls with h | h
          · exact h
          · have := quot_small HI.out.2.2.2.2.2.2.1 h; omega
        have hnat := hat.nat
        rw [hV1] at hnat
        have hdw := divW_any bq cq V1 wr hnat hV1p (by omega)
        rw [hln] at hdw
        have HDW := Lib.hid hdw
        have HAT := Lib.hid hat
        have HE := Lib.hid (And.intro hi (And.intro hV1 (And.intro hln (And.intro hEE hEls))))
        clear hat hnat hdw hi hV1 hln hEE hEls
        go_wp2_with fail
        refine HDW.out.mono ?_; rintro e w1 ⟨rfl, hN1, hc1⟩
        obtain ⟨R, hR⟩ : ∃ R, V1 % 10000000000000000000 = R := ⟨_, rfl⟩
        obtain ⟨lq, hlq⟩ : ∃ lq, (Pl.digs M (V1 / 10000000000000000000)).length = lq := ⟨_, rfl⟩
        have hR19 : R < 10000000000000000000 := by rw [← hR]; exact Nat.mod_lt _ (by omega)
        rw [hR, hlq]
        have hA1 := HAT.out.nat.arr
        have hC1 := HAT.out.c.words hc1 hA1
        have hB1 := HAT.out.at_.chg hc1 (fun j _ h => HAT.out.c.arr.ne hA1 h.symm)
        have HR := Lib.hid (And.intro hR hlq)
        have H1 := Lib.hid (And.intro hN1 (And.intro hC1 hB1))
        clear hR hlq hN1 hc1 hA1 hC1 hB1
        go_wp2_with fail
        go_loopw [19, 20, 21] (fun iv rv jv wx => ∃ j, j ≤ 19 ∧ iv = .int .i64 ((ls - (E + j) : Nat) : Int) ∧ rv = .int .u64 ((R / 10 ^ j : Nat) : Int) ∧ jv = .int .i64 (j : Int) ∧ CwC w wx p q A ns bq sb os ls Ns q' A' c' ∧ NatW wx bq cq (Pl.digs M (V1 / 10000000000000000000)) ∧ BAt wx sb (os + (ls - (E + j))) (Pl.dec (ls - (ls - (E + j))) V)) (fun _ _ jv _ => 19 - (intOf jv).toNat)
        case atStart => exact ⟨0, by omega, by rw [Nat.add_zero, HE.out.1], by simp, rfl, H1.out.2.1, H1.out.1, H1.out.2.2⟩
        case round =>
          obtain ⟨wx, hwx⟩ : ∃ wx, wx = wr := ⟨_, rfl⟩
          subst hwx
          obtain ⟨j, hj, rfl, rfl, rfl, hC, hN, hBa⟩ := hrel
          obtain ⟨k, hk⟩ : ∃ k, ls - (E + j) = k := ⟨_, rfl⟩
          obtain ⟨y, hy⟩ : ∃ y, R / 10 ^ j = y := ⟨_, rfl⟩
          have hyR : y ≤ R := by rw [← hy]; exact Nat.div_le_self _ _
          rw [hk, hy]
          by_cases hjl : j < 19
          · have hjz : (j : Int) < 19 := by omega
            by_cases hk0 : 0 < k
            · have hkz : (0 : Int) < (k : Int) := by omega
              obtain ⟨k2, rfl⟩ : ∃ k2, k = k2 + 1 := ⟨k - 1, by omega⟩
              obtain ⟨z, hz⟩ : ∃ z, y / 10 = z := ⟨_, rfl⟩
              obtain ⟨dg, hdg⟩ : ∃ dg, y % 10 = dg := ⟨_, rfl⟩
              obtain ⟨zt, hzt⟩ : ∃ zt, z * 10 = zt := ⟨_, rfl⟩
              obtain ⟨x, hx⟩ : ∃ x, 48 + dg = x := ⟨_, rfl⟩
              have hk2l : k2 < l1 := by have := HE.out.1; omega
              have hdg9 : dg ≤ 9 := by omega
              have hx57 : x ≤ 57 := by omega
              have hkl : k2 < ls := by omega
              obtain ⟨⟨u, hu⟩, hf⟩ := hC.arr.has (i := os + k2) (by omega)
              have hC2 := hC.byte (i := os + k2) (by omega) (by omega) (.int .u8 (x : Int))
              have hN2 := hN.chg (chg_set wx sb (os + k2) (.int .u8 (x : Int))) (fun off h => hC.arr.ne hN.arr h.1)
              have hB2 : BAt (wx.setCell ⟨sb, os + k2, none⟩ (.int .u8 (x : Int))) sb (os + (ls - (E + (j + 1)))) (Pl.dec (ls - (ls - (E + (j + 1)))) V) := by
                have e1 : ls - (E + (j + 1)) = k2 := by omega
                have e2 := leaf_step (V := V) (E := E) (j := j) (ls := ls) hjl (by omega)
                rw [show E + (j + 1) = E + j + 1 from by omega, e2, show ls - (E + j + 1) = k2 from by omega, HE.out.2.1, HR.out.1, hy, hdg, hx]
                rw [hk, show os + (k2 + 1) = os + k2 + 1 from by omega] at hBa
                rw [← hk] at hBa
                exact BAt.put (by rw [hk] at hBa ⊢; exact hBa) hC.arr (by omega)
              have i1 : IntKind.i64.wrap (((k2 + 1 : Nat) : Int) - 1) = (k2 : Int) := by rw [IntWalk.i64_in _ (by omega)]; omega
              have i2 : (y : Int) / 10 = (z : Int) := by omega
              have i3 : IntKind.u64.wrap ((z : Int) * 10) = (zt : Int) := by rw [IntKind.wrap_u64]; omega
              have i4 : IntKind.u64.wrap ((y : Int) - (zt : Int)) = (dg : Int) := by rw [IntKind.wrap_u64]; omega
              have i5 : 48 + (dg : Int) = (x : Int) := by omega
              have i6 : (k2 : Int) < (l1 : Int) := by omega
              have HF := Lib.hid (And.intro hC2 (And.intro hN2 (And.intro hB2 (And.intro hk (And.intro hy hz)))))
              clear hC hN hBa hC2 hN2 hB2 hk hy hz hdg hzt hx
              go_wp2
              go_roundw
              case rel =>
                obtain ⟨r1, r2, r3, r4, r5, r6⟩ := HF.out
                have e1 : ls - (E + (j + 1)) = k2 := by omega
                exact ⟨j + 1, by omega, by rw [e1], by rw [Nat.pow_succ, ← Nat.div_div_eq_div_mul, r5, r6], by go_num, r1, r2, r3⟩
              case measure => simp [intOf]; omega
            · have hkz : ¬ (0 : Int) < (k : Int) := by omega
              have hend : ls - (E + 19) = k := by have := HE.out.2.2.2.2; omega
              have hVE : V / ten (E + 19) = V1 / 10000000000000000000 := by rw [← div_ten, HE.out.2.1]; rfl
              have hfin : CwAt w wx p q A ns bq cq sb os ls Ns V (E + 19) q' A' c' := ⟨hC, by rw [hVE]; exact hN, by rw [hend, ← hk]; exact hBa⟩
              have HF := Lib.hid (And.intro hfin (And.intro hend hVE))
              clear hC hN hBa hk hy hfin hend hVE
              go_wp2
              go_roundw
              case rel => exact ⟨E + 19, q', A', c', by have := HE.out.2.2.2.1; omega, by rw [HF.out.2.2, HR.out.2], by rw [HF.out.2.1], HF.out.1⟩
              case measure => simp [intOf]; have := HF.out.2.1; have := HE.out; omega
          · have hjz : ¬ (j : Int) < 19 := by omega
            have hend : ls - (E + 19) = k := by have := HE.out.2.2.2.2; omega
            have hVE : V / ten (E + 19) = V1 / 10000000000000000000 := by rw [← div_ten, HE.out.2.1]; rfl
            have hfin : CwAt w wx p q A ns bq cq sb os ls Ns V (E + 19) q' A' c' := ⟨hC, by rw [hVE]; exact hN, by rw [hend, ← hk]; exact hBa⟩
            have HF := Lib.hid (And.intro hfin (And.intro hend hVE))
            clear hC hN hBa hk hy hfin hend hVE
            go_wp2
            go_roundw
            case rel => exact ⟨E + 19, q', A', c', by have := HE.out.2.2.2.1; omega, by rw [HF.out.2.2, HR.out.2], by rw [HF.out.2.1], HF.out.1⟩
            case measure => simp [intOf]; have := HF.out.2.1; have := HE.out; omega
      · have hpz : ¬ (0 : Int) < (ln : Int) := by omega
        have hV10 : V1 = 0 := by
          rcases Nat.eq_zero_or_pos V1 with e | e
          · exact e
          · have := digs_pos_len e; omega
        have HE := Lib.hid (And.intro hi (And.intro hV1 hV10))
        have HAT := Lib.hid hat
        clear hi hV1 hV10 hln hat
        go_wp2_with fail
        go_loopw [19] (fun iv wx => ∃ j, iv = .int .i64 ((ls - (E + j) : Nat) : Int) ∧ CwC w wx p q A ns bq sb os ls Ns q' A' c' ∧ BAt wx sb (os + (ls - (E + j))) (Pl.dec (ls - (ls - (E + j))) V)) (fun iv _ => (intOf iv).toNat)
        case atStart => exact ⟨0, by rw [Nat.add_zero, HE.out.1], HAT.out.c, HAT.out.at_⟩
        case round =>
          obtain ⟨wx, hwx⟩ : ∃ wx, wx = wr := ⟨_, rfl⟩
          subst hwx
          obtain ⟨j, rfl, hC, hBa⟩ := hrel
          obtain ⟨k, hk⟩ : ∃ k, ls - (E + j) = k := ⟨_, rfl⟩
          rw [hk]
          by_cases hk0 : 0 < k
          · have hkz : (0 : Int) < (k : Int) := by omega
            obtain ⟨k2, rfl⟩ : ∃ k2, k = k2 + 1 := ⟨k - 1, by omega⟩
            have hk2l : k2 < l1 := by have := HE.out.1; omega
            have hkl : k2 < ls := by omega
            obtain ⟨⟨u, hu⟩, hf⟩ := hC.arr.has (i := os + k2) (by omega)
            have hC2 := hC.byte (i := os + k2) (by omega) (by omega) (.int .u8 48)
            have hB2 : BAt (wx.setCell ⟨sb, os + k2, none⟩ (.int .u8 48)) sb (os + (ls - (E + (j + 1)))) (Pl.dec (ls - (ls - (E + (j + 1)))) V) := by
              have e0 : V / 10 ^ (E + j) = 0 := by
                have h1 := HE.out.2.1
                rw [HE.out.2.2] at h1
                rw [← Pl.div_pow]
                unfold ten at h1
                rw [h1]; simp
              rw [show ls - (ls - (E + (j + 1))) = (E + j) + 1 from by omega, Pl.dec_pad _ _ e0, show ls - (E + (j + 1)) = k2 from by omega]
              rw [show ls - (ls - (E + j)) = E + j from by omega, hk, show os + (k2 + 1) = os + k2 + 1 from by omega] at hBa
              exact BAt.put (x := 48) hBa hC.arr (by omega)
            have i1 : IntKind.i64.wrap (((k2 + 1 : Nat) : Int) - 1) = (k2 : Int) := by rw [IntWalk.i64_in _ (by omega)]; omega
            have i6 : (k2 : Int) < (l1 : Int) := by omega
            have HF := Lib.hid (And.intro hC2 (And.intro hB2 hk))
            clear hC hBa hC2 hB2 hk
            go_wp2
            go_roundw
            case rel =>
              have e1 : ls - (E + (j + 1)) = k2 := by have := HF.out.2.2; omega
              exact ⟨j + 1, by rw [e1], HF.out.1, HF.out.2.1⟩
            case measure => simp [intOf]
          · have hkz : ¬ (0 : Int) < (k : Int) := by omega
            obtain rfl : k = 0 := by omega
            have hfin : CwBk w p q A ns bq sb os ls Ns V (.returned (.tuple #[])) wx := by
              rw [hk, Nat.add_zero, Nat.sub_zero] at hBa
              exact ⟨rfl, hBa, q', A', c', hC⟩
            have HF := Lib.hid hfin
            clear hfin hC hBa hk
            go_wp2
            go_end0
            exact HF.out
end Go.Proofs.YtgfkdjmoflbmdaaGreatDoor
