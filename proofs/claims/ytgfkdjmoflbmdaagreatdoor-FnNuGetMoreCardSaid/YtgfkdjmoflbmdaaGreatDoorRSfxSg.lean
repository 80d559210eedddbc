/- Contract. -/
import Derived.Test.YtgfkdjmoflbmdaaGreatDoorRSe
namespace Go.Proofs.YtgfkdjmoflbmdaaGreatDoor
open Go.RowKit
open Go.Proofs
set_option maxRecDepth 100000 in
theorem alias_empty (a : Addr) (n : Nat) (Y : Value) (w : World) : Calls Tryz.prog 192 #[.slice (some a) n 0, Y] w fun e w' => e = .returned (.bool false) ∧ ∃ q, w' = w.drewN q := by
  go_enter Tryz.func192, Tryz.ntmps192
  go_wp2_with fail
  go_quiet (fail)
  go_wp2
  go_ret
  exact ⟨rfl, _, rfl⟩
theorem alias_old (zA : Option Addr) (zn zc b ob lb cb N' : Nat) (w : World) (hO : Old w zA zc) (hn : zn ≤ zc) (hB : Arr w b N') (h2 : 0 < cb) (hc2 : cb ≤ maxLen) (hne : zA ≠ some ⟨b, 0, none⟩) :
    Calls Tryz.prog 192 #[.slice zA zn zc, .slice (some ⟨b, ob, none⟩) lb cb] w fun e w' => e = .returned (.bool false) ∧ ∃ q, w' = w.drewN q := by
  rcases hO with ⟨rfl, rfl⟩ | ⟨a, rfl, hA, hc⟩
  · obtain rfl : zn = 0 := by omega
    exact alias_nil _ w
  · rcases Nat.eq_zero_or_pos zc with h0 | h0
    · subst h0
      exact alias_empty _ _ _ w
    · exact alias_other a 0 zn zc b ob lb cb zc N' w hA hB h0 h2 hc hc2 (Or.inl (fun e => hne (by rw [e])))
def StkTo (w : World) (p : Nat) (q : Option Nat) (A : Option Addr) (ns g : Nat) (w' : World) : Prop :=
  ∃ q' A' c', StkAt w' p q' A' ns c' ∧ (A' = A ∨ ∃ b, A' = some ⟨b, 0, none⟩ ∧ w.heap.size ≤ b) ∧ (q' = q ∨ ∃ b, q' = some b ∧ w.heap.size ≤ b) ∧ A' ≠ some ⟨g, 0, none⟩
theorem StkBk.to {w w2 w' : World} {p ns g : Nat} {q : Option Nat} {A : Option Addr} (h : StkBk w2 p q A ns w') (hsz : w.heap.size ≤ w2.heap.size) (hg : g < w2.heap.size) (hA : A ≠ some ⟨g, 0, none⟩) : StkTo w p q A ns g w' := by
  obtain ⟨q', g', c', h1, h2, h3⟩ := h
  refine ⟨some q', some ⟨g', 0, none⟩, c', h1, ?_, ?_, ?_⟩
  · rcases h2 with h | h
    · exact Or.inl h.symm
    · exact Or.inr ⟨g', rfl, by omega⟩
  · rcases h3 with h | ⟨_, h⟩
    · exact Or.inl h.symm
    · exact Or.inr ⟨q', rfl, by omega⟩
  · rcases h2 with h | h
    · rw [← h]; exact hA
    · intro e
      injection e with e; injection e with e
      omega
theorem stk_not {w : World} {p ns c g : Nat} {q : Option Nat} {A zA : Option Addr} (hS : StkAt w p q A ns c) (hz : zA = some ⟨g, 0, none⟩ ∨ w.heap.size ≤ g) (hAz : ∀ b, A = some ⟨b, 0, none⟩ → zA ≠ some ⟨b, 0, none⟩) : A ≠ some ⟨g, 0, none⟩ := by
  intro e
  rcases hz with h | h
  · exact hAz g e h
  · rcases q with _ | q
    · rw [hS.2.1] at e; cases e
    · rcases hS.2.arr with ⟨h1, _⟩ | ⟨g', h1, h2, _⟩
      · rw [h1] at e; cases e
      · rw [h1] at e
        injection e with e; injection e with e
        subst e
        have := h2.lt; omega
def SqBk (w : World) (zA : Option Addr) (p : Nat) (q : Option Nat) (A : Option Addr) (ns V : Nat) (e : Ending) (w' : World) : Prop :=
  ∃ g c', e = .returned (.slice (some ⟨g, 0, none⟩) (Pl.digs M V).length c') ∧ NatW w' g c' (Pl.digs M V) ∧ (zA = some ⟨g, 0, none⟩ ∨ w.heap.size ≤ g) ∧ StkTo w p q A ns g w' ∧ Chg w w' (fun b off => zA = some ⟨b, 0, none⟩ ∨ StkCh p q A ns b off)
set_option maxRecDepth 100000 in
set_option maxHeartbeats 4000000 in
theorem sqr_any (p : Nat) (q : Option Nat) (A zA : Option Addr) (ns c zn zc bx cx n : Nat) (xs : List Nat) (w : World) (hS : StkAt w p q A ns c) (hV : w.cell? ⟨13, 0, none⟩ = some (.int .i64 12)) (hV2 : w.cell? ⟨14, 0, none⟩ = some (.int .i64 80)) (hO : Old w zA zc) (hzn : zn ≤ zc)
    (hX : NatW w bx cx xs) (hxl : ∀ d ∈ xs, d < M) (hn : xs.length = n) (hn2 : 2 ≤ n) (hn3 : n ≤ 70) (hns : ns ≤ 100000) (hne : zA ≠ some ⟨bx, 0, none⟩) (hAx : A ≠ some ⟨bx, 0, none⟩) (hAz : ∀ b, A = some ⟨b, 0, none⟩ → zA ≠ some ⟨b, 0, none⟩) :
    Calls Tryz.prog 201 #[.slice zA zn zc, .pointer (some ⟨p, 0, none⟩), .slice (some ⟨bx, 0, none⟩) n cx] w (SqBk w zA p q A ns (Pl.val M xs * Pl.val M xs)) := by
  have HAL := Lib.hid (alias_old zA zn zc bx 0 n cx cx w hO hzn hX.arr (by have := hX.fit; omega) hX.cap hne)
  have HS := Lib.hid hS
  have HX := Lib.hid hX
  have HO := Lib.hid hO
  have HN := Lib.hid hn
  have HV := Lib.hid (And.intro hV hV2)
  have n1 : ((n : Int) == 0) = false := by rw [beq_eq_false_iff_ne]; omega
  have n2 : ((n : Int) == 1) = false := by rw [beq_eq_false_iff_ne]; omega
  obtain ⟨m, hm⟩ : ∃ m, 2 * n = m := ⟨_, rfl⟩
  have i0 : 2 * (n : Int) = (m : Int) := by omega
  have HM := Lib.hid hm
  have HMK := Lib.hid (fun qd => makeW_any zA zn zc m (w.drewN qd) (hO.below (below_drewN (Below.refl _ _) qd)) hzn (by omega) (by omega))
  have hxb := hX.arr.lt
  clear hS hX hO hn hV hV2 hm
  go_enter_defers Tryz.func201, Tryz.ntmps201
  go_wp2_with fail
  refine HAL.out.mono ?_; rintro e w1 ⟨rfl, qd, rfl⟩
  go_wp2_with fail
  refine (HMK.out qd).mono ?_; rintro e w2 ⟨g, c', rfl, hm1, hm2, hA2, hb2, hor⟩
  have hb02 : Below w.heap.size w w2 := (below_drewN (Below.refl _ _) qd).trans hb2
  have hxg : bx ≠ g := by
    rintro rfl
    rcases hor with ⟨h, _⟩ | ⟨h, _⟩
    · exact hne h
    · have : w.heap.size ≤ bx := h
      omega
  have hX2 := HX.out.below hb02
  have hS2 := HS.out.below hb02
  have hzg : zA = some ⟨g, 0, none⟩ ∨ w.heap.size ≤ g := hor.imp (fun h => h.1) (fun h => h.1)
  have hAg : A ≠ some ⟨g, 0, none⟩ := stk_not HS.out hzg hAz
  have v1 : w2.cell? ⟨13, 0, none⟩ = some (.int .i64 12) := (hb02.cell (World.block_lt_of_cell? w _ HV.out.1)).trans HV.out.1
  have v2 : w2.cell? ⟨14, 0, none⟩ = some (.int .i64 80) := (hb02.cell (World.block_lt_of_cell? w _ HV.out.2)).trans HV.out.2
  have HG := Lib.hid (And.intro hA2 (And.intro hb02 (And.intro hzg hxg)))
  -- the end: the words' norm
  have hend : ∀ w3, (∃ zs : List Nat, zs.length = m ∧ (∀ d ∈ zs, d < M) ∧ Pl.val M zs = Pl.val M xs * Pl.val M xs ∧ WAt w3 g 0 zs) → StkTo w p q A ns g w3 → Chg w w3 (fun b off => zA = some ⟨b, 0, none⟩ ∨ StkCh p q A ns b off) → Arr w3 g c' →
      Calls Tryz.prog 170 #[.slice (some ⟨g, 0, none⟩) m c'] w3 (SqBk w zA p q A ns (Pl.val M xs * Pl.val M xs)) := by
    rintro w3 ⟨zs, hz1, hz2, hz3, hz4⟩ hst hch hA3
    refine (normW_any g 0 c' m zs w3 hz1 hm1 (by have := HM.out; omega) hz4 hz2).mono ?_
    rintro e w4 ⟨rfl, h1, h2, rfl⟩
    rw [hz3] at h1 h2 ⊢
    refine ⟨g, c', rfl, ⟨hA3, ?_, by omega, hm2⟩, hzg, hst, hch⟩
    rw [← h2]
    exact hz4.take _
  have HEND := Lib.hid hend
  clear hA2 hor hzg hend
  by_cases h12 : n < 12
  · have c1 : (n : Int) < 12 := by omega
    have c2 : (n : Int) < 80 := by omega
    have HBM := Lib.hid (basicMul_any g 0 c' m c' bx 0 cx bx 0 cx n n xs xs w2 HG.out.1 (by have := HM.out; omega) (by omega) hm1 HN.out HN.out (by omega) (by omega) hX2.at_ hX2.at_ hxl hxl (Or.inl hxg) (Or.inl hxg))
    have HS2 := Lib.hid hS2
    clear hX2 hS2
    go_wp2_with fail
    refine HBM.out.mono ?_; rintro e w3 ⟨rfl, zs, hz1, hz2, hz3, hz4, hz5⟩
    have hc5 := Chg.of_wr hz5 (by omega)
    have hst : StkTo w p q A ns g w3 := ⟨q, A, c, HS2.out.chg hc5 (fun b off h => ⟨_, h.1 ▸ HG.out.1⟩), Or.inl rfl, Or.inl rfl, hAg⟩
    have hch : Chg w w3 (fun b off => zA = some ⟨b, 0, none⟩ ∨ StkCh p q A ns b off) := (Chg.of_below HG.out.2.1 (fun _ _ => False)).trans hc5 (fun _ _ h => h.elim) (fun b off hl h => by
      rcases HG.out.2.2.1 with h2 | h2
      · exact Or.inl (by rw [h.1]; exact h2)
      · have := h.1; omega)
    have HNO := Lib.hid (HEND.out w3 ⟨zs, hz1, hz2, hz3, hz4⟩ hst hch (hc5.arr _ _ HG.out.1))
    clear hz1 hz2 hz3 hz4 hz5 hc5 hst hch
    go_wp2_with fail
    refine HNO.out.mono ?_
    rintro e w4 hB
    have HB := Lib.hid hB
    obtain ⟨g4, c4, rfl, _⟩ := hB
    go_wp2
    refine ⟨.slice (some ⟨g4, 0, none⟩) (Pl.digs M (Pl.val M xs * Pl.val M xs)).length c4, by simp [results, Tryz.results201, go_sem], HB.out⟩
  · have c1 : ¬ (n : Int) < 12 := by omega
    have c2 : (n : Int) < 80 := by omega
    have HBM := Lib.hid (basicSqr_any p q A ns c g c' c' bx cx n xs w2 hS2 v1 HG.out.1 (by have := HM.out; omega) HN.out (by omega) (by omega) (by have := HX.out.fit; have := HN.out; omega) hns hX2.at_ ⟨cx, hX2.arr⟩ hxl hxg hAg hAx)
    have HS2 := Lib.hid hS2
    rw [HM.out] at HBM
    clear hX2 hS2
    go_wp2_with fail
    refine HBM.out.mono ?_; rintro e w3 ⟨rfl, ⟨zs, hz1, hz2, hz3, hz4⟩, hst, hc5⟩
    rw [HM.out] at hz1
    have hst2 : StkTo w p q A ns g w3 := hst.to HG.out.2.1.size HG.out.1.lt hAg
    have hch : Chg w w3 (fun b off => zA = some ⟨b, 0, none⟩ ∨ StkCh p q A ns b off) := (Chg.of_below HG.out.2.1 (fun _ _ => False)).trans hc5 (fun _ _ h => h.elim) (fun b off hl h => by
      rcases h with h | h
      · rcases HG.out.2.2.1 with h2 | h2
        · exact Or.inl (by rw [h]; exact h2)
        · omega
      · exact Or.inr h)
    have HNO := Lib.hid (HEND.out w3 ⟨zs, hz1, hz2, hz3, hz4⟩ hst2 hch (hc5.arr _ _ HG.out.1))
    clear hz1 hz2 hz3 hz4 hc5 hst hst2 hch
    go_wp2_with fail
    refine HNO.out.mono ?_
    rintro e w4 hB
    have HB := Lib.hid hB
    obtain ⟨g4, c4, rfl, _⟩ := hB
    go_wp2
    refine ⟨.slice (some ⟨g4, 0, none⟩) (Pl.digs M (Pl.val M xs * Pl.val M xs)).length c4, by simp [results, Tryz.results201, go_sem], HB.out⟩
set_option maxRecDepth 100000 in
set_option maxHeartbeats 4000000 in
theorem sqr_one (p : Nat) (q : Option Nat) (A zA : Option Addr) (ns c zn zc bx cx d : Nat) (w : World) (hS : StkAt w p q A ns c) (hO : Old w zA zc) (hzn : zn ≤ zc) (hX : NatW w bx cx [d]) (hdM : d < M) (hAz : ∀ b, A = some ⟨b, 0, none⟩ → zA ≠ some ⟨b, 0, none⟩) :
    Calls Tryz.prog 201 #[.slice zA zn zc, .pointer (some ⟨p, 0, none⟩), .slice (some ⟨bx, 0, none⟩) 1 cx] w (SqBk w zA p q A ns (d * d)) := by
  have HS := Lib.hid hS
  have HMK := Lib.hid (makeW_any zA zn zc 2 w hO hzn (by omega) (by omega))
  have hcd := hX.at_ 0 (by simp)
  simp only [Nat.zero_add, List.getElem_cons_zero] at hcd
  have HMW := Lib.hid (fun W => mulWW_any d d hdM hdM W)
  have hq : d * d / M < M := by rw [Nat.div_lt_iff_lt_mul M_pos]; exact Nat.mul_lt_mul'' hdM hdM
  have hr : d * d % M < M := Nat.mod_lt _ M_pos
  have hv : d * d % M + M * (d * d / M) = d * d := by have := Nat.div_add_mod (d * d) M; omega
  obtain ⟨V, hV⟩ : ∃ V, d * d = V := ⟨_, rfl⟩
  rw [hV] at HMW hq hr hv ⊢
  obtain ⟨lo, hlo⟩ : ∃ l, V % M = l := ⟨_, rfl⟩
  obtain ⟨hh, hhh⟩ : ∃ l, V / M = l := ⟨_, rfl⟩
  rw [hlo, hhh] at HMW hv
  rw [hlo] at hr
  rw [hhh] at hq
  have HVL := Lib.hid (And.intro hq (And.intro hr hv))
  clear hX hS hO hV hlo hhh hq hr hv
  go_enter_defers Tryz.func201, Tryz.ntmps201
  go_wp2_with fail
  refine HMK.out.mono ?_; rintro e w2 ⟨g, c', rfl, hm1, hm2, hA2, hb2, hor⟩
  have hzg : zA = some ⟨g, 0, none⟩ ∨ w.heap.size ≤ g := hor.imp (fun h => h.1) (fun h => h.1)
  obtain ⟨⟨z0, hz0⟩, hf0⟩ := hA2.has (i := 0) (by omega)
  obtain ⟨⟨z1, hz1⟩, hf1⟩ := hA2.has (i := 1) (by omega)
  have tp := two_put (zs := []) (o := 0) (i := 0) (lo := lo) (hi' := hh) hA2 (by simp; omega) (fun j hj => absurd hj (by simp)) rfl
  simp only [Nat.zero_add, List.nil_append] at tp
  have hS2 := HS.out.below hb2
  obtain ⟨w3, hw3⟩ : ∃ w3, (w2.setCell ⟨g, 1, none⟩ (.int .u64 (hh : Int))).setCell ⟨g, 0, none⟩ (.int .u64 (lo : Int)) = w3 := ⟨_, rfl⟩
  rw [hw3] at tp
  have hst : StkTo w p q A ns g w3 := ⟨q, A, c, hS2.chg tp.2 (fun b off h => ⟨_, h ▸ hA2⟩), Or.inl rfl, Or.inl rfl, stk_not HS.out hzg hAz⟩
  have hch : Chg w w3 (fun b off => zA = some ⟨b, 0, none⟩ ∨ StkCh p q A ns b off) := (Chg.of_below hb2 (fun _ _ => False)).trans tp.2 (fun _ _ h => h.elim) (fun b off hl h => by
    rcases hzg with h2 | h2
    · exact Or.inl (by rw [h]; exact h2)
    · omega)
  have hA3 := tp.2.arr _ _ hA2
  have hno : Calls Tryz.prog 170 #[.slice (some ⟨g, 0, none⟩) 2 c'] w3 (SqBk w zA p q A ns V) := by
    obtain ⟨k1, k2, k3⟩ := HVL.out
    refine (normW_any g 0 c' 2 [lo, hh] w3 rfl hm1 (by omega) tp.1 (fun e he => by
      rcases List.mem_cons.1 he with rfl | he
      · exact k2
      · rw [List.mem_singleton] at he; rw [he]; exact k1)).mono ?_
    rintro e w4 ⟨rfl, h1, h2, rfl⟩
    have hval : Pl.val M [lo, hh] = V := by simp only [Pl.val, Nat.mul_zero, Nat.add_zero]; exact k3
    rw [hval] at h1 h2 ⊢
    refine ⟨g, c', rfl, ⟨hA3, ?_, by omega, hm2⟩, hzg, hst, hch⟩
    rw [← h2]
    exact tp.1.take _
  have HNO := Lib.hid hno
  have HW3 := Lib.hid hw3
  have HCD : Hid (w2.cell? ⟨bx, 0, none⟩ = some (.int .u64 (d : Int))) := Lib.hid ((hb2.cell (p := ⟨bx, 0, none⟩) (World.block_lt_of_cell? w _ hcd)).trans hcd)
  have hcd2 := HCD.out
  clear hA2 hor hzg tp hS2 hst hch hA3 hno hw3
  go_wp2_with fail
  refine (HMW.out _).mono ?_; rintro e w5 ⟨rfl, rfl⟩
  go_wp2_with fail
  rw [HW3.out]
  refine HNO.out.mono ?_
  rintro e w4 hB
  have HB := Lib.hid hB
  obtain ⟨g4, c4, rfl, _⟩ := hB
  go_wp2
  refine ⟨.slice (some ⟨g4, 0, none⟩) (Pl.digs M V).length c4, by simp [results, Tryz.results201, go_sem], HB.out⟩
structure BigVars (w : World) : Prop where
  v10 : w.cell? ⟨10, 0, none⟩ = some (.int .i64 8)
  v13 : w.cell? ⟨13, 0, none⟩ = some (.int .i64 12)
  v14 : w.cell? ⟨14, 0, none⟩ = some (.int .i64 80)
  v15 : w.cell? ⟨15, 0, none⟩ = some (.int .i64 40)
  v16 : w.cell? ⟨16, 0, none⟩ = some (.int .i64 40)
theorem BigVars.chg {w w' : World} {S : Nat → Nat → Prop} (h : BigVars w) (hc : Chg w w' S) (hs : ∀ b off, S b off → 16 < b) : BigVars w' :=
  ⟨hc.cell _ _ _ (fun k => by have := hs _ _ k; omega) h.v10, hc.cell _ _ _ (fun k => by have := hs _ _ k; omega) h.v13, hc.cell _ _ _ (fun k => by have := hs _ _ k; omega) h.v14, hc.cell _ _ _ (fun k => by have := hs _ _ k; omega) h.v15, hc.cell _ _ _ (fun k => by have := hs _ _ k; omega) h.v16⟩
theorem BigVars.below {w w' : World} (h : BigVars w) (hb : Below w.heap.size w w') : BigVars w' := h.chg (Chg.of_below hb (fun _ _ => False)) (fun _ _ k => k.elim)
theorem BigVars.lt {w : World} (h : BigVars w) : 16 < w.heap.size := World.block_lt_of_cell? w _ h.v16
structure StkHi (p : Nat) (q : Option Nat) (A : Option Addr) : Prop where
  p : 16 < p
  q : ∀ b, q = some b → 16 < b
  a : ∀ b, A = some ⟨b, 0, none⟩ → 16 < b
theorem StkHi.ch {p : Nat} {q : Option Nat} {A : Option Addr} {ns b off : Nat} (h : StkHi p q A) (k : StkCh p q A ns b off) : 16 < b := by
  rcases k with k | k | k
  · rw [k]; exact h.p
  · exact h.q b k
  · exact h.a b k.1
theorem StkHi.to {w : World} {p : Nat} {q q' : Option Nat} {A A' : Option Addr} (h : StkHi p q A) (hw : 16 < w.heap.size) (h1 : A' = A ∨ ∃ b, A' = some ⟨b, 0, none⟩ ∧ w.heap.size ≤ b) (h2 : q' = q ∨ ∃ b, q' = some b ∧ w.heap.size ≤ b) : StkHi p q' A' := by
  refine ⟨h.p, fun b e => ?_, fun b e => ?_⟩
  · rcases h2 with h2 | ⟨b', h2, h3⟩
    · exact h.q b (by rw [← h2]; exact e)
    · rw [h2] at e; injection e with e; omega
  · rcases h1 with h1 | ⟨b', h1, h3⟩
    · exact h.a b (by rw [← h1]; exact e)
    · rw [h1] at e; injection e with e; injection e with e; omega
theorem stkCh_to {w : World} {p ns b off : Nat} {q q' : Option Nat} {A A' : Option Addr} (h1 : A' = A ∨ ∃ b, A' = some ⟨b, 0, none⟩ ∧ w.heap.size ≤ b) (h2 : q' = q ∨ ∃ b, q' = some b ∧ w.heap.size ≤ b) (hb : b < w.heap.size) (h : StkCh p q' A' ns b off) : StkCh p q A ns b off := by
  rcases h with h | h | h
  · exact Or.inl h
  · rcases h2 with h2 | ⟨b', h2, h3⟩
    · exact Or.inr (Or.inl (by rw [← h2]; exact h))
    · rw [h2] at h; injection h with h; omega
  · rcases h1 with h1 | ⟨b', h1, h3⟩
    · exact Or.inr (Or.inr ⟨by rw [← h1]; exact h.1, h.2⟩)
    · have h4 := h.1
      rw [h1] at h4; injection h4 with h4; injection h4 with h4; omega
theorem new_trans {α : Type} {w w2 : World} {X Y Z : α} {f : Nat → α} (hs : w.heap.size ≤ w2.heap.size) (h1 : Y = X ∨ ∃ b, Y = f b ∧ w.heap.size ≤ b) (h2 : Z = Y ∨ ∃ b, Z = f b ∧ w2.heap.size ≤ b) : Z = X ∨ ∃ b, Z = f b ∧ w.heap.size ≤ b := by
  rcases h2 with h2 | ⟨b, h2, h3⟩
  · rw [h2]; exact h1
  · exact Or.inr ⟨b, h2, by omega⟩
theorem natW_of_own {w : World} {base n : Nat} {v : Value} {ws : List Nat} (h : w.ownsRow base 179 1 v n (WC ws)) (hn : ws.length = n) (h0 : 0 < n) : ∃ g c, v = .slice (some ⟨g, 0, none⟩) n c ∧ base ≤ g ∧ NatW w g c ws := by
  rcases h.2 with ⟨_, h1⟩ | ⟨g, c, cur, h1, h2, h3, h4, h5, h6, h7⟩
  · omega
  · refine ⟨g, c, h1, h2, ⟨⟨cur.toList, by rw [Array.toArray_toList]; exact h3, by simpa using h6⟩, fun j hj => ?_, by omega, h5⟩⟩
    have hb : Blk w g 179 cur := h3
    rw [Nat.zero_add, hb.cell j]
    have h8 : (cur.toList.take (n * 1))[j]? = some (.int .u64 ((ws[j] : Nat) : Int)) := by rw [h7]; exact WC_get ws j hj
    rw [List.getElem?_take, if_pos (by omega)] at h8
    rw [← h8]
    simp
def Tsq (j : Nat) : Nat := (10 ^ 19) ^ (2 ^ j)
theorem Tsq_succ (j : Nat) : Tsq j * Tsq j = Tsq (j + 1) := by
  unfold Tsq
  rw [← Nat.pow_add]
  congr 1
  omega
theorem Tsq_facts : ∀ j, j < 4 → M ^ (2 ^ j - 1) ≤ Tsq j ∧ Tsq j < M ^ (2 ^ j) := by
  have h : (List.range 4).all (fun j => Nat.ble (M ^ (2 ^ j - 1)) (Tsq j) && Nat.blt (Tsq j) (M ^ (2 ^ j))) = true := by kernel_rfl
  intro j hj
  have := List.all_eq_true.1 h j (List.mem_range.2 hj)
  rw [Bool.and_eq_true] at this
  exact ⟨Nat.le_of_ble_eq_true this.1, Nat.le_of_ble_eq_true this.2⟩
theorem Tsq_len {j : Nat} (h : j < 4) : (Pl.digs M (Tsq j)).length = 2 ^ j := by
  obtain ⟨h1, h2⟩ := Tsq_facts j h
  have e : 2 ^ j = (2 ^ j - 1) + 1 := by have := Nat.pow_pos (n := j) (show 0 < 2 by omega); omega
  rw [e]
  rw [e] at h2
  exact Pl.digs_len_bits h1 h2
theorem Tsq_zero : Pl.digs M (Tsq 0) = [10000000000000000000] := by
  have : Tsq 0 = 10000000000000000000 := by kernel_rfl
  rw [this]
  exact digs_one (by omega) (by rw [M_eq]; omega)
def ExpBk (w : World) (p : Nat) (q : Option Nat) (A : Option Addr) (ns V : Nat) (e : Ending) (w' : World) : Prop :=
  ∃ g c', e = .returned (.slice (some ⟨g, 0, none⟩) (Pl.digs M V).length c') ∧ NatW w' g c' (Pl.digs M V) ∧ w.heap.size ≤ g ∧ StkTo w p q A ns g w' ∧ Chg w w' (StkCh p q A ns)
structure ExpAt (w : World) (p : Nat) (q : Option Nat) (A : Option Addr) (ns j : Nat) (zv zzv : Value) (wr : World) : Prop where
  le : j ≤ 3
  at_ : ∃ zb zc zzA zzn zzc q' A' c', zv = .slice (some ⟨zb, 0, none⟩) (Pl.digs M (Tsq j)).length zc ∧ zzv = .slice zzA zzn zzc ∧ NatW wr zb zc (Pl.digs M (Tsq j)) ∧ w.heap.size ≤ zb ∧ Old wr zzA zzc ∧ zzn ≤ zzc ∧ (zzA = none ∨ ∃ b, zzA = some ⟨b, 0, none⟩ ∧ w.heap.size ≤ b) ∧ zzA ≠ some ⟨zb, 0, none⟩ ∧
    StkAt wr p q' A' ns c' ∧ (A' = A ∨ ∃ b, A' = some ⟨b, 0, none⟩ ∧ w.heap.size ≤ b) ∧ (q' = q ∨ ∃ b, q' = some b ∧ w.heap.size ≤ b) ∧ A' ≠ some ⟨zb, 0, none⟩ ∧ (∀ b, A' = some ⟨b, 0, none⟩ → zzA ≠ some ⟨b, 0, none⟩)
  chg : Chg w wr (StkCh p q A ns)
theorem ExpAt.step {w wr : World} {p ns j : Nat} {q : Option Nat} {A : Option Addr} {zv zzv : Value} (h : ExpAt w p q A ns j zv zzv wr) (hj : j < 3) (hV : BigVars w) (hH : StkHi p q A) (hns : ns ≤ 100000) :
    Calls Tryz.prog 201 #[zzv, .pointer (some ⟨p, 0, none⟩), zv] wr fun e w' => ∃ v, e = .returned v ∧ ExpAt w p q A ns (j + 1) v zv w' := by
  obtain ⟨hle, ⟨zb, zc, zzA, zzn, zzc, q', A', c', rfl, rfl, hZ, hzb, hO, hzn, hzz, hne, hS, hA', hq', hAz, hAzz⟩, hch⟩ := h
  have hw16 := hV.lt
  have hVr : BigVars wr := hV.chg hch (fun _ _ k => hH.ch k)
  have hlen := Tsq_len (j := j) (by omega)
  have hsq : Calls Tryz.prog 201 #[.slice zzA zzn zzc, .pointer (some ⟨p, 0, none⟩), .slice (some ⟨zb, 0, none⟩) (Pl.digs M (Tsq j)).length zc] wr (SqBk wr zzA p q' A' ns (Tsq j * Tsq j)) := by
    rcases Nat.eq_zero_or_pos j with rfl | hj0
    · rw [Tsq_zero] at hZ ⊢
      have e : Tsq 0 = 10000000000000000000 := by kernel_rfl
      rw [e]
      exact sqr_one p q' A' zzA ns c' zzn zzc zb zc _ wr hS hO hzn hZ (by rw [M_eq]; omega) hAzz
    · have h2 : 2 ≤ 2 ^ j := by
        have := Nat.pow_le_pow_right (show 0 < 2 by omega) (show 1 ≤ j by omega)
        omega
      have h3 : 2 ^ j ≤ 70 := by
        have := Nat.pow_le_pow_right (show 0 < 2 by omega) (show j ≤ 2 by omega)
        omega
      have := sqr_any p q' A' zzA ns c' zzn zzc zb zc (2 ^ j) (Pl.digs M (Tsq j)) wr hS hVr.v13 hVr.v14 hO hzn hZ (Pl.digs_lt M _ M_two) hlen h2 h3 hns hne hAz hAzz
      rw [Pl.val_digs M _ M_two, ← hlen] at this
      exact this
  refine hsq.mono ?_
  rintro e w' ⟨g, c2, rfl, hN, hg, ⟨q2, A2, c3, hS2, hA2, hq2, hA2g⟩, hc2⟩
  rw [Tsq_succ] at hN ⊢
  have hsz := hch.size
  have hgw : w.heap.size ≤ g := by
    rcases hg with h | h
    · rcases hzz with h2 | ⟨b, h2, h3⟩
      · rw [h2] at h; cases h
      · rw [h2] at h; injection h with h; injection h with h; omega
    · omega
  have hzbl := hZ.arr.lt
  have hgz : g ≠ zb := by
    rintro rfl
    rcases hg with h | h
    · exact hne h
    · omega
  refine ⟨_, rfl, by omega, ⟨g, c2, some ⟨zb, 0, none⟩, _, zc, q2, A2, c3, rfl, rfl, hN, hgw, ?_, hZ.fit, Or.inr ⟨zb, rfl, hzb⟩, (fun e => hgz (by injection e with e; injection e with e; exact e.symm)), hS2, new_trans hsz hA' hA2, new_trans hsz hq' hq2, hA2g, ?_⟩, ?_⟩
  · exact Or.inr ⟨zb, rfl, hc2.arr _ _ hZ.arr, hZ.cap⟩
  · intro b e e2
    rw [← e2] at e
    rcases hA2 with h | ⟨b', h, h3⟩
    · rw [h] at e; exact hAz e
    · rw [h] at e; injection e with e; injection e with e; omega
  · refine hch.trans hc2 (fun _ _ h => h) (fun b off hb h => ?_)
    rcases h with h | h
    · rcases hzz with h2 | ⟨b', h2, h3⟩
      · rw [h2] at h; cases h
      · rw [h2] at h; injection h with h; injection h with h; omega
    · exact stkCh_to hA' hq' hb h
theorem Tsq_three : Tsq 3 = 10 ^ 152 := by kernel_rfl
set_option maxRecDepth 100000 in
set_option maxHeartbeats 4000000 in
theorem expNN_any (p : Nat) (q : Option Nat) (A : Option Addr) (ns c bx cx by_ cy : Nat) (w : World) (hS : StkAt w p q A ns c) (hV : BigVars w) (hH : StkHi p q A) (hns : ns ≤ 100000) (hX : NatW w bx cx [10000000000000000000]) (hY : NatW w by_ cy [8]) :
    Calls Tryz.prog 210 #[.slice none 0 0, .pointer (some ⟨p, 0, none⟩), .slice (some ⟨bx, 0, none⟩) 1 cx, .slice (some ⟨by_, 0, none⟩) 1 cy, .slice none 0 0, .bool false] w (ExpBk w p q A ns (10 ^ 152)) := by
  have HAL := Lib.hid (fun Y W => alias_nil Y W)
  have hcx : ∀ k, (w.drewN k).cell? ⟨bx, 0, none⟩ = some (.int .u64 10000000000000000000) := fun k => by
    have := hX.at_ 0 (by simp)
    simpa using this
  have hcy : ∀ k, (w.drewN k).cell? ⟨by_, 0, none⟩ = some (.int .u64 8) := fun k => by
    have := hY.at_ 0 (by simp)
    simpa using this
  have HCY := Lib.hid (hcy 0)
  have HS := Lib.hid hS
  have HV := Lib.hid hV
  have HH := Lib.hid hH
  have HSET := Lib.hid (fun k => set_any none 0 0 bx 0 1 cx [10000000000000000000] (w.drewN k) (Or.inl ⟨rfl, rfl⟩) (Nat.le_refl _) (hX.at_.drewN k) rfl (by omega) (by omega) (by simp))
  have HNL := Lib.hid (fun W => nlz_any 8 60 W (by omega) (by decide) (by rw [M_eq]; decide))
  have hyl := hY.arr.lt
  clear hX hY hS hV hH
  go_enter_defers Tryz.func210, Tryz.ntmps210
  go_wp2_with fail
  refine (HAL.out _ _).mono ?_; rintro e w1 ⟨rfl, k1, rfl⟩
  go_wp2_with fail
  refine (HAL.out _ _).mono ?_; rintro e w1 ⟨rfl, k2, rfl⟩
  go_wp2_with fail
  refine (HSET.out (k1 + k2)).mono ?_; rintro e w2 ⟨zb, zc, rfl, hZ, hzb, hc2⟩
  have hc02 : Chg w w2 (StkCh p q A ns) := (Chg.of_below (below_drewN (Below.refl _ _) (k1 + k2)) (fun _ _ => False)).trans hc2 (fun _ _ h => h.elim) (fun b off hb h => by
    rcases h with h | h
    · cases h
    · exact h.elim)
  have hzb2 : w.heap.size ≤ zb := by
    rcases hzb with h | h
    · cases h
    · exact h
  have hS2 : StkAt w2 p q A ns c := HS.out.chg ((Chg.of_below (below_drewN (Below.refl _ _) (k1 + k2)) (fun _ _ => False)).trans hc2 (T := fun _ _ => False) (fun _ _ h => h) (fun b off hb h => by
    rcases h with h | h
    · cases h
    · exact h)) (fun _ _ h => h.elim)
  have hcy2 : w2.cell? ⟨by_, 0, none⟩ = some (.int .u64 8) := hc2.cell _ _ _ (fun h => by
    rcases h with h | h
    · cases h
    · exact h) HCY.out
  have hstart : ExpAt w p q A ns 0 (.slice (some ⟨zb, 0, none⟩) 1 zc) (.slice none 0 0) w2 := by
    refine ⟨by omega, ⟨zb, zc, none, 0, 0, q, A, c, by rw [Tsq_zero]; rfl, rfl, by rw [Tsq_zero]; exact hZ, hzb2, Or.inl ⟨rfl, rfl⟩, Nat.le_refl _, Or.inl rfl, by simp, hS2, Or.inl rfl, Or.inl rfl, stk_not HS.out (zA := none) (Or.inr hzb2) (by simp), by simp⟩, hc02⟩
  have HST := Lib.hid hstart
  clear hZ hzb hc2 hc02 hzb2 hS2 hstart
  go_wp2_with fail
  refine (HNL.out _).mono ?_; rintro e w3 ⟨rfl, rfl⟩
  have hsh : IntKind.u64.wrap (8 * 2 ^ 61) = 0 := by decide
  go_wp2_with fail
  go_loopw [0, 15, 19, 21] (fun zv vv zzv jv wr => ∃ j : Nat, vv = .int .u64 0 ∧ jv = .int .i64 (j : Int) ∧ ExpAt w p q A ns j zv zzv wr) (fun _ _ _ jv _ => 3 - (intOf jv).toNat)
  case atStart => exact ⟨0, rfl, rfl, HST.out⟩
  case round =>
    obtain ⟨j, rfl, rfl, hE⟩ := hrel
    have hj := hE.le
    by_cases hj3 : j < 3
    · have HSQ := Lib.hid (hE.step hj3 HV.out HH.out hns)
      have j1 : (j : Int) < 3 := by omega
      have ha0 : bits .and .u64 0 9223372036854775808 = 0 := by decide
      clear hE
      go_wp2_with fail
      refine HSQ.out.mono ?_; rintro e w4 ⟨v, rfl, hE4⟩
      have HE4 := Lib.hid hE4
      clear hE4
      go_wp2
      go_roundw
      case rel => exact ⟨j + 1, rfl, by go_num, HE4.out⟩
      case measure => simp [intOf]; omega
    · obtain rfl : j = 3 := by omega
      obtain ⟨_, ⟨zb, zc, zzA, zzn, zzc, q', A', c', rfl, rfl, hZ, hzb, _, _, _, _, hS, hA', hq', hAz, _⟩, hch⟩ := hE
      rw [Tsq_three] at hZ
      have hlt := Pl.digs_lt M (10 ^ 152) M_two
      have hlen : (Pl.digs M (10 ^ 152)).length = 8 := by rw [← Tsq_three]; exact Tsq_len (by omega)
      have hno : Calls Tryz.prog 170 #[.slice (some ⟨zb, 0, none⟩) (Pl.digs M (Tsq 3)).length zc] wr (ExpBk w p q A ns (10 ^ 152)) := by
        rw [Tsq_three]
        refine (normW_any zb 0 zc _ _ wr rfl hZ.fit (by omega) hZ.at_ hlt).mono ?_
        rintro e w4 ⟨rfl, _, _, rfl⟩
        rw [Pl.val_digs M _ M_two]
        exact ⟨zb, zc, rfl, hZ, hzb, ⟨q', A', c', hS, hA', hq', hAz⟩, hch⟩
      have HNO := Lib.hid hno
      clear hno hZ hzb hS hA' hq' hAz hch hlt hlen
      obtain ⟨w4, hw4⟩ : ∃ w4, w4 = wr := ⟨_, rfl⟩
      subst hw4
      go_wp2_with fail
      go_loopw [0, 22] (fun zv iv w5 => zv = .slice (some ⟨zb, 0, none⟩) (Pl.digs M (Tsq 3)).length zc ∧ iv = .int .i64 (-1) ∧ w4 = w5) (fun _ _ _ => 0)
      case atStart => exact ⟨rfl, rfl, rfl⟩
      case round =>
        obtain ⟨rfl, rfl, rfl⟩ := hrel
        go_wp2_with fail
        refine HNO.out.mono ?_; rintro e w6 hB
        have HB := Lib.hid hB
        obtain ⟨g6, c6, rfl, _⟩ := hB
        go_wp2
        exact ⟨.slice (some ⟨g6, 0, none⟩) (Pl.digs M (10 ^ 152)).length c6, by simp [results, Tryz.results210, go_sem], HB.out⟩
set_option maxRecDepth 100000 in
theorem expWW_any (p : Nat) (q : Option Nat) (A : Option Addr) (ns c : Nat) (w : World) (hS : StkAt w p q A ns c) (hV : BigVars w) (hH : StkHi p q A) (hns : ns ≤ 100000) :
    Calls Tryz.prog 200 #[.slice none 0 0, .pointer (some ⟨p, 0, none⟩), .int .u64 10000000000000000000, .int .u64 8] w (ExpBk w p q A ns (10 ^ 152)) := by
  have hown : ∀ W : World, W.ownsRow W.heap.size 179 1 (.slice none 0 0) 0 [] := fun W => ⟨rfl, Or.inl ⟨rfl, rfl⟩⟩
  have HS1 := Lib.hid (setWord_any w.heap.size 0 none [] 10000000000000000000 w (hown w) (by rw [M_eq]; omega) (Nat.le_refl _))
  have HS2 := Lib.hid (fun W => setWord_any W.heap.size 0 none [] 8 W (hown W) (by rw [M_eq]; omega) (Nat.le_refl _))
  have HS := Lib.hid hS
  have HV := Lib.hid hV
  clear hown hS hV
  go_enter Tryz.func200, Tryz.ntmps200
  go_wp2_with fail
  refine HS1.out.mono ?_; rintro e w1 ⟨v1, rfl, hN1, hb1⟩
  unfold NatAt at hN1
  rw [digs_one (r := 10000000000000000000) (by omega) (by rw [M_eq]; omega)] at hN1
  obtain ⟨g1, c1, rfl, hg1, hX⟩ := natW_of_own hN1 rfl (by simp)
  have HX := Lib.hid hX
  clear hN1 hX
  go_wp2_with fail
  refine (HS2.out w1).mono ?_; rintro e w2 ⟨v2, rfl, hN2, hb2⟩
  unfold NatAt at hN2
  rw [digs_one (r := 8) (by omega) (by rw [M_eq]; omega)] at hN2
  obtain ⟨g2, c2, rfl, hg2, hY⟩ := natW_of_own hN2 rfl (by simp)
  have hb02 : Below w.heap.size w w2 := hb1.trans (hb2.mono hb1.size)
  have HE := Lib.hid (expNN_any p q A ns c g1 c1 g2 c2 w2 (HS.out.below hb02) (HV.out.below hb02) hH hns (HX.out.below hb2) hY)
  clear hN2 hY
  go_wp2_with fail
  refine HE.out.mono ?_; rintro e w3 ⟨g3, c3, rfl, hZ, hg3, ⟨q', A', c', hS3, hA3, hq3, hne3⟩, hc3⟩
  have hsz := hb02.size
  have hR : ExpBk w p q A ns (10 ^ 152) (.returned (.slice (some ⟨g3, 0, none⟩) (Pl.digs M (10 ^ 152)).length c3)) w3 :=
    ⟨g3, c3, rfl, hZ, by omega, ⟨q', A', c', hS3, hA3.imp id (fun ⟨b, h1, h2⟩ => ⟨b, h1, by omega⟩), hq3.imp id (fun ⟨b, h1, h2⟩ => ⟨b, h1, by omega⟩), hne3⟩, (Chg.of_below hb02 (fun _ _ => False)).trans hc3 (fun _ _ h => h.elim) (fun _ _ _ h => h)⟩
  have HR := Lib.hid hR
  clear hZ hg3 hS3 hA3 hq3 hne3 hc3 hR
  go_wp2
  go_ret
  exact HR.out
end Go.Proofs.YtgfkdjmoflbmdaaGreatDoor
