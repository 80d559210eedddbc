/- Contract: basicSqr. -/
import Derived.Test.YtgfkdjmoflbmdaaGreatDoorRScxSi
namespace Go.Proofs.YtgfkdjmoflbmdaaGreatDoor
open Go.RowKit
open Go.Proofs
def StkCh (p : Nat) (q : Option Nat) (A : Option Addr) (ns : Nat) (b off : Nat) : Prop := b = p ∨ q = some b ∨ (A = some ⟨b, 0, none⟩ ∧ ns ≤ off)
def StkBk (w : World) (p : Nat) (q : Option Nat) (A : Option Addr) (ns : Nat) (w' : World) : Prop :=
  ∃ q' g c', StkAt w' p (some q') (some ⟨g, 0, none⟩) ns c' ∧ (A = some ⟨g, 0, none⟩ ∨ w.heap.size ≤ g) ∧ (q = some q' ∨ (q = none ∧ w.heap.size ≤ q'))
def SqrBack (p : Nat) (q : Option Nat) (A : Option Addr) (ns bz n v : Nat) (w w' : World) : Prop :=
  (∃ zs : List Nat, zs.length = 2 * n ∧ (∀ d ∈ zs, d < M) ∧ Pl.val M zs = v ∧ WAt w' bz 0 zs) ∧ StkBk w p q A ns w' ∧ Chg w w' (fun b off => b = bz ∨ StkCh p q A ns b off)
structure SqInv (xs : List Nat) (n i : Nat) (zs ts : List Nat) : Prop where
  zl : zs.length = 2 * i
  tl : ts.length = 2 * n
  zlt : ∀ d ∈ zs, d < M
  tlt : ∀ d ∈ ts, d < M
  t0 : ts.getD 0 0 = 0
  tz : ∀ d ∈ ts.drop (2 * i - 1), d = 0
  sum : Pl.val M zs + 2 * Pl.val M ts = Pl.val M (xs.take i) * Pl.val M (xs.take i)
theorem SqInv.start {xs : List Nat} {n x : Nat} (hn : 0 < n) (hx : xs.length = n) (h0 : xs[0]'(by omega) = x) (hxM : x < M) : SqInv xs n 1 [x * x % M, x * x / M] (List.replicate (2 * n) 0) := by
  have hq : x * x / M < M := by rw [Nat.div_lt_iff_lt_mul M_pos]; exact Nat.mul_lt_mul'' hxM hxM
  refine ⟨rfl, List.length_replicate, ?_, ?_, ?_, ?_, ?_⟩
  · intro d hd
    rcases List.mem_cons.1 hd with rfl | hd
    · exact Nat.mod_lt _ M_pos
    · rw [List.mem_singleton] at hd; rw [hd]; exact hq
  · intro d hd; rw [(List.mem_replicate.1 hd).2]; exact M_pos
  · simp [List.getD_eq_getElem?_getD, hn]
  · intro d hd; exact (List.mem_replicate.1 (List.mem_of_mem_drop hd)).2
  · rw [Pl.val_zeros M _ (fun d hd => (List.mem_replicate.1 hd).2)]
    have e : xs.take 1 = [x] := by
      rw [List.take_succ_eq_append_getElem (by omega), h0]; simp
    rw [e]
    simp only [Pl.val, Nat.mul_zero, Nat.add_zero]
    have := Nat.div_add_mod (x * x) M
    omega
theorem SqInv.step {xs : List Nat} {n i d : Nat} {zs ts : List Nat} (h : SqInv xs n i zs ts) (hi0 : 0 < i) (hi : i < n) (hx : xs.length = n) (hd : xs[i]'(by omega) = d) (hxl : ∀ d ∈ xs, d < M) :
    SqInv xs n (i + 1) (zs ++ [d * d % M, d * d / M]) (ts.take i ++ (Pl.addMulV M ((ts.drop i).take i) (xs.take i) d 0).1 ++ [(Pl.addMulV M ((ts.drop i).take i) (xs.take i) d 0).2] ++ ts.drop (2 * i + 1)) := by
  have hdM : d < M := by rw [← hd]; exact hxl _ (List.getElem_mem _)
  have hq : d * d / M < M := by rw [Nat.div_lt_iff_lt_mul M_pos]; exact Nat.mul_lt_mul'' hdM hdM
  have hxi : (xs.take i).length = i := by rw [List.length_take]; omega
  have hsl : ((ts.drop i).take i).length = i := by rw [List.length_take, List.length_drop, h.tl]; omega
  have hslt : ∀ d ∈ (ts.drop i).take i, d < M := fun d hd => h.tlt d (List.mem_of_mem_drop (List.mem_of_mem_take hd))
  have hxlt : ∀ d ∈ xs.take i, d < M := fun d hd => hxl d (List.mem_of_mem_take hd)
  have htz : ∀ e ∈ ts.drop (i + i), e = 0 := fun e he => h.tz e (by
    rw [show i + i = (2 * i - 1) + 1 from by omega, ← List.drop_drop] at he
    exact List.mem_of_mem_drop he)
  have hrv := Pl.row_val (b := M) (lx := i) (i := i) (d := d) (zs := ts) (xs := xs.take i) hxi (by rw [h.tl]; omega) htz
  rw [show i + i + 1 = 2 * i + 1 from by omega] at hrv
  have hRl := Pl.addMulV_len M ((ts.drop i).take i) (xs.take i) d 0 (by rw [hsl, hxi])
  have hRlt := Pl.addMulV_lt M M_pos ((ts.drop i).take i) (xs.take i) d 0
  have hRc := Pl.addMulV_c M ((ts.drop i).take i) (xs.take i) d 0 hslt hxlt hdM M_pos
  rw [hsl] at hRl
  have hlen : (ts.take i ++ (Pl.addMulV M ((ts.drop i).take i) (xs.take i) d 0).1 ++ [(Pl.addMulV M ((ts.drop i).take i) (xs.take i) d 0).2]).length = 2 * i + 1 := by
    rw [List.length_append, List.length_append, List.length_take, hRl, h.tl]; simp; omega
  refine ⟨?_, ?_, ?_, ?_, ?_, ?_, ?_⟩
  · rw [List.length_append, h.zl]; simp; omega
  · rw [List.length_append, hlen, List.length_drop, h.tl]; omega
  · intro e he
    rcases List.mem_append.1 he with he | he
    · exact h.zlt e he
    · rcases List.mem_cons.1 he with rfl | he
      · exact Nat.mod_lt _ M_pos
      · rw [List.mem_singleton] at he; rw [he]; exact hq
  · intro e he
    rcases List.mem_append.1 he with he | he
    · rcases List.mem_append.1 he with he | he
      · rcases List.mem_append.1 he with he | he
        · exact h.tlt e (List.mem_of_mem_take he)
        · exact hRlt e he
      · rw [List.mem_singleton] at he; rw [he]; exact hRc
    · exact h.tlt e (List.mem_of_mem_drop he)
  · have h1 : 0 < (ts.take i).length := by rw [List.length_take, h.tl]; omega
    have h0 := h.t0
    rw [List.getD_eq_getElem?_getD] at h0 ⊢
    rw [List.append_assoc, List.append_assoc, List.getElem?_append_left h1, List.getElem?_take, if_pos hi0]
    exact h0
  · intro e he
    rw [show 2 * (i + 1) - 1 = 2 * i + 1 from by omega, List.drop_left' hlen] at he
    refine htz e ?_
    rw [show i + i = 2 * i from by omega]
    rw [← List.drop_drop] at he
    exact List.mem_of_mem_drop he
  · rw [hrv, Pl.val_append, h.zl, take_snoc_val (by omega) hd, ← Pl.sq_step h.sum]
    congr 1
    congr 1
    simp only [Pl.val, Nat.mul_zero, Nat.add_zero]
    congr 1
    have := Nat.div_add_mod (d * d) M
    omega
theorem SqInv.last {xs : List Nat} {n : Nat} {zs ts : List Nat} (h : SqInv xs n n zs ts) (hn : 2 ≤ n) (hx : xs.length = n) (hxl : ∀ d ∈ xs, d < M) :
    let m := (ts.drop 1).take (2 * n - 2)
    let ts' := [0] ++ Pl.shlV (2 ^ 1) (2 ^ (64 - 1)) m 0 ++ [Pl.shlO (2 ^ (64 - 1)) m 0]
    m.length = 2 * n - 2 ∧ ts'.length = 2 * n ∧ (∀ d ∈ ts', d < M) ∧ ts = [0] ++ m ++ [0] ∧ Pl.val M (Pl.addV M zs ts' 0).1 = Pl.val M xs * Pl.val M xs := by
  intro m ts'
  have hm : m.length = 2 * n - 2 := by simp only [m]; rw [List.length_take, List.length_drop, h.tl]; omega
  have hmlt : ∀ d ∈ m, d < M := fun d hd => h.tlt d (List.mem_of_mem_drop (List.mem_of_mem_take hd))
  have hts : ts = [0] ++ m ++ [0] := by
    have h1 : ts = ts.take 1 ++ ts.drop 1 := (List.take_append_drop 1 ts).symm
    have h2 : ts.drop 1 = m ++ (ts.drop 1).drop (2 * n - 2) := (List.take_append_drop _ _).symm
    have h3 : ts.take 1 = [0] := by
      rw [List.take_succ_eq_append_getElem (by rw [h.tl]; omega)]
      have := h.t0
      rw [List.getD_eq_getElem?_getD, List.getElem?_eq_getElem (by rw [h.tl]; omega)] at this
      simp only [Option.getD_some] at this
      rw [this]; rfl
    have h4 : (ts.drop 1).drop (2 * n - 2) = [0] := by
      rw [List.drop_drop, show 1 + (2 * n - 2) = 2 * n - 1 from by omega, List.drop_eq_getElem_cons (by rw [h.tl]; omega), List.drop_of_length_le (by rw [h.tl]; omega)]
      have hlt : 2 * n - 1 < ts.length := by rw [h.tl]; omega
      have h5 := h.tz (ts[2 * n - 1]'hlt) (by rw [List.drop_eq_getElem_cons hlt]; exact List.mem_cons_self)
      rw [h5]
    rw [h3] at h1
    rw [h4] at h2
    rw [List.append_assoc, ← h2]; exact h1
  have hMS : (2 ^ 1 * 2 ^ (64 - 1) : Nat) = M := two_st (s := 1) (t := 63) rfl
  have hv := Pl.shlV_val (2 ^ 1) (2 ^ (64 - 1)) m 0
  have hl := Pl.shlV_len (2 ^ 1) (2 ^ (64 - 1)) m 0
  have hlt := Pl.shlV_lt (S := 2 ^ 1) (T := 2 ^ (64 - 1)) m 0 (by decide) (Nat.pow_pos (by omega)) (by rw [hMS]; exact hmlt)
  rw [hMS] at hv hlt
  rw [hm] at hv hl
  have ho : Pl.shlO (2 ^ (64 - 1)) m 0 < M := by
    rw [Pl.shlO_last _ _ _ (by omega)]
    exact Nat.lt_of_le_of_lt (Nat.div_le_self _ _) (hmlt _ (List.getElem_mem _))
  have htl : ts'.length = 2 * n := by simp only [ts']; rw [List.length_append, List.length_append, hl]; simp; omega
  have htlt : ∀ d ∈ ts', d < M := by
    intro d hd
    rcases List.mem_append.1 hd with hd | hd
    · rcases List.mem_append.1 hd with hd | hd
      · rw [List.mem_singleton] at hd; rw [hd]; exact M_pos
      · exact hlt d hd
    · rw [List.mem_singleton] at hd; rw [hd]; exact ho
  have hsum := h.sum
  rw [List.take_of_length_le (by omega)] at hsum
  have hval : Pl.val M ts' = 2 * Pl.val M ts := by
    rw [hts]
    simp only [ts']
    rw [List.append_assoc, List.append_assoc, Pl.val_append, Pl.val_append, Pl.val_append, Pl.val_append, hl, hm]
    simp only [Pl.val, List.length_singleton, Nat.pow_one, Nat.mul_zero, Nat.add_zero, Nat.zero_add]
    rw [hv, Nat.pow_one, Nat.add_zero, Nat.mul_comm (Pl.val M m) 2, ← Nat.mul_assoc, ← Nat.mul_assoc, Nat.mul_comm M 2]
  refine ⟨hm, htl, htlt, hts, ?_⟩
  have hz : zs.length = ts'.length := by rw [h.zl, htl]
  have ha := Pl.addV_val M zs ts' 0 hz
  have hX := Pl.val_lt M xs hxl
  rw [hx] at hX
  have hXX : Pl.val M xs * Pl.val M xs < M ^ (2 * n) := by
    rw [show 2 * n = n + n from by omega, Nat.pow_add]
    exact Nat.mul_lt_mul'' hX hX
  rw [h.zl, hval, Nat.add_zero, hsum] at ha
  rcases Nat.eq_zero_or_pos (Pl.addV M zs ts' 0).2 with h0 | h0
  · rw [h0] at ha; simpa using ha
  · have := Nat.mul_le_mul_left (M ^ (2 * n)) h0
    omega
theorem no_panicQ {P : Program} {c : Code} {Q : Exit → Act → World → Prop} {a : Act} {w : World} (h : c.wp P (Exit.then (fun a w => Q .normal a w) (fun _ _ _ => False)) a w) : c.wp P Q a w :=
  wp_mono h (fun e a w h => by
    cases e with
    | normal => exact h
    | _ => exact h.elim)
theorem two_put {w : World} {b o i N : Nat} {zs : List Nat} (hA : Arr w b N) (hfit : o + (zs.length + 2) ≤ N) (hZ : WAt w b o zs) (hi : zs.length = i) (lo hi' : Nat) :
    WAt ((w.setCell ⟨b, o + (i + 1), none⟩ (.int .u64 (hi' : Int))).setCell ⟨b, o + i, none⟩ (.int .u64 (lo : Int))) b o (zs ++ [lo, hi']) ∧
      Chg w ((w.setCell ⟨b, o + (i + 1), none⟩ (.int .u64 (hi' : Int))).setCell ⟨b, o + i, none⟩ (.int .u64 (lo : Int))) (fun b' _ => b' = b) := by
  subst hi
  have h1 := chg_set w b (o + (zs.length + 1)) (.int .u64 (hi' : Int))
  have hA1 := h1.arr _ _ hA
  have h2 := chg_set (w.setCell ⟨b, o + (zs.length + 1), none⟩ (.int .u64 (hi' : Int))) b (o + zs.length) (.int .u64 (lo : Int))
  refine ⟨WAt.app (h2.at (h1.at hZ (fun j hj h => by have := h.2; omega)) (fun j hj h => by have := h.2; omega)) ?_, h1.trans h2 (fun _ _ h => h.1) (fun _ _ _ h => h.1)⟩
  intro j hj
  have hj2 : j = 0 ∨ j = 1 := by simp at hj; omega
  rcases hj2 with rfl | rfl
  · exact hA1.put (i := o + zs.length) (by omega) _
  · exact h2.cell _ _ _ (fun h => by have := h.2; omega) (by
      have := hA.put (i := o + (zs.length + 1)) (by omega) (.int .u64 (hi' : Int))
      rw [← Nat.add_assoc] at this
      exact this)
set_option maxRecDepth 100000 in
set_option maxHeartbeats 4000000 in
theorem basicSqr_any (p : Nat) (q : Option Nat) (A : Option Addr) (ns c bz N cz bx cx n : Nat) (xs : List Nat) (w : World) (hS : StkAt w p q A ns c) (hV : w.cell? ⟨13, 0, none⟩ = some (.int .i64 12)) (hA : Arr w bz N) (hfit : 2 * n ≤ N) (hx : xs.length = n) (hn : 12 ≤ n) (hn2 : n ≤ 100) (hcx : n ≤ cx) (hns : ns ≤ 100000)
    (hX : WAt w bx 0 xs) (hXA : ∃ Nx, Arr w bx Nx) (hxl : ∀ d ∈ xs, d < M) (hne : bx ≠ bz) (hAz : A ≠ some ⟨bz, 0, none⟩) (hAx : A ≠ some ⟨bx, 0, none⟩) :
    Calls Tryz.prog 213 #[.pointer (some ⟨p, 0, none⟩), .slice (some ⟨bz, 0, none⟩) (2 * n) cz, .slice (some ⟨bx, 0, none⟩) n cx] w fun e w' => e = .returned (.tuple #[]) ∧ SqrBack p q A ns bz n (Pl.val M xs * Pl.val M xs) w w' := by
  have HSV := Lib.hid (save_any p q A ns c w hS)
  have HNT := Lib.hid (stkNat_any p q A ns c (2 * n) w hS (by omega) (by omega) hns)
  have HS := Lib.hid hS
  have HX := Lib.hid hX
  have HA := Lib.hid hA
  have HLX := Lib.hid hx
  have HNE := Lib.hid (And.intro hne (And.intro hAz hAx))
  obtain ⟨Nx, hXA⟩ := hXA
  have HXA := Lib.hid hXA
  obtain ⟨m, hm⟩ : ∃ m, 2 * n = m := ⟨_, rfl⟩
  have i0 : IntKind.i64.wrap (2 * (n : Int)) = (m : Int) := by rw [IntWalk.i64_in _ (by omega)]; omega
  rw [hm] at HNT hfit ⊢
  have HM := Lib.hid hm
  have v1 : ¬ (n : Int) < 12 := by omega
  clear hS hX hA hx hne hAz hAx hXA hm
  go_enter_defers Tryz.func213, Tryz.ntmps213
  go_wp2_with fail
  refine HSV.out.mono ?_; rintro e w1 ⟨rfl, rfl⟩
  go_wp2_with fail
  refine HNT.out.mono ?_; rintro e w2 ⟨g, c', q', rfl, hAg, hgk, hS2, hgA, hqq, hch⟩
  obtain ⟨w3, hrun, ht3, hw3⟩ := run_clearW g ns c' m m 126 0 Tryz.underlying126 w2 hAg hgk
  have H3 := Lib.hid (And.intro ht3 (And.intro hw3 (And.intro hAg (And.intro hgk (And.intro hS2 (And.intro hgA (And.intro hqq hch)))))))
  clear ht3 hw3 hAg hgk hS2 hgA hqq hch
  have b5 : 0 < m := by have := HM.out; omega
  have b4 : 1 < m := by have := HM.out; omega
  have hb200 : m ≤ 200 := by have := HM.out; omega
  have hx0 : 0 < xs.length := by rw [HLX.out]; omega
  obtain ⟨x0, hx0e⟩ : ∃ x, xs[0] = x := ⟨_, rfl⟩
  have hx0M : x0 < M := by rw [← hx0e]; exact hxl _ (List.getElem_mem _)
  have dzg : bz ≠ g := by
    rcases H3.out.2.2.2.2.2.1 with h | h
    · rintro rfl; exact HNE.out.2.1 h
    · have := HA.out.lt; omega
  have dxg : bx ≠ g := by
    rcases H3.out.2.2.2.2.2.1 with h | h
    · rintro rfl; exact HNE.out.2.2 h
    · have := HXA.out.lt; omega
  have hc23 : Chg w2 w3 (fun b off => b = g ∧ ns ≤ off ∧ off < ns + m) := Chg.of_wr H3.out.2.1 (by omega)
  have hA3 : Arr w3 bz N := hc23.arr _ _ (H3.out.2.2.2.2.2.2.2.arr _ _ HA.out)
  have hG3 : Arr w3 g c' := hc23.arr _ _ H3.out.2.2.1
  have hX3 : WAt w3 bx 0 xs := hc23.at (stk_keeps HS.out H3.out.2.2.2.2.2.2.2 HXA.out HX.out (fun h => absurd h HNE.out.2.2)) (fun _ _ h => dxg h.1)
  have hcx0 := hX3 0 hx0
  rw [hx0e] at hcx0
  simp only [Nat.zero_add] at hcx0
  obtain ⟨⟨z0, hz0⟩, hf0⟩ := hA3.has (i := 0) (by omega)
  obtain ⟨⟨z1, hz1⟩, hf1⟩ := hA3.has (i := 1) (by omega)
  have HMW := Lib.hid (fun W => mulWW_any x0 x0 hx0M hx0M W)
  have hst0 := SqInv.start (xs := xs) (n := n) (x := x0) (by omega) HLX.out hx0e hx0M
  obtain ⟨lo, hlo⟩ : ∃ l, x0 * x0 % M = l := ⟨_, rfl⟩
  obtain ⟨hh, hhh⟩ : ∃ l, x0 * x0 / M = l := ⟨_, rfl⟩
  rw [hlo, hhh] at HMW hst0
  have tp := two_put (zs := []) (o := 0) (i := 0) (lo := lo) (hi' := hh) hA3 (by simp; omega) (fun j hj => absurd hj (by simp)) rfl
  simp only [Nat.zero_add, List.nil_append] at tp
  have HTP := Lib.hid tp
  have HST := Lib.hid (And.intro hst0 (And.intro dzg dxg))
  have HW3 := Lib.hid (And.intro hA3 (And.intro hG3 (And.intro hX3 hc23)))
  have b1 : (1 : Int) < (m : Int) := by omega
  have b2 : (0 : Int) < (m : Int) := by omega
  have b3 : (0 : Int) < (n : Int) := by omega
  have b6 : 0 < n := by omega
  clear tp hst0 dzg dxg hA3 hG3 hX3 hc23 hlo hhh hx0e hx0M
  go_wp2_with fail
  go_cut [28] from 27 to 104 (fun _ wx => WAt wx bz 0 [lo, hh] ∧ Chg w3 wx (fun b' _ => b' = bz))
  case first =>
    refine no_panic ?_
    go_region_with (first
      | (go_at_call 211; refine (HMW.out _).mono ?_; rintro e w8 ⟨rfl, rfl⟩))
    all_goals
      go_wp2
      go_meet
      case rel => exact ⟨HTP.out.1.drewN 1, HTP.out.2.drewN 1⟩
  case rest =>
    obtain ⟨hz4, hc4⟩ := hcut
    obtain ⟨w4, hw4⟩ : ∃ w4, w4 = wc := ⟨_, rfl⟩
    subst hw4
    have ht3 : WAt w4 g ns (List.replicate m 0) := hc4.at H3.out.1 (fun _ _ h => HST.out.2.1 h.symm)
    have hC4 : Chg w3 w4 (fun b off => b = bz ∨ (b = g ∧ ns ≤ off ∧ off < ns + m)) := hc4.mono (fun _ _ _ h => Or.inl h)
    have H4 := Lib.hid (And.intro hz4 (And.intro ht3 hC4))
    clear hz4 ht3 hC4 hc4 hcx0 hz0 hz1 hf0 hf1
    go_wp2_with fail
    go_loopw [8, 9] (fun iv _ wr => ∃ (i : Nat) (zs ts : List Nat), 1 ≤ i ∧ i ≤ n ∧ iv = .int .i64 (i : Int) ∧ SqInv xs n i zs ts ∧ WAt wr bz 0 zs ∧ WAt wr g ns ts ∧ Chg w3 wr (fun b off => b = bz ∨ (b = g ∧ ns ≤ off ∧ off < ns + m))) (fun iv _ _ => n - (intOf iv).toNat)
    case atStart => exact ⟨1, _, _, Nat.le_refl _, by omega, rfl, by rw [← HM.out]; exact HST.out.1, H4.out.1, H4.out.2.1, H4.out.2.2⟩
    case round =>
      obtain ⟨i, zs, ts, hi0, hi, rfl, hI, hza, hta, hch⟩ := hrel
      by_cases hin : i < n
      · have hix : i < xs.length := by rw [HLX.out]; exact hin
        obtain ⟨d, hd⟩ : ∃ d, xs[i] = d := ⟨_, rfl⟩
        have hdM : d < M := by rw [← hd]; exact hxl _ (List.getElem_mem _)
        have hX4 : WAt wr bx 0 xs := hch.at HW3.out.2.2.1 (fun t ht h => by
          rcases h with h | h
          · exact HNE.out.1 h
          · exact HST.out.2.2 h.1)
        have hcd : wr.cell? ⟨bx, i, none⟩ = some (.int .u64 (d : Int)) := by
          have := hX4 i hix
          rw [hd, Nat.zero_add] at this
          exact this
        have hA4 := hch.arr _ _ HW3.out.1
        have hG4 := hch.arr _ _ HW3.out.2.1
        have HMW2 := Lib.hid (mulWW_any d d hdM hdM wr)
        have hstep := hI.step hi0 hin HLX.out hd hxl
        have hR2 := Pl.addMulV_len M ((ts.drop i).take i) (xs.take i) d 0 (by rw [List.length_take, List.length_take, List.length_drop, hI.tl, HLX.out]; omega)
        have hsl : ((ts.drop i).take i).length = i := by rw [List.length_take, List.length_drop, hI.tl]; omega
        rw [hsl] at hR2
        have tp := two_put (zs := zs) (o := 0) (i := 2 * i) (lo := d * d % M) (hi' := d * d / M) hA4 (by rw [hI.zl]; have := HM.out; omega) hza hI.zl
        simp only [Nat.zero_add] at tp
        have hADD : ∀ W, Chg wr W (fun b _ => b = bz) → Calls Tryz.prog 230 #[.slice (some ⟨g, ns + i, none⟩) i (m - i), .slice (some ⟨g, ns + i, none⟩) i (m - i), .slice (some ⟨bx, 0, none⟩) i cx, .int .u64 (d : Int), .int .u64 0] W fun e w' =>
            e = .returned (.int .u64 (((Pl.addMulV M ((ts.drop i).take i) (xs.take i) d 0).2 : Nat) : Int)) ∧ WAt w' g (ns + i) (Pl.addMulV M ((ts.drop i).take i) (xs.take i) d 0).1 ∧ Wr W w' g (ns + i) i := by
          intro W hb
          have h := addMul_at g (ns + i) (m - i) g (ns + i) (m - i) bx 0 cx c' ((ts.drop i).take i) (xs.take i) d 0 W (by rw [hsl]; omega) (by rw [hsl, List.length_take, HLX.out]; omega) (hb.arr _ _ hG4) (by rw [hsl]; have := H3.out.2.2.2.1; have := HM.out; omega) hdM M_pos
            (fun e he => hI.tlt e (List.mem_of_mem_drop (List.mem_of_mem_take he))) (fun e he => hxl e (List.mem_of_mem_take he)) (hb.at ((hta.drop i (by rw [hI.tl]; omega)).take i) (fun _ _ h => HST.out.2.1 h.symm)) (Or.inr (Or.inl (Nat.le_refl _)))
            (hb.at (hX4.take i) (fun _ _ h => HNE.out.1 h)) (Or.inl HST.out.2.2)
          rw [hsl] at h
          exact h
        obtain ⟨R, hR⟩ : ∃ R, (Pl.addMulV M ((ts.drop i).take i) (xs.take i) d 0).1 = R := ⟨_, rfl⟩
        obtain ⟨rc, hrc⟩ : ∃ R, (Pl.addMulV M ((ts.drop i).take i) (xs.take i) d 0).2 = R := ⟨_, rfl⟩
        rw [hR, hrc] at hADD hstep
        rw [hR] at hR2
        obtain ⟨lo, hlo⟩ : ∃ l, d * d % M = l := ⟨_, rfl⟩
        obtain ⟨hh, hhh⟩ : ∃ l, d * d / M = l := ⟨_, rfl⟩
        rw [hlo, hhh] at HMW2 hstep tp
        obtain ⟨e2, he2⟩ : ∃ e, 2 * i = e := ⟨_, rfl⟩
        rw [he2] at tp hstep
        have hfin : ∀ W w8, WAt W bz 0 (zs ++ [lo, hh]) → Chg wr W (fun b _ => b = bz) → WAt w8 g (ns + i) R → Wr W w8 g (ns + i) i →
            WAt (w8.setCell ⟨g, ns + e2, none⟩ (.int .u64 (rc : Int))) bz 0 (zs ++ [lo, hh]) ∧ WAt (w8.setCell ⟨g, ns + e2, none⟩ (.int .u64 (rc : Int))) g ns (ts.take i ++ R ++ [rc] ++ ts.drop (e2 + 1)) ∧
              Chg w3 (w8.setCell ⟨g, ns + e2, none⟩ (.int .u64 (rc : Int))) (fun b off => b = bz ∨ (b = g ∧ ns ≤ off ∧ off < ns + m)) := by
          intro W w8 h1 h2 h3 h4
          have hm2 := HM.out
          have hgb := HST.out.2.1
          have hs := chg_set w8 g (ns + e2) (.int .u64 (rc : Int))
          have h5 := Chg.of_wr h4 (by omega)
          have htl := hI.tl
          have h8 : WAt w8 g ns (ts.take i ++ R ++ ts.drop e2) := by
            have htW : WAt W g ns ts := h2.at hta (fun _ _ h => hgb h.symm)
            have hpl : (ts.take i ++ R).length = e2 := by rw [List.length_append, List.length_take, hR2]; omega
            refine WAt.join (WAt.join (h4.at (htW.take i) (Or.inr (Or.inl ?_))) ?_ h3) hpl (h4.at (htW.drop e2 (by omega)) (Or.inr (Or.inr ?_)))
            · rw [List.length_take]; omega
            · rw [List.length_take]; omega
            · omega
          have hpl : (ts.take i ++ R).length = e2 := by rw [List.length_append, List.length_take, hR2]; omega
          rw [List.drop_eq_getElem_cons (show e2 < ts.length by omega)] at h8
          have h9 := WAt.put_mid (v := rc) h8 (h4.arr' ((h2.arr _ _ hG4))) (by rw [hpl]; have := H3.out.2.2.2.1; omega)
          rw [hpl] at h9
          refine ⟨hs.at (h5.at h1 (fun _ _ h => hgb h.1)) (fun _ _ h => hgb h.1), by rw [List.append_assoc]; exact h9, ?_⟩
          refine ((hch.trans h2 (fun _ _ h => h) (fun _ _ _ h => Or.inl h)).trans h5 (fun _ _ h => h) (fun b off _ h => Or.inr ⟨h.1, by omega, by omega⟩)).trans hs (fun _ _ h => h) (fun b off _ h => Or.inr ⟨h.1, by omega, by omega⟩)
        have HFIN := Lib.hid hfin
        have HTP2 := Lib.hid tp
        have HADD := Lib.hid hADD
        have HSTEP := Lib.hid hstep
        have HI := Lib.hid hI
        have HTA := Lib.hid hta
        have HG4 := Lib.hid hG4
        have HC4 := Lib.hid hch
        have HR2 := Lib.hid hR2
        have i1 : IntKind.i64.wrap (2 * (i : Int)) = (e2 : Int) := by rw [IntWalk.i64_in _ (by omega)]; omega
        have i2 : IntKind.i64.wrap ((e2 : Int) + 1) = ((e2 + 1 : Nat) : Int) := by rw [IntWalk.i64_in _ (by omega)]; omega
        have d1 : e2 + 1 < m := by have := HM.out; omega
        have d2 : e2 < m := by omega
        have d3 : ((e2 + 1 : Nat) : Int) < (m : Int) := by omega
        have d4 : (e2 : Int) < (m : Int) := by omega
        have d5 : (0 : Int) ≤ (e2 : Int) := by omega
        have d6 : (i : Int) ≤ (e2 : Int) := by omega
        have d7 : i ≤ e2 := by omega
        have d8 : (e2 : Int) ≤ (m : Int) := by omega
        have d9 : (i : Int) ≤ (cx : Int) := by omega
        have d10 : e2 - i = i := by omega
        have d11 : (0 : Int) ≤ (i : Int) := by omega
        have d12 : (e2 : Int) + 1 < (m : Int) := by omega
        have d13 : ¬ m = i := by omega
        have d14 : e2 ≤ m := by omega
        have d15 : i ≤ cx := by omega
        obtain ⟨⟨z0, hz0⟩, hf0⟩ := hA4.has (i := e2) (by omega)
        obtain ⟨⟨z1, hz1⟩, hf1⟩ := hA4.has (i := e2 + 1) (by omega)
        have HE2 := Lib.hid he2
        clear hfin tp hADD hstep hR hrc hlo hhh hd hI hta hza hch hX4 hA4 hG4 hR2 hsl he2
        go_wp2_with fail
        refine HMW2.out.mono ?_; rintro e w5 ⟨rfl, rfl⟩
        go_wp2_with fail
        refine no_panicQ ?_
        go_region_with (first
          | (go_at_call 230; refine (HADD.out _ (by first | exact HTP2.out.2 | exact HTP2.out.2.drewN 1)).mono ?_; rintro e9 w8 ⟨rfl, hr8, hw8⟩; obtain ⟨⟨u8, hu8⟩, hf8⟩ := (hw8.arr' (HTP2.out.2.arr _ _ HG4.out)).has (i := ns + e2) (by have := H3.out.2.2.2.1; omega)))
        have H9 := Lib.hid (HFIN.out _ _ (HTP2.out.1.drewN 1) (HTP2.out.2.drewN 1) hr8 hw8)
        clear hr8 hw8 hu8 hf8 hz0 hz1 hf0 hf1 hcd
        go_wp2
        go_roundw
        case rel => exact ⟨i + 1, _, _, by omega, by omega, by go_num, HSTEP.out, H9.out.1, H9.out.2.1, H9.out.2.2⟩
        case measure => simp [intOf]; omega
      · obtain rfl : i = n := by omega
        have hA4 := hch.arr _ _ HW3.out.1
        have hG4 := hch.arr _ _ HW3.out.2.1
        obtain ⟨hl1, hl2, hl3, hl4, hl5⟩ := hI.last (by omega) HLX.out hxl
        obtain ⟨mid, hmid⟩ : ∃ l, (ts.drop 1).take (2 * i - 2) = l := ⟨_, rfl⟩
        rw [hmid] at hl1 hl2 hl3 hl4 hl5
        have htm : WAt wr g (ns + 1) mid := by
          rw [hl4] at hta
          have := (hta.left).right
          simpa using this
        have hmm := HM.out
        have hLSH : ∀ W, Below wr.heap.size wr W → Calls Tryz.prog 234 #[.slice (some ⟨g, ns + 1, none⟩) (m - 2) (m - 1), .slice (some ⟨g, ns + 1, none⟩) (m - 2) (m - 1), .int .u64 1] W fun e w' =>
            e = .returned (.int .u64 ((Pl.shlO (2 ^ (64 - 1)) mid 0 : Nat) : Int)) ∧ WAt w' g (ns + 1) (Pl.shlV (2 ^ 1) (2 ^ (64 - 1)) mid 0) ∧ Wr wr w' g (ns + 1) (m - 2) := by
          intro W hb
          have h := lsh_at g (ns + 1) (m - 1) g (ns + 1) (m - 1) c' 1 mid W (by omega) (by omega) (by omega) (by omega) (hG4.below hb) (by have := H3.out.2.2.2.1; omega) (fun d hd => hI.tlt d (by rw [← hmid] at hd; exact List.mem_of_mem_drop (List.mem_of_mem_take hd))) (htm.below hb) (Or.inr (Or.inl (Nat.le_refl _)))
          rw [hl1, hmm] at h
          refine h.mono ?_
          rintro e w' ⟨h1, h2, h3⟩
          exact ⟨h1, h2, (Wr.of_below hb g (ns + 1) (m - 2)).trans h3 (by omega) (by omega) (by omega) (by omega)⟩
        have hSL := Pl.shlV_len (2 ^ 1) (2 ^ (64 - 1)) mid 0
        rw [hl1, hmm] at hSL
        obtain ⟨sh, hsh⟩ : ∃ l, Pl.shlV (2 ^ 1) (2 ^ (64 - 1)) mid 0 = l := ⟨_, rfl⟩
        obtain ⟨so, hso⟩ : ∃ l, Pl.shlO (2 ^ (64 - 1)) mid 0 = l := ⟨_, rfl⟩
        rw [hsh, hso] at hLSH hl2 hl3 hl5
        rw [hsh] at hSL
        obtain ⟨e3, he3⟩ : ∃ e, m - 1 = e := ⟨_, rfl⟩
        have hfin : ∀ w8, WAt w8 g (ns + 1) sh → Wr wr w8 g (ns + 1) (m - 2) → WAt (w8.setCell ⟨g, ns + e3, none⟩ (.int .u64 (so : Int))) g ns ([0] ++ sh ++ [so]) ∧ WAt (w8.setCell ⟨g, ns + e3, none⟩ (.int .u64 (so : Int))) bz 0 zs ∧
            Chg w3 (w8.setCell ⟨g, ns + e3, none⟩ (.int .u64 (so : Int))) (fun b off => b = bz ∨ (b = g ∧ ns ≤ off ∧ off < ns + m)) := by
          intro w8 h3 h4
          have hgb := HST.out.2.1
          have hs := chg_set w8 g (ns + e3) (.int .u64 (so : Int))
          have h5 := Chg.of_wr h4 (by omega)
          have h8 : WAt w8 g ns ([0] ++ sh ++ [0]) := by
            rw [hl4] at hta
            have k1 : WAt wr g ns [0] := hta.left.left
            have k2 : WAt wr g (ns + e3) [0] := by
              have := hta.right
              rw [List.length_append, hl1] at this
              rw [show ns + e3 = ns + ([0].length + (2 * i - 2)) from by simp; omega]
              exact this
            refine WAt.join (WAt.join (h4.at k1 (Or.inr (Or.inl (by simp)))) rfl h3) (n := e3) (by rw [List.length_append, hSL]; simp; omega) (h4.at k2 (Or.inr (Or.inr (by omega))))
          have hpl : ([0] ++ sh).length = e3 := by rw [List.length_append, hSL]; simp; omega
          have h9 := WAt.put_mid (v := so) (pre := [0] ++ sh) (rest := []) h8 (h4.arr' hG4) (by rw [hpl]; have := H3.out.2.2.2.1; omega)
          rw [hpl] at h9
          exact ⟨h9, hs.at (h5.at hza (fun _ _ h => hgb h.1)) (fun _ _ h => hgb h.1), (hch.trans h5 (fun _ _ h => h) (fun b off _ h => Or.inr ⟨h.1, by omega, by omega⟩)).trans hs (fun _ _ h => h) (fun b off _ h => Or.inr ⟨h.1, by omega, by omega⟩)⟩
        have HFIN := Lib.hid hfin
        have HLSH := Lib.hid hLSH
        have HL := Lib.hid (And.intro hl2 (And.intro hl3 hl5))
        have HI := Lib.hid hI
        have HG4 := Lib.hid hG4
        have i1 : IntKind.i64.wrap ((m : Int) - 1) = (e3 : Int) := by rw [IntWalk.i64_in _ (by omega)]; omega
        have d1 : e3 < m := by omega
        have d2 : (e3 : Int) < (m : Int) := by omega
        have d3 : (1 : Int) ≤ (e3 : Int) := by omega
        have d4 : 1 ≤ e3 := by omega
        have d5 : (e3 : Int) ≤ (m : Int) := by omega
        have d6 : e3 ≤ m := by omega
        have d7 : e3 - 1 = m - 2 := by omega
        have d8 : (0 : Int) ≤ (e3 : Int) := by omega
        have d9 : ¬ m = 1 := by omega
        have HE3 := Lib.hid he3
        clear hfin hLSH hl1 hl2 hl3 hl4 hl5 hmid htm hSL hsh hso hI hta hza hch hA4 hG4 hmm he3
        go_wp2_with fail
        refine no_panic ?_
        go_region_with (first
          | (go_at_call 234; refine (HLSH.out _ (by first | exact Below.refl _ _ | exact (Below.refl _ _).drew | exact below_drewN (Below.refl _ _) _)).mono ?_; rintro e9 w8 ⟨rfl, hr8, hw8⟩; obtain ⟨⟨u8, hu8⟩, hf8⟩ := (hw8.arr' HG4.out).has (i := ns + e3) (by have := H3.out.2.2.2.1; omega)))
        have H9 := Lib.hid (HFIN.out _ hr8 hw8)
        clear hr8 hw8 hu8 hf8
        have hADV := addVV_at bz 0 cz bz 0 cz g ns m N zs ([0] ++ sh ++ [so]) _ (by rw [HI.out.zl]; omega) (by rw [HL.out.1, HI.out.zl]) (H9.out.2.2.arr _ _ HW3.out.1) (by rw [HI.out.zl]; have := HM.out; omega) HI.out.zlt HL.out.2.1 H9.out.2.1 (Or.inr (Or.inl (Nat.le_refl _))) H9.out.1 (Or.inl (fun h => HST.out.2.1 h.symm))
        rw [HI.out.zl, HM.out] at hADV
        have HADV := Lib.hid hADV
        clear hADV
        go_wp2_with fail
        refine HADV.out.mono ?_; rintro e9 w9 ⟨rfl, hr9, hw9⟩
        have hfin : ∃ Ne, CallsD Tryz.prog 231 #[.pointer (some ⟨p, 0, none⟩), .int .i64 (ns : Int)] .returning w9 Ne ∧ ∀ e u' w', Ne e u' w' → u' = FrameMode.returning ∧ e = .returned (.tuple #[]) ∧ SqrBack p q A ns bz i (Pl.val M xs * Pl.val M xs) w w' := by
          obtain ⟨t3, hw3', hAg, hgk, hS2, hgA, hqq, hch⟩ := H3.out
          have hm := HM.out
          have hc39 : Chg w3 w9 (fun b off => b = bz ∨ (b = g ∧ ns ≤ off ∧ off < ns + m)) := H9.out.2.2.trans (Chg.of_wr hw9 (by omega)) (fun _ _ h => h) (fun _ _ _ h => Or.inl h.1)
          have hc29 : Chg w2 w9 (fun b off => b = bz ∨ (b = g ∧ ns ≤ off ∧ off < ns + m)) := HW3.out.2.2.2.trans hc39 (fun _ _ h => Or.inr h) (fun _ _ _ h => h)
          have hA2 : Arr w2 bz N := hch.arr _ _ HA.out
          have hS9 := hS2.chg hc29 (fun b off h => by
            rcases h with h | h
            · exact ⟨_, h ▸ hA2⟩
            · exact ⟨_, h.1 ▸ hAg⟩)
          refine ⟨_, restoreD_any p (some q') (some ⟨g, 0, none⟩) _ c' ns .returning w9 hS9 (by omega), ?_⟩
          rintro e u' w' ⟨rfl, rfl, hS4, hch4⟩
          have hA9 := hc29.arr _ _ hA2
          refine ⟨rfl, rfl, ⟨_, (by rw [Pl.addV_len M zs _ 0 (by rw [HI.out.zl, HL.out.1]), HI.out.zl]), Pl.addV_lt M M_pos zs _ 0, HL.out.2.2, hch4.at hr9 (fun _ _ h => hS9.2.inner.not_arr (by decide) hA9 (Option.some.inj h.1).symm)⟩, ⟨q', g, c', hS4, hgA, hqq⟩, ?_⟩
          have hc1 : Chg w w2 (fun b off => b = bz ∨ StkCh p q A ns b off) := hch.mono (fun b off _ h => by
            rcases h with h | h | h
            · exact Or.inr (Or.inl h)
            · exact Or.inr (Or.inr (Or.inl h))
            · exact Or.inr (Or.inr (Or.inr ⟨h.1, by omega⟩)))
          refine (hc1.trans hc29 (fun _ _ h => h) (fun b off hl h => ?_)).trans hch4 (fun _ _ h => h) (fun b off hl h => ?_)
          · rcases h with h | h
            · exact Or.inl h
            · rcases hgA with h2 | h2
              · exact Or.inr (Or.inr (Or.inr ⟨by rw [h.1]; exact h2, h.2.1⟩))
              · have := h.1; omega
          · rcases hqq with h2 | ⟨_, h2⟩
            · exact Or.inr (Or.inr (Or.inl (h2.trans h.1)))
            · have := Option.some.inj h.1; omega
        have HEND := Lib.hid hfin
        clear hfin hr9 hw9
        go_wp2
        obtain ⟨Ne, hN1, hN2⟩ := HEND.out
        refine leaves_cons (f := 231) (args := #[.pointer (some ⟨p, 0, none⟩), .int .i64 (ns : Int)]) (by simp) (by simp [go_sem]) ?_
        refine hN1.mono ?_
        intro e u' w' hN
        obtain ⟨rfl, rfl, hD⟩ := hN2 e u' w' hN
        exact ⟨_, results_none rfl _ _ _, rfl, hD⟩
end Go.Proofs.YtgfkdjmoflbmdaaGreatDoor
