/- Contracts. -/
import Derived.Test.YtgfkdjmoflbmdaaGreatDoorRRdxRfa
namespace Go.Proofs.YtgfkdjmoflbmdaaGreatDoor
open Go.RowKit
open Go.Proofs
theorem Wr.put {w : World} {b o n k : Nat} (hk : k < n) (u : Value) : Wr w (w.setCell ⟨b, o + k, none⟩ u) b o n := by
  refine ⟨grown_set _ _ _ _, fun N' h => h.set _ _, fun off v hd hv => ?_⟩
  rw [World.cell?_setCell_other]
  · exact hv
  · intro e
    injection e with e1 e2
    omega
theorem WAt.put_mid {w : World} {b o N v x : Nat} {pre rest : List Nat} (h : WAt w b o (pre ++ x :: rest)) (hA : Arr w b N) (hfit : o + pre.length < N) : WAt (w.setCell ⟨b, o + pre.length, none⟩ (.int .u64 (v : Int))) b o (pre ++ v :: rest) := by
  intro j hj
  by_cases e : j = pre.length
  · subst e
    rw [hA.put hfit]
    simp
  · rw [World.cell?_setCell_other]
    · have h1 := h j (by simpa using hj)
      rw [h1]
      congr 3
      rcases Nat.lt_or_ge j pre.length with h2 | h2
      · rw [List.getElem_append_left h2, List.getElem_append_left h2]
      · rw [List.getElem_append_right h2, List.getElem_append_right h2]
        obtain ⟨i, hi⟩ : ∃ i, j - pre.length = i + 1 := ⟨j - pre.length - 1, by omega⟩
        simp [hi]
    · intro e2
      injection e2 with e1 e3
      omega
theorem Wr.drewN {w w' : World} {b o n : Nat} (h : Wr w w' b o n) (k : Nat) : Wr w (w'.drewN k) b o n := ⟨grown_dr h.grown k, fun N hN => h.arr N hN, h.keep⟩
set_option maxRecDepth 100000 in
set_option maxHeartbeats 1000000 in
theorem subVW_any (b o N n y cz cx : Nat) (xs : List Nat) (w : World) (hA : Arr w b N) (hfit : o + n ≤ N) (hn : xs.length = n) (h0 : 0 < n) (hl : n ≤ 100000) (hX : WAt w b o xs) (hlt : ∀ d ∈ xs, d < M) :
    Calls Tryz.prog 281 #[.slice (some ⟨b, o, none⟩) n cz, .slice (some ⟨b, o, none⟩) n cx, .int .u64 (y : Int)] w fun e w' =>
      e = .returned (.int .u64 (((Pl.subW M xs y).2 : Nat) : Int)) ∧ WAt w' b o (Pl.subW M xs y).1 ∧ Wr w w' b o n := by
  cases xs with
  | nil => simp at hn; omega
  | cons x r =>
    have hxM : x < M := hlt x (by simp)
    have hrM : ∀ d ∈ r, d < M := fun d hd => hlt d (List.mem_cons_of_mem _ hd)
    have HS := Lib.hid (fun W => Sub0_any x y W)
    have hc0 := hX 0 (by simp)
    have hf0 : w.frozen? ⟨b, o, none⟩ = false := (hA.has (i := o) (by omega)).2
    rw [Nat.add_zero] at hc0
    simp only [List.getElem_cons_zero] at hc0
    have h0z : (0 : Int) < (n : Int) := by omega
    have hpp := neq_same ⟨b, o, none⟩
    have hnz : ((n : Int) == 0) = false := by rw [beq_eq_false_iff_ne]; omega
    obtain ⟨d, hd⟩ : ∃ d, (M + x - y) % M = d := ⟨_, rfl⟩
    have hst := Pl.subW_cons M x r y
    rw [hd] at HS hst
    have w1W : Wr w (w.setCell ⟨b, o, none⟩ (.int .u64 (d : Int))) b o n := by
      have := Wr.put (w := w) (b := b) (o := o) (n := n) (k := 0) (by omega) (.int .u64 (d : Int))
      rwa [Nat.add_zero] at this
    have w1X : WAt (w.setCell ⟨b, o, none⟩ (.int .u64 (d : Int))) b o (d :: r) := by
      have := WAt.put_mid (pre := []) (v := d) hX hA (by simp; omega)
      simpa using this
    have H1 := Lib.hid (And.intro w1W w1X)
    clear w1W w1X hX
    by_cases hlt' : x < y
    · rw [if_pos hlt'] at HS hst
      rw [hst]
      obtain ⟨R, hR⟩ : ∃ R, Pl.subW M r 1 = R := ⟨_, rfl⟩
      rw [hR]
      have HR := Lib.hid hR
      have HN := Lib.hid hn
      clear hst hR hd hn
      go_enter Tryz.func281, Tryz.ntmps281
      go_wp2_with fail
      refine (HS.out _).mono ?_; rintro e w1 ⟨rfl, rfl⟩
      go_wp2
      go_loopw [9, 10] (fun iv _ wr => ∃ (k : Nat) (pre : List Nat), k + 1 ≤ n ∧ iv = .int .i64 ((k + 1 : Nat) : Int) ∧ pre.length = k + 1 ∧ WAt wr b o (pre ++ r.drop k) ∧ Wr w wr b o n ∧ d :: R.1 = pre ++ (Pl.subW M (r.drop k) 1).1 ∧ R.2 = (Pl.subW M (r.drop k) 1).2) (fun iv _ _ => n - (intOf iv).toNat)
      case atStart => exact ⟨0, [d], by omega, rfl, rfl, H1.out.2, H1.out.1, by rw [← HR.out]; rfl, by rw [← HR.out]; rfl⟩
      case round =>
        obtain ⟨k, pre, hk, rfl, hpl, hwx, hww, hr1, hr2⟩ := hrel
        have HPL := Lib.hid hpl
        by_cases hkn : k + 1 < n
        · have hkr : k < r.length := by have := HN.out; simp at this; omega
          have hdr : r.drop k = r[k] :: r.drop (k + 1) := List.drop_eq_getElem_cons hkr
          obtain ⟨x', hx'⟩ : ∃ x', r[k] = x' := ⟨_, rfl⟩
          rw [hx'] at hdr
          have hx'M : x' < M := by rw [← hx']; exact hrM _ (List.getElem_mem _)
          rw [hdr] at hwx hr1 hr2
          have hc := hwx (k + 1) (by simp [hpl])
          have hce : (pre ++ x' :: r.drop (k + 1))[k + 1]'(by simp [hpl]) = x' := by rw [List.getElem_append_right (by omega)]; simp [hpl]
          rw [hce] at hc
          have hA2 := hww.arr _ hA
          obtain ⟨_, hf⟩ := hA2.has (i := o + (k + 1)) (by omega)
          have hrM' : ∀ d ∈ r.drop (k + 1), d < M := fun d hd => hrM d (List.mem_of_mem_drop hd)
          have hb1 : (k + 1 : Int) < (n : Int) := by omega
          have hw2 : ∀ u, Wr w (wr.setCell ⟨b, o + (k + 1), none⟩ u) b o n := fun u => hww.trans (Wr.put hkn u) (by omega) (by omega) (by omega) (by omega)
          by_cases hx0 : x' = 0
          · subst hx0
            rw [Pl.subW_on (by rw [M_eq]; omega)] at hr1 hr2
            have hp := WAt.put_mid (v := M - 1) hwx hA2 (by rw [hpl]; omega)
            rw [hpl, show ((M - 1 : Nat) : Int) = 18446744073709551615 from rfl] at hp
            have HP := Lib.hid (And.intro hp (And.intro (hw2 (.int .u64 18446744073709551615)) (And.intro hr1 hr2)))
            clear hp hw2 hr1 hr2 hwx hww hdr hx' hce hpl
            go_wp2
            go_roundw
            case rel => exact ⟨k + 1, pre ++ [M - 1], by omega, by go_num, by rw [List.length_append, HPL.out]; rfl, by rw [List.append_assoc]; exact HP.out.1, HP.out.2.1, by rw [List.append_assoc]; exact HP.out.2.2.1, HP.out.2.2.2⟩
            case measure => simp [intOf]; omega
          · rw [Pl.subW_stop (by omega) hx'M hrM'] at hr1 hr2
            have hp := WAt.put_mid (v := x' - 1) hwx hA2 (by rw [hpl]; omega)
            rw [hpl] at hp
            have HP := Lib.hid (And.intro hp (And.intro (hw2 (.int .u64 ((x' - 1 : Nat) : Int))) (And.intro hr1 hr2)))
            have ht : ((x' : Int) != 0) = true := by rw [bne_iff_ne]; omega
            have i1 : IntKind.u64.wrap ((x' : Int) - 1) = ((x' - 1 : Nat) : Int) := by rw [IntKind.wrap_u64]; rw [M_eq] at hx'M; omega
            clear hp hw2 hr1 hr2 hwx hww hdr hx' hce hpl
            go_wp2
            go_quiet (fail)
            go_wp2
            go_ret
            exact ⟨by rw [HP.out.2.2.2]; rfl, by rw [HP.out.2.2.1]; exact HP.out.1, HP.out.2.1.drewN _⟩
        · obtain rfl : n = k + 1 := by omega
          have hdr : r.drop k = [] := List.drop_of_length_le (by have := HN.out; simp at this; omega)
          rw [hdr, List.append_nil] at hwx
          rw [hdr] at hr1 hr2
          simp only [Pl.subW, List.append_nil] at hr1 hr2
          have HP := Lib.hid (And.intro hwx (And.intro hww (And.intro hr1 hr2)))
          clear hwx hww hr1 hr2 hdr hpl
          go_wp2
          go_ret
          exact ⟨by rw [HP.out.2.2.2]; rfl, by rw [HP.out.2.2.1]; exact HP.out.1, HP.out.2.1⟩
    · rw [if_neg hlt'] at HS hst
      rw [hst, Pl.subW_zero M r hrM]
      clear hst hd hn
      go_enter Tryz.func281, Tryz.ntmps281
      go_wp2_with fail
      refine (HS.out _).mono ?_; rintro e w1 ⟨rfl, rfl⟩
      go_wp2
      go_quiet (fail)
      go_wp2
      go_ret
      exact ⟨rfl, H1.out.2, H1.out.1.drewN _⟩
set_option maxRecDepth 100000 in
set_option maxHeartbeats 1000000 in
theorem addVW_any (b o N n y cz cx : Nat) (xs : List Nat) (w : World) (hA : Arr w b N) (hfit : o + n ≤ N) (hn : xs.length = n) (h0 : 0 < n) (hl : n ≤ 100000) (hX : WAt w b o xs) (hlt : ∀ d ∈ xs, d < M) (hy : y < M) :
    Calls Tryz.prog 272 #[.slice (some ⟨b, o, none⟩) n cz, .slice (some ⟨b, o, none⟩) n cx, .int .u64 (y : Int)] w fun e w' =>
      e = .returned (.int .u64 (((Pl.addW M xs y).2 : Nat) : Int)) ∧ WAt w' b o (Pl.addW M xs y).1 ∧ Wr w w' b o n := by
  cases xs with
  | nil => simp at hn; omega
  | cons x r =>
    have hxM : x < M := hlt x (by simp)
    have hrM : ∀ d ∈ r, d < M := fun d hd => hlt d (List.mem_cons_of_mem _ hd)
    have HS := Lib.hid (fun W => Add0_any x y W)
    have hc0 := hX 0 (by simp)
    have hf0 : w.frozen? ⟨b, o, none⟩ = false := (hA.has (i := o) (by omega)).2
    rw [Nat.add_zero] at hc0
    simp only [List.getElem_cons_zero] at hc0
    have h0z : (0 : Int) < (n : Int) := by omega
    have hpp := neq_same ⟨b, o, none⟩
    have hnz : ((n : Int) == 0) = false := by rw [beq_eq_false_iff_ne]; omega
    obtain ⟨d, hd⟩ : ∃ d, (x + y) % M = d := ⟨_, rfl⟩
    have hst := Pl.addW_cons M x r y
    rw [hd] at HS hst
    have w1W : Wr w (w.setCell ⟨b, o, none⟩ (.int .u64 (d : Int))) b o n := by
      have := Wr.put (w := w) (b := b) (o := o) (n := n) (k := 0) (by omega) (.int .u64 (d : Int))
      rwa [Nat.add_zero] at this
    have w1X : WAt (w.setCell ⟨b, o, none⟩ (.int .u64 (d : Int))) b o (d :: r) := by
      have := WAt.put_mid (pre := []) (v := d) hX hA (by simp; omega)
      simpa using this
    have H1 := Lib.hid (And.intro w1W w1X)
    clear w1W w1X hX
    by_cases hlt' : M ≤ x + y
    · have hcc : (x + y) / M = 1 := Nat.div_eq_of_lt_le (by omega) (by omega)
      rw [hcc] at HS hst
      clear hcc
      rw [hst]
      obtain ⟨R, hR⟩ : ∃ R, Pl.addW M r 1 = R := ⟨_, rfl⟩
      rw [hR]
      have HR := Lib.hid hR
      have HN := Lib.hid hn
      clear hst hR hd hn
      go_enter Tryz.func272, Tryz.ntmps272
      go_wp2_with fail
      refine (HS.out _).mono ?_; rintro e w1 ⟨rfl, rfl⟩
      go_wp2
      go_loopw [9, 10] (fun iv _ wr => ∃ (k : Nat) (pre : List Nat), k + 1 ≤ n ∧ iv = .int .i64 ((k + 1 : Nat) : Int) ∧ pre.length = k + 1 ∧ WAt wr b o (pre ++ r.drop k) ∧ Wr w wr b o n ∧ d :: R.1 = pre ++ (Pl.addW M (r.drop k) 1).1 ∧ R.2 = (Pl.addW M (r.drop k) 1).2) (fun iv _ _ => n - (intOf iv).toNat)
      case atStart => exact ⟨0, [d], by omega, rfl, rfl, H1.out.2, H1.out.1, by rw [← HR.out]; rfl, by rw [← HR.out]; rfl⟩
      case round =>
        obtain ⟨k, pre, hk, rfl, hpl, hwx, hww, hr1, hr2⟩ := hrel
        have HPL := Lib.hid hpl
        by_cases hkn : k + 1 < n
        · have hkr : k < r.length := by have := HN.out; simp at this; omega
          have hdr : r.drop k = r[k] :: r.drop (k + 1) := List.drop_eq_getElem_cons hkr
          obtain ⟨x', hx'⟩ : ∃ x', r[k] = x' := ⟨_, rfl⟩
          rw [hx'] at hdr
          have hx'M : x' < M := by rw [← hx']; exact hrM _ (List.getElem_mem _)
          rw [hdr] at hwx hr1 hr2
          have hc := hwx (k + 1) (by simp [hpl])
          have hce : (pre ++ x' :: r.drop (k + 1))[k + 1]'(by simp [hpl]) = x' := by rw [List.getElem_append_right (by omega)]; simp [hpl]
          rw [hce] at hc
          have hA2 := hww.arr _ hA
          obtain ⟨_, hf⟩ := hA2.has (i := o + (k + 1)) (by omega)
          have hrM' : ∀ d ∈ r.drop (k + 1), d < M := fun d hd => hrM d (List.mem_of_mem_drop hd)
          have hb1 : (k + 1 : Int) < (n : Int) := by omega
          have hw2 : ∀ u, Wr w (wr.setCell ⟨b, o + (k + 1), none⟩ u) b o n := fun u => hww.trans (Wr.put hkn u) (by omega) (by omega) (by omega) (by omega)
          by_cases hx0 : x' = M - 1
          · rw [hx0, Pl.addW_on M_pos] at hr1 hr2
            have hp := WAt.put_mid (v := 0) hwx hA2 (by rw [hpl]; omega)
            rw [hpl, show ((0 : Nat) : Int) = 0 from rfl] at hp
            have hc' : wr.cell? ⟨b, o + (k + 1), none⟩ = some (.int .u64 18446744073709551615) := by rw [hc, hx0]; rfl
            have HP := Lib.hid (And.intro hp (And.intro (hw2 (.int .u64 0)) (And.intro hr1 hr2)))
            clear hc hx0 hx'M
            clear hp hw2 hr1 hr2 hwx hww hdr hx' hce hpl
            go_wp2
            go_roundw
            case rel => exact ⟨k + 1, pre ++ [0], by omega, by go_num, by rw [List.length_append, HPL.out]; rfl, by rw [List.append_assoc]; exact HP.out.1, HP.out.2.1, by rw [List.append_assoc]; exact HP.out.2.2.1, HP.out.2.2.2⟩
            case measure => simp [intOf]; omega
          · rw [Pl.addW_stop (by omega) hrM'] at hr1 hr2
            have hp := WAt.put_mid (v := x' + 1) hwx hA2 (by rw [hpl]; omega)
            rw [hpl] at hp
            have HP := Lib.hid (And.intro hp (And.intro (hw2 (.int .u64 ((x' + 1 : Nat) : Int))) (And.intro hr1 hr2)))
            have ht : ((x' : Int) != 18446744073709551615) = true := by rw [bne_iff_ne]; rw [M_eq] at hx0; omega
            have i1 : IntKind.u64.wrap ((x' : Int) + 1) = ((x' + 1 : Nat) : Int) := by rw [IntKind.wrap_u64]; rw [M_eq] at hx'M hx0; omega
            clear hp hw2 hr1 hr2 hwx hww hdr hx' hce hpl
            go_wp2
            go_quiet (fail)
            go_wp2
            go_ret
            exact ⟨by rw [HP.out.2.2.2]; rfl, by rw [HP.out.2.2.1]; exact HP.out.1, HP.out.2.1.drewN _⟩
        · obtain rfl : n = k + 1 := by omega
          have hdr : r.drop k = [] := List.drop_of_length_le (by have := HN.out; simp at this; omega)
          rw [hdr, List.append_nil] at hwx
          rw [hdr] at hr1 hr2
          simp only [Pl.addW, List.append_nil] at hr1 hr2
          have HP := Lib.hid (And.intro hwx (And.intro hww (And.intro hr1 hr2)))
          clear hwx hww hr1 hr2 hdr hpl
          go_wp2
          go_ret
          exact ⟨by rw [HP.out.2.2.2]; rfl, by rw [HP.out.2.2.1]; exact HP.out.1, HP.out.2.1⟩
    · rw [Nat.div_eq_of_lt (by omega)] at HS hst
      rw [hst, Pl.addW_zero M r hrM]
      clear hst hd hn
      go_enter Tryz.func272, Tryz.ntmps272
      go_wp2_with fail
      refine (HS.out _).mono ?_; rintro e w1 ⟨rfl, rfl⟩
      go_wp2
      go_quiet (fail)
      go_wp2
      go_ret
      exact ⟨rfl, H1.out.2, H1.out.1.drewN _⟩
theorem WAt.drewN {w : World} {b o : Nat} {xs : List Nat} (h : WAt w b o xs) (k : Nat) : WAt (w.drewN k) b o xs := h
theorem Arr.drewN {w : World} {b N : Nat} (h : Arr w b N) (k : Nat) : Arr (w.drewN k) b N := h
theorem WAt.join {w : World} {b o n : Nat} {l1 l2 : List Nat} (h1 : WAt w b o l1) (hn : l1.length = n) (h2 : WAt w b (o + n) l2) : WAt w b o (l1 ++ l2) := h1.app (by rw [hn]; exact h2)
def AddToBack (b o lz v : Nat) (w : World) (e : Ending) (w' : World) : Prop :=
  e = .returned (.tuple #[]) ∧ ∃ zs : List Nat, zs.length = lz ∧ (∀ d ∈ zs, d < M) ∧ Pl.val M zs = v ∧ WAt w' b o zs ∧ Wr w w' b o lz
set_option maxRecDepth 100000 in
set_option maxHeartbeats 1000000 in
theorem addTo_any (b o N lz cz bx ox cx n : Nat) (zs xs : List Nat) (w : World) (hA : Arr w b N) (hfit : o + lz ≤ N) (hzl : zs.length = lz) (hcz : lz ≤ cz) (hxl : xs.length = n) (hnx : n ≤ cx) (hnz : n ≤ lz) (hl : lz ≤ 100000)
    (hZ : WAt w b o zs) (hX : WAt w bx ox xs) (hzlt : ∀ d ∈ zs, d < M) (hxlt : ∀ d ∈ xs, d < M) (hs : bx ≠ b ∨ o + lz ≤ ox ∨ ox + n ≤ o) (hsum : Pl.val M zs + Pl.val M xs < M ^ lz) :
    Calls Tryz.prog 238 #[.slice (some ⟨b, o, none⟩) lz cz, .slice (some ⟨bx, ox, none⟩) n cx] w (AddToBack b o lz (Pl.val M zs + Pl.val M xs) w) := by
  rcases Nat.eq_zero_or_pos n with h0 | h0
  · obtain rfl : n = 0 := h0
    obtain rfl : xs = [] := List.eq_nil_of_length_eq_zero hxl
    have hr : AddToBack b o lz (Pl.val M zs + Pl.val M []) w (.returned (.tuple #[])) w := ⟨rfl, zs, hzl, hzlt, rfl, hZ, Wr.refl _ _ _ _⟩
    have HR := Lib.hid hr
    clear hr hsum hZ hX hzlt
    go_enter Tryz.func238, Tryz.ntmps238
    go_wp2
    go_end0
    exact HR.out
  · have htl : (zs.take n).length = n := by rw [List.length_take]; omega
    have hADD : ∀ W, Below w.heap.size w W → Calls Tryz.prog 235 #[.slice (some ⟨b, o, none⟩) n cz, .slice (some ⟨b, o, none⟩) n cz, .slice (some ⟨bx, ox, none⟩) n cx] W fun e w' =>
        e = .returned (.int .u64 (((Pl.addV M (zs.take n) xs 0).2 : Nat) : Int)) ∧ WAt w' b o (Pl.addV M (zs.take n) xs 0).1 ∧ Wr w w' b o n := by
      intro W hb
      have h := addVV_at b o cz b o cz bx ox cx N (zs.take n) xs W (by rw [htl]; omega) (by rw [htl, hxl]) (hA.below hb) (by rw [htl]; omega) (fun d hd => hzlt d (List.mem_of_mem_take hd)) hxlt ((hZ.take n).below hb) (Or.inr (Or.inl (Nat.le_refl _))) (hX.below hb) (by rw [htl]; omega)
      rw [htl] at h
      refine h.mono ?_
      rintro e w' ⟨h1, h2, h3⟩
      exact ⟨h1, h2, (Wr.of_below hb b o n).trans h3 (by omega) (by omega) (by omega) (by omega)⟩
    have hc1 := Pl.addV_c M (zs.take n) xs 0 (fun d hd => hzlt d (List.mem_of_mem_take hd)) hxlt (by omega)
    have hv1 := Pl.addV_val M (zs.take n) xs 0 (by rw [htl, hxl])
    have hT1 := Pl.addV_len M (zs.take n) xs 0 (by rw [htl, hxl])
    have hT2 := Pl.addV_lt M M_pos (zs.take n) xs 0
    obtain ⟨T, hT⟩ : ∃ T, (Pl.addV M (zs.take n) xs 0).1 = T := ⟨_, rfl⟩
    obtain ⟨tc, htc⟩ : ∃ c, (Pl.addV M (zs.take n) xs 0).2 = c := ⟨_, rfl⟩
    rw [hT, htc] at hADD hv1
    rw [htc] at hc1
    rw [hT, htl] at hT1
    rw [hT] at hT2
    rw [htl, Nat.add_zero] at hv1
    have hzv := Pl.val_take_drop M zs n (by omega)
    have hdl : (zs.drop n).length = lz - n := by rw [List.length_drop, hzl]
    have hdlt : ∀ d ∈ zs.drop n, d < M := fun d hd => hzlt d (List.mem_of_mem_drop hd)
    have hdv := Pl.val_lt M (zs.drop n) hdlt
    rw [hdl] at hdv
    have hpw : M ^ lz = M ^ n * M ^ (lz - n) := by rw [← Nat.pow_add]; congr 1; omega
    have HADD := Lib.hid hADD
    have H := Lib.hid (And.intro hA (And.intro hZ (And.intro hT1 (And.intro hT2 hdlt))))
    have b0 : (0 : Int) ≤ (n : Int) := by omega
    have b1 : (n : Int) ≤ (cz : Int) := by omega
    have b2 : (n : Int) ≤ (cx : Int) := by omega
    have b3 : (0 : Int) < (n : Int) := by omega
    have b4 : n ≤ cz := by omega
    rcases Nat.eq_zero_or_pos tc with hz | hz
    · subst hz
      have hfin : ∀ w8, WAt w8 b o T → Wr w w8 b o n → AddToBack b o lz (Pl.val M zs + Pl.val M xs) w (.returned (.tuple #[])) w8 := by
        intro w8 h1 h2
        refine ⟨rfl, T ++ zs.drop n, by rw [List.length_append, hT1, hdl]; omega, ?_, ?_, h1.join hT1 (h2.at (hZ.drop n (by omega)) (Or.inr (Or.inr (Nat.le_refl _)))), h2.mono (Nat.le_refl _) (by omega)⟩
        · intro d hd
          rcases List.mem_append.1 hd with hd | hd
          · exact hT2 d hd
          · exact hdlt d hd
        · rw [Pl.val_append, hT1]; omega
      have HF := Lib.hid hfin
      clear hADD hA hZ hX hzlt hxlt hsum hv1 hT1 hT2 hzv hdv hpw hT htc hfin hdlt htl hdl hxl hzl
      go_enter Tryz.func238, Tryz.ntmps238
      go_wp2_with fail
      go_region_with (first
        | (go_at_call 235; refine (HADD.out _ (by first | exact Below.refl _ _ | exact (Below.refl _ _).drew | exact below_drewN (Below.refl _ _) _)).mono ?_; rintro e w8 ⟨rfl, hr8, hw8⟩))
      all_goals
        have HFIN := Lib.hid (HF.out _ hr8 hw8)
        clear hr8 hw8
        go_wp2
        go_end0
        exact HFIN.out
    · obtain rfl : tc = 1 := by omega
      have hnlt : n < lz := by
        rcases Nat.lt_or_ge n lz with h | h
        · exact h
        · exfalso
          have e : lz = n := by omega
          subst e
          rw [List.drop_of_length_le (by omega)] at hzv
          simp only [Pl.val, Nat.mul_zero, Nat.add_zero] at hzv
          omega
      have haw := Pl.addW_val M (zs.drop n) 1
      have haw1 := Pl.addW_len M (zs.drop n) 1
      have haw2 := Pl.addW_lt M M_pos (zs.drop n) 1
      rw [hdl] at haw haw1
      have hAW : ∀ w8, Wr w w8 b o n → Calls Tryz.prog 272 #[.slice (some ⟨b, o + n, none⟩) (lz - n) (cz - n), .slice (some ⟨b, o + n, none⟩) (lz - n) (cz - n), .int .u64 1] w8 fun e w' =>
          e = .returned (.int .u64 (((Pl.addW M (zs.drop n) 1).2 : Nat) : Int)) ∧ WAt w' b (o + n) (Pl.addW M (zs.drop n) 1).1 ∧ Wr w8 w' b (o + n) (lz - n) := fun w8 h8 =>
        addVW_any b (o + n) N (lz - n) 1 (cz - n) (cz - n) (zs.drop n) w8 (h8.arr _ hA) (by omega) hdl (by omega) (by omega) (h8.at (hZ.drop n (by omega)) (Or.inr (Or.inr (Nat.le_refl _)))) hdlt (by rw [M_eq]; omega)
      obtain ⟨D, hD⟩ : ∃ D, (Pl.addW M (zs.drop n) 1).1 = D := ⟨_, rfl⟩
      obtain ⟨dc, hdc⟩ : ∃ D, (Pl.addW M (zs.drop n) 1).2 = D := ⟨_, rfl⟩
      rw [hD, hdc] at haw
      rw [hD] at haw1 haw2
      have hdc0 : dc = 0 := by
        rcases Nat.eq_zero_or_pos dc with h | h
        · exact h
        · exfalso
          have e1 := Nat.mul_le_mul_left (M ^ (lz - n)) h
          rw [Nat.mul_one] at e1
          have e2 := Nat.mul_le_mul_left (M ^ n) (show M ^ (lz - n) ≤ Pl.val M (zs.drop n) + 1 by omega)
          rw [Nat.mul_add, Nat.mul_one] at e2
          omega
      have hvv : Pl.val M T + M ^ n * Pl.val M D = Pl.val M zs + Pl.val M xs := by
        rw [hdc0, Nat.mul_zero, Nat.add_zero] at haw
        rw [haw, Nat.mul_add, Nat.mul_one]
        omega
      rw [hD, hdc] at hAW
      have HAW := Lib.hid hAW
      have hfin : ∀ w8 w9, WAt w8 b o T → Wr w w8 b o n → WAt w9 b (o + n) D → Wr w8 w9 b (o + n) (lz - n) → AddToBack b o lz (Pl.val M zs + Pl.val M xs) w (.returned (.tuple #[])) w9 := by
        intro w8 w9 h1 h2 h3 h4
        refine ⟨rfl, T ++ D, by rw [List.length_append, hT1, haw1]; omega, ?_, ?_, WAt.join (h4.at h1 (Or.inr (Or.inl (by omega)))) hT1 h3, h2.trans h4 (Nat.le_refl _) (by omega) (by omega) (by omega)⟩
        · intro d hd
          rcases List.mem_append.1 hd with hd | hd
          · exact hT2 d hd
          · exact haw2 d hd
        · rw [Pl.val_append, hT1]; exact hvv
      have HF := Lib.hid hfin
      have b5 : (n : Int) < (lz : Int) := by omega
      have b6 : ¬ cz = n := by omega
      have b7 : n ≤ lz := by omega
      have b8 : (n : Int) ≤ (lz : Int) := by omega
      clear hADD hA hZ hX hzlt hxlt hsum hv1 hT1 hT2 hzv hdv hpw hT htc hfin hdlt htl hdl hxl hzl hAW haw haw1 haw2 hvv hdc0 hD hdc
      go_enter Tryz.func238, Tryz.ntmps238
      go_wp2_with fail
      go_region_with (first
        | (go_at_call 235; refine (HADD.out _ (by first | exact Below.refl _ _ | exact (Below.refl _ _).drew | exact below_drewN (Below.refl _ _) _)).mono ?_; rintro e w8 ⟨rfl, hr8, hw8⟩))
      all_goals
        have H8 := Lib.hid (And.intro hr8 hw8)
        clear hr8 hw8
        go_wp2_with fail
        go_region_with (first
          | (go_at_call 272; refine (HAW.out _ (by first | exact H8.out.2 | exact H8.out.2.drewN 1)).mono ?_; rintro e w9 ⟨rfl, hr9, hw9⟩))
        all_goals
          have HFIN := Lib.hid (HF.out _ _ (H8.out.1.drewN 1) (H8.out.2.drewN 1) hr9 hw9)
          clear hr9 hw9
          go_wp2
          go_end0
          exact HFIN.out
set_option maxRecDepth 100000 in
set_option maxHeartbeats 8000000 in
theorem divBack (bu ou lu cu Nu bv ov n cv j qh L sc Q : Nat) (S1 vs SS : List Nat) (w8 : World) (ds : List Deferred) {s0 s1 s4 s5 s6 s7 s9 s10 s11 s12 s13 s16 s17 s18 s19 s20 s23 s24 s25 s26 s27 s28 s29 s30 s31 s32 s33 s34 s35 s36 s37 s38 s39 s40 s41 s42 s43 s44 s45 s46 s47 s48 s49 s50 s51 s52 s53 s54 s55 s56 s57 s58 s59 s60 s61 s62 s63 s64 s65 s66 s67 s68 s69 s70 s71 s72 s73 s74 s75 s76 s77 s78 s79 s80 s81 s82 s83 s84 s85 s86 s87 s88 s89 s90 s91 s92 s93 s94 s95 s96 s97 s98 s99 s100 s101 s102 s103 s104 s105 s106 s107 s108 s109 s110 s111 s112 s113 s114 s115 s116 s117 s118 s119 s120 s121 s122 s123 s124 s125 s126 s127 s128 s129 s130 s131 s132 s133 s134 s135 s136 s137 s138 s139 s140 s141 s142 s143 s144 s145 s146 s149 s150 s151 s152 s153 s154 s155 s156 s157 s158 s159 s160 s161 s162 s163 s164 s165 s166 s167 s168 s169 s170 s171 s172 s173 s174 s175 s176 s177 s178 s179 s180 s181 s182 s183 s184 s185 s186 s187 s188 s189 s190 s191 s192 s193 s194 s195 s196 s197 s198 s199 s200 : Value} {K : Act → World → Prop} {Q0 : Exit → Act → World → Prop}
    (hqhM : qh < M) (hsc : sc ≤ 1) (hv : vs.length = n) (hvl : ∀ d ∈ vs, d < M) (hs1 : S1.length = L) (hs3 : ∀ d ∈ S1, d < M) (hL : n ≤ L ∧ L ≤ n + 1) (hjL : j + L ≤ lu) (hlu : lu ≤ 400) (hcu : lu ≤ cu) (hn0 : 4 ≤ n) (hfit : ou + lu ≤ Nu)
    (h8 : WAt w8 bu (ou + j) S1) (h8v : WAt w8 bv ov vs) (h8r : Arr w8 bu Nu) (huv : bu ≠ bv ∨ ou + lu ≤ ov ∨ ov + n ≤ ou)
    (HR : Hid ((sc = 0 → qh = Q ∧ Pl.val M S1 = Pl.val M SS % Pl.val M vs ∧ ∀ d ∈ S1.drop n, d = 0) ∧ (sc ≠ 0 → qh = Q + 1 ∧ Pl.val M (Pl.addV M (S1.take n) vs 0).1 = Pl.val M SS % Pl.val M vs ∧ (L = n + 1 → (S1.getD n 0 + (Pl.addV M (S1.take n) vs 0).2) % M = 0))))
    (hK : ∀ (rs : List Nat) (wx : World) {v23 v147 v148 v149 v150 v151 v152 v153 v154 v155 v156 v157 v158 v159 v160 v161 v162 v163 v164 v165 v166 v167 v168 v169 v170 v171 v172 v173 v174 v175 v176 v177 v178 v179 v180 v181 v182 v183 v184 v185 v186 v187 v188 v189 v190 v191 v192 v193 v194 v195 v196 v197 v198 v199 v200 : Value}, rs.length = L → (∀ d ∈ rs, d < M) → (∀ d ∈ rs.drop n, d = 0) → Pl.val M rs = Pl.val M SS % Pl.val M vs → WAt wx bu (ou + j) rs → Chg w8 wx (fun b off => b = bu ∧ ou + j ≤ off ∧ off < ou + j + L) → K ⟨#[s0, s1, .slice (some ⟨bu, ou, none⟩) lu cu, .slice (some ⟨bv, ov, none⟩) n cv, s4, s5, s6, s7, .int .i64 (n : Int), s9, s10, s11, s12, s13, .int .i64 (j : Int), .int .u64 (Q : Int), s16, s17, s18, s19, s20, .int .i64 (L : Int), .int .u64 (sc : Int), v23, s24, s25, s26, s27, s28, s29, s30, s31, s32, s33, s34, s35, s36, s37, s38, s39, s40, s41, s42, s43, s44, s45, s46, s47, s48, s49, s50, s51, s52, s53, s54, s55, s56, s57, s58, s59, s60, s61, s62, s63, s64, s65, s66, s67, s68, s69, s70, s71, s72, s73, s74, s75, s76, s77, s78, s79, s80, s81, s82, s83, s84, s85, s86, s87, s88, s89, s90, s91, s92, s93, s94, s95, s96, s97, s98, s99, s100, s101, s102, s103, s104, s105, s106, s107, s108, s109, s110, s111, s112, s113, s114, s115, s116, s117, s118, s119, s120, s121, s122, s123, s124, s125, s126, s127, s128, s129, s130, s131, s132, s133, s134, s135, s136, s137, s138, s139, s140, s141, s142, s143, s144, s145, s146, v147, v148, v149, v150, v151, v152, v153, v154, v155, v156, v157, v158, v159, v160, v161, v162, v163, v164, v165, v166, v167, v168, v169, v170, v171, v172, v173, v174, v175, v176, v177, v178, v179, v180, v181, v182, v183, v184, v185, v186, v187, v188, v189, v190, v191, v192, v193, v194, v195, v196, v197, v198, v199, v200], ds⟩ wx) :
    Code.wp Tryz.prog ((Tryz.f239.body.bind (condOf 148)).getD .skip) (Exit.then K Q0) ⟨#[s0, s1, .slice (some ⟨bu, ou, none⟩) lu cu, .slice (some ⟨bv, ov, none⟩) n cv, s4, s5, s6, s7, .int .i64 (n : Int), s9, s10, s11, s12, s13, .int .i64 (j : Int), .int .u64 (qh : Int), s16, s17, s18, s19, s20, .int .i64 (L : Int), .int .u64 (sc : Int), s23, s24, s25, s26, s27, s28, s29, s30, s31, s32, s33, s34, s35, s36, s37, s38, s39, s40, s41, s42, s43, s44, s45, s46, s47, s48, s49, s50, s51, s52, s53, s54, s55, s56, s57, s58, s59, s60, s61, s62, s63, s64, s65, s66, s67, s68, s69, s70, s71, s72, s73, s74, s75, s76, s77, s78, s79, s80, s81, s82, s83, s84, s85, s86, s87, s88, s89, s90, s91, s92, s93, s94, s95, s96, s97, s98, s99, s100, s101, s102, s103, s104, s105, s106, s107, s108, s109, s110, s111, s112, s113, s114, s115, s116, s117, s118, s119, s120, s121, s122, s123, s124, s125, s126, s127, s128, s129, s130, s131, s132, s133, s134, s135, s136, s137, s138, s139, s140, s141, s142, s143, s144, s145, s146, .int .u64 (sc : Int), .bool ((sc : Int) != 0), s149, s150, s151, s152, s153, s154, s155, s156, s157, s158, s159, s160, s161, s162, s163, s164, s165, s166, s167, s168, s169, s170, s171, s172, s173, s174, s175, s176, s177, s178, s179, s180, s181, s182, s183, s184, s185, s186, s187, s188, s189, s190, s191, s192, s193, s194, s195, s196, s197, s198, s199, s200], ds⟩ w8 := by
  conv => arg 2; whnf
  have HK9 := Lib.hid hK
  have HV := Lib.hid hv
  have H8 := Lib.hid (And.intro h8 (And.intro h8v h8r))
  clear hK hv h8 h8v h8r
  rcases Nat.eq_zero_or_pos sc with h0 | h0
  · subst h0
    obtain ⟨hqe, e2, e3⟩ := HR.out.1 rfl
    subst hqe
    have HE := Lib.hid (And.intro e2 e3)
    have HS := Lib.hid (And.intro hs1 hs3)
    clear e2 e3 hs1 hs3
    go_wp2
    exact HK9.out S1 _ HS.out.1 HS.out.2 HE.out.2 HE.out.1 H8.out.1 (Chg.refl _ _)
  · obtain rfl : sc = 1 := by omega
    obtain ⟨hqe, e2, e3⟩ := HR.out.2 (by omega)
    obtain ⟨hL5, hL6⟩ := hL
    have HSL := Lib.hid (And.intro hs1 hs3)
    have hSt : (S1.take n).length = n := by rw [List.length_take, hs1]; omega
    have hADD : ∀ W, Below w8.heap.size w8 W → _ := fun W hb => addVV_at bu (ou + j) (cu - j) bu (ou + j) (cu - j) bv ov cv Nu (S1.take n) vs W (by rw [hSt]; omega) (by rw [hSt, HV.out]) (H8.out.2.2.below hb) (by rw [hSt]; omega)
      (fun d hd => HSL.out.2 d (List.mem_of_mem_take hd)) hvl ((H8.out.1.take n).below hb) (Or.inr (Or.inl (Nat.le_refl _))) (H8.out.2.1.below hb) (by rw [hSt]; omega)
    rw [hSt] at hADD
    have ha1 := Pl.addV_len M (S1.take n) vs 0 (by rw [hSt, HV.out])
    have ha2 := Pl.addV_lt M M_pos (S1.take n) vs 0
    have ha3 := Pl.addV_c M (S1.take n) vs 0 (fun d hd => HSL.out.2 d (List.mem_of_mem_take hd)) hvl (by omega)
    obtain ⟨T1, hT1⟩ : ∃ l, (Pl.addV M (S1.take n) vs 0).1 = l := ⟨_, rfl⟩
    obtain ⟨tc, htc⟩ : ∃ l, (Pl.addV M (S1.take n) vs 0).2 = l := ⟨_, rfl⟩
    rw [hT1, htc] at hADD
    rw [htc] at e3
    rw [hT1] at e2 ha1 ha2
    rw [hSt] at ha1
    rw [htc] at ha3
    have HADD := Lib.hid hADD
    have HE := Lib.hid (And.intro e2 (And.intro e3 (And.intro ha1 ha2)))
    have HQE := Lib.hid hqe
    have i9 : IntKind.u64.wrap ((qh : Int) - 1) = (Q : Int) := by rw [IntKind.wrap_u64]; rw [M_eq] at hqhM; omega
    obtain ⟨e10, he10⟩ : ∃ e, j + n = e := ⟨_, rfl⟩
    have i8 : IntKind.i64.wrap ((j : Int) + (n : Int)) = (e10 : Int) := by rw [IntWalk.i64_in _ (by omega)]; omega
    have l8 : e10 - j = n := by omega
    have b8 : j ≤ e10 := by omega
    have b9 : e10 ≤ cu := by omega
    have b11 : (j : Int) ≤ (e10 : Int) := by omega
    have b12 : (e10 : Int) ≤ (cu : Int) := by omega
    have b14 : (0 : Int) ≤ (e10 : Int) := by omega
    have b18 : ¬ cu = j := by omega
    have HE10 := Lib.hid he10
    clear e2 e3 hqe hADD ha1 ha2 hT1 htc he10 hSt
    go_upto_region 30 with fail
    refine no_panic ?_
    go_region_with (first
      | (go_at_call 235; refine (HADD.out _ (by first | exact Below.refl _ _ | exact (Below.refl _ _).drew | exact below_drewN (Below.refl _ _) _)).mono ?_; rintro e w9 ⟨rfl, hr9, hw9⟩))
    have hc9 : Chg w8 w9 (fun b off => b = bu ∧ ou + j ≤ off ∧ off < ou + j + n) :=
      (Chg.of_below (Below.refl _ _).drew (fun _ _ => False)).trans (Chg.of_wr hw9 (by omega)) (fun _ _ h => h.elim) (fun _ _ _ h => h)
    have ar9 := hc9.arr _ _ H8.out.2.2
    rcases Nat.lt_or_ge n L with hnL | hnL
    · have hLn : L = n + 1 := by omega
      have cs : w9.cell? ⟨bu, ou + e10, none⟩ = some (.int .u64 ((S1.getD n 0 : Nat) : Int)) := by
        have h1 := H8.out.1.getD (i := n) (by rw [HSL.out.1]; omega)
        rw [show ou + j + n = ou + e10 from by have := HE10.out; omega] at h1
        exact hc9.cell _ _ _ (fun h => by have := HE10.out; omega) h1
      obtain ⟨_, f9⟩ := ar9.has (i := ou + e10) (by have := HE10.out; omega)
      have p9 := ar9.put (i := ou + e10) (by have := HE10.out; omega) (.int .u64 0)
      have hs9 : S1.getD n 0 < M := getD_lt HSL.out.2 n
      have hz9 := HE.out.2.1 hLn
      obtain ⟨s9, hs9e⟩ : ∃ s, S1.getD n 0 = s := ⟨_, rfl⟩
      rw [hs9e] at cs hs9 hz9
      have i10 : IntKind.u64.wrap ((s9 : Int) + (tc : Int)) = 0 := by rw [IntKind.wrap_u64]; rw [M_eq] at *; omega
      have b19 : (n : Int) < (L : Int) := by omega
      have HP9 := Lib.hid p9
      have H9 := Lib.hid (And.intro hr9 hc9)
      have HLN := Lib.hid hLn
      have b20 : e10 < lu := by have := HE10.out; omega
      clear hr9 hw9 hc9 ar9 p9 hz9 hs9e hLn hnL
      go_wp2_with fail
      have hfin : (T1 ++ [0]).length = L ∧ (∀ d ∈ T1 ++ [0], d < M) ∧ (∀ d ∈ (T1 ++ [0]).drop n, d = 0) ∧ Pl.val M (T1 ++ [0]) = Pl.val M SS % Pl.val M vs ∧ WAt (w9.setCell ⟨bu, ou + e10, none⟩ (.int .u64 0)) bu (ou + j) (T1 ++ [0]) ∧ Chg w8 (w9.setCell ⟨bu, ou + e10, none⟩ (.int .u64 0)) (fun b off => b = bu ∧ ou + j ≤ off ∧ off < ou + j + L) := by
        refine ⟨by rw [List.length_append, HE.out.2.2.1, HLN.out]; rfl, ?_, ?_, ?_, ?_, ?_⟩
        · intro d hd
          rcases List.mem_append.1 hd with hd | hd
          · exact HE.out.2.2.2 d hd
          · rw [List.mem_singleton] at hd; rw [hd]; exact M_pos
        · intro d hd
          rw [List.drop_append_of_le_length (by rw [HE.out.2.2.1]; omega), List.drop_of_length_le (by rw [HE.out.2.2.1]; omega)] at hd
          simpa using hd
        · rw [Pl.val_append]; simp only [Pl.val, Nat.mul_zero, Nat.add_zero]; exact HE.out.1
        · refine WAt.app ((chg_set w9 bu (ou + e10) _).at H9.out.1 (fun t ht h => ?_)) (WAt.one ?_)
          · have := h.2; rw [HE.out.2.2.1] at ht; have := HE10.out; omega
          · rw [HE.out.2.2.1, show ou + j + n = ou + e10 from by have := HE10.out; omega]; exact HP9.out
        · exact H9.out.2.trans (chg_set w9 bu (ou + e10) _) (fun b off h => ⟨h.1, h.2.1, by omega⟩) (fun b off _ h => ⟨h.1, by have := HE10.out; omega, by have := HE10.out; omega⟩)
      exact HK9.out _ _ hfin.1 hfin.2.1 hfin.2.2.1 hfin.2.2.2.1 hfin.2.2.2.2.1 hfin.2.2.2.2.2
    · have hLn : L = n := by omega
      have b19 : ¬ (n : Int) < (L : Int) := by omega
      have H9 := Lib.hid (And.intro hr9 hc9)
      have HLN := Lib.hid hLn
      clear hr9 hw9 hc9 ar9 hLn hnL
      go_wp2_with fail
      exact HK9.out T1 _ (by rw [HE.out.2.2.1, HLN.out]) HE.out.2.2.2 (fun d hd => (by rw [List.drop_of_length_le (by rw [HE.out.2.2.1]; omega)] at hd; exact absurd hd (List.not_mem_nil))) HE.out.1 H9.out.1 (H9.out.2.mono (fun b off _ h => ⟨h.1, h.2.1, by omega⟩))
end Go.Proofs.YtgfkdjmoflbmdaaGreatDoor
