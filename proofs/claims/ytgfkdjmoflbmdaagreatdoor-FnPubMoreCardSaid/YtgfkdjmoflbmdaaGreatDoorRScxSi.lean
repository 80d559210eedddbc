/- Contract; Contracts. -/
import Derived.Test.YtgfkdjmoflbmdaaGreatDoorRSbxRfe
namespace Go.Proofs.YtgfkdjmoflbmdaaGreatDoor
open Go.RowKit
open Go.Proofs
def ValBack (bz oz lz : Nat) (v : Nat) (w : World) (w' : World) : Prop :=
  ∃ zs : List Nat, zs.length = lz ∧ (∀ d ∈ zs, d < M) ∧ Pl.val M zs = v ∧ WAt w' bz oz zs ∧ Wr w w' bz oz lz
theorem take_snoc_val {b : Nat} {ys : List Nat} {k y : Nat} (hk : k < ys.length) (hy : ys[k] = y) : Pl.val b (ys.take (k + 1)) = Pl.val b (ys.take k) + b ^ k * y := by
  rw [List.take_succ_eq_append_getElem hk, Pl.val_append, List.length_take, Nat.min_eq_left (by omega), hy]
  simp [Pl.val]
set_option maxRecDepth 100000 in
set_option maxHeartbeats 2000000 in
theorem basicMul_any (bz oz N lz cz bx ox cx by_ oy cy lx ly : Nat) (xs ys : List Nat) (w : World) (hA : Arr w bz N) (hlz : lx + ly = lz) (hfit : oz + lz ≤ N) (hcz : lz ≤ cz) (hlx : xs.length = lx) (hly : ys.length = ly) (hl : lx ≤ 1000 ∧ ly ≤ 1000) (h0 : 0 < lx)
    (hX : WAt w bx ox xs) (hY : WAt w by_ oy ys) (hxl : ∀ d ∈ xs, d < M) (hyl : ∀ d ∈ ys, d < M) (sx : bx ≠ bz ∨ oz + lz ≤ ox ∨ ox + lx ≤ oz) (sy : by_ ≠ bz ∨ oz + lz ≤ oy ∨ oy + ly ≤ oz) :
    Calls Tryz.prog 212 #[.slice (some ⟨bz, oz, none⟩) lz cz, .slice (some ⟨bx, ox, none⟩) lx cx, .slice (some ⟨by_, oy, none⟩) ly cy] w fun e w' => e = .returned (.tuple #[]) ∧ ValBack bz oz lz (Pl.val M xs * Pl.val M ys) w w' := by
  have HX := Lib.hid hX
  have HY := Lib.hid hY
  have HLX := Lib.hid hlx
  have HLY := Lib.hid hly
  have i0 : IntKind.i64.wrap ((lx : Int) + (ly : Int)) = (lz : Int) := by rw [IntWalk.i64_in _ (by omega)]; omega
  have HLZ := Lib.hid hlz
  have hlzb : lz ≤ 2000 := by omega
  obtain ⟨w1, hrun, hz1, hw1⟩ := run_clearW bz oz N lz cz 126 0 Tryz.underlying126 w hA hfit
  have H1 := Lib.hid (And.intro hz1 hw1)
  clear hz1 hw1 hX hY hlx hly hlz
  have c2 : (lz : Int) ≤ (cz : Int) := by omega
  have c3 : (0 : Int) ≤ (lz : Int) := by omega
  go_enter Tryz.func212, Tryz.ntmps212
  go_wp2_with fail
  go_loopw [6, 7, 17] (fun _ _ iv wr => ∃ (k : Nat) (zs : List Nat), k ≤ ly ∧ iv = .int .i64 (k : Int) ∧ zs.length = lz ∧ (∀ d ∈ zs, d < M) ∧ (∀ d ∈ zs.drop (lx + k), d = 0) ∧ Pl.val M zs = Pl.val M xs * Pl.val M (ys.take k) ∧ WAt wr bz oz zs ∧ Wr w wr bz oz lz) (fun _ _ iv _ => ly - (intOf iv).toNat)
  case atStart =>
    refine ⟨0, List.replicate lz 0, Nat.zero_le _, rfl, List.length_replicate, ?_, ?_, ?_, H1.out.1, H1.out.2⟩
    · intro d hd; rw [(List.mem_replicate.1 hd).2]; exact M_pos
    · intro d hd; exact (List.mem_replicate.1 (List.mem_of_mem_drop hd)).2
    · rw [Pl.val_zeros M _ (fun d hd => (List.mem_replicate.1 hd).2)]; simp [Pl.val]
  case round =>
    obtain ⟨k, zs, hk, rfl, hzl, hzlt, hzz, hzv, hza, hzw⟩ := hrel
    by_cases hkl : k < ly
    · have hky : k < ys.length := by rw [HLY.out]; exact hkl
      obtain ⟨y, hy⟩ : ∃ y, ys[k] = y := ⟨_, rfl⟩
      have hyM : y < M := by rw [← hy]; exact hyl _ (List.getElem_mem _)
      have hcy : wr.cell? ⟨by_, oy + k, none⟩ = some (.int .u64 (y : Int)) := by
        have := (hzw.at HY.out (by rw [HLY.out]; omega)) k hky
        rwa [hy] at this
      have htv := take_snoc_val (b := M) hky hy
      by_cases hy0 : y = 0
      · subst hy0
        have hrel : Pl.val M zs = Pl.val M xs * Pl.val M (ys.take (k + 1)) := by rw [htv, Nat.mul_zero, Nat.add_zero]; exact hzv
        have HR := Lib.hid (And.intro hrel (And.intro hzl (And.intro hzlt (And.intro hzz (And.intro hza hzw)))))
        clear hrel hzl hzlt hzz hza hzw hzv htv hy
        go_wp2
        go_roundw
        case rel =>
          obtain ⟨r1, r2, r3, r4, r5, r6⟩ := HR.out
          refine ⟨k + 1, zs, by omega, by go_num, r2, r3, ?_, r1, r5, r6⟩
          intro d hd
          rw [← Nat.add_assoc, ← List.drop_drop] at hd
          exact r4 d (List.mem_of_mem_drop hd)
        case measure => simp [intOf]; omega
      · have hSl : ((zs.drop k).take lx).length = lx := by rw [List.length_take, List.length_drop, hzl]; have := HLZ.out; omega
        have hAr := hzw.arr _ hA
        have hADD : ∀ W, Below wr.heap.size wr W → Calls Tryz.prog 230 #[.slice (some ⟨bz, oz + k, none⟩) lx (cz - k), .slice (some ⟨bz, oz + k, none⟩) lx (cz - k), .slice (some ⟨bx, ox, none⟩) lx cx, .int .u64 (y : Int), .int .u64 0] W fun e w' =>
            e = .returned (.int .u64 (((Pl.addMulV M ((zs.drop k).take lx) xs y 0).2 : Nat) : Int)) ∧ WAt w' bz (oz + k) (Pl.addMulV M ((zs.drop k).take lx) xs y 0).1 ∧ Wr wr w' bz (oz + k) lx := by
          intro W hb
          have h := addMul_at bz (oz + k) (cz - k) bz (oz + k) (cz - k) bx ox cx N ((zs.drop k).take lx) xs y 0 W (by rw [hSl]; omega) (by rw [hSl, HLX.out]) (hAr.below hb) (by rw [hSl]; have := HLZ.out; omega) hyM M_pos
            (fun d hd => hzlt d (List.mem_of_mem_drop (List.mem_of_mem_take hd))) hxl (((hza.drop k (by have := HLZ.out; omega)).take lx).below hb) (Or.inr (Or.inl (Nat.le_refl _))) ((hzw.at HX.out (by rw [HLX.out]; omega)).below hb) (by rw [hSl]; have := HLZ.out; omega)
          rw [hSl] at h
          refine h.mono ?_
          rintro e w' ⟨h1, h2, h3⟩
          exact ⟨h1, h2, (Wr.of_below hb bz (oz + k) lx).trans h3 (by omega) (by omega) (by omega) (by omega)⟩
        have hrv := Pl.row_val (b := M) (lx := lx) (i := k) (d := y) (zs := zs) (xs := xs) HLX.out (by have := HLZ.out; omega) hzz
        have hR1 := Pl.addMulV_len M ((zs.drop k).take lx) xs y 0 (by rw [hSl, HLX.out])
        have hR2 := Pl.addMulV_lt M M_pos ((zs.drop k).take lx) xs y 0
        have hR3 := Pl.addMulV_c M ((zs.drop k).take lx) xs y 0 (fun d hd => hzlt d (List.mem_of_mem_drop (List.mem_of_mem_take hd))) hxl hyM M_pos
        obtain ⟨R, hR⟩ : ∃ R, (Pl.addMulV M ((zs.drop k).take lx) xs y 0).1 = R := ⟨_, rfl⟩
        obtain ⟨rc, hrc⟩ : ∃ R, (Pl.addMulV M ((zs.drop k).take lx) xs y 0).2 = R := ⟨_, rfl⟩
        rw [hR, hrc] at hADD hrv
        rw [hR, hSl] at hR1
        rw [hR] at hR2
        rw [hrc] at hR3
        obtain ⟨e, he⟩ : ∃ e, lx + k = e := ⟨_, rfl⟩
        have hfin : ∀ w8, WAt w8 bz (oz + k) R → Wr wr w8 bz (oz + k) lx → ∃ zs', zs'.length = lz ∧ (∀ d ∈ zs', d < M) ∧ (∀ d ∈ zs'.drop (lx + (k + 1)), d = 0) ∧ Pl.val M zs' = Pl.val M xs * Pl.val M (ys.take (k + 1)) ∧ WAt (w8.setCell ⟨bz, oz + e, none⟩ (.int .u64 (rc : Int))) bz oz zs' ∧ Wr w (w8.setCell ⟨bz, oz + e, none⟩ (.int .u64 (rc : Int))) bz oz lz := by
          intro w8 h1 h2
          have hlk : e < lz := by have := HLZ.out; omega
          have hpre : (zs.take k ++ R).length = e := by simp [hR1, hzl]; omega
          have hlen : (zs.take k ++ R ++ [rc]).length = e + 1 := by rw [List.length_append, hpre]; rfl
          rw [he] at hrv hzz
          have h8 : WAt w8 bz oz (zs.take k ++ R ++ zs.drop e) := by
            refine WAt.join (WAt.join (h2.at (hza.take k) (Or.inr (Or.inl ?_))) ?_ h1) hpre (h2.at (hza.drop e (by omega)) (Or.inr (Or.inr ?_)))
            · rw [List.length_take]; omega
            · rw [List.length_take]; omega
            · omega
          rw [List.drop_eq_getElem_cons (show e < zs.length by omega)] at h8
          have h9 := WAt.put_mid (v := rc) h8 (h2.arr _ hAr) (by rw [hpre]; omega)
          rw [hpre] at h9
          refine ⟨zs.take k ++ R ++ [rc] ++ zs.drop (e + 1), ?_, ?_, ?_, ?_, ?_, ?_⟩
          · rw [List.length_append, hlen, List.length_drop, hzl]; omega
          · intro d hd
            rcases List.mem_append.1 hd with hd | hd
            · rcases List.mem_append.1 hd with hd | hd
              · rcases List.mem_append.1 hd with hd | hd
                · exact hzlt d (List.mem_of_mem_take hd)
                · exact hR2 d hd
              · rw [List.mem_singleton] at hd; rw [hd]; exact hR3
            · exact hzlt d (List.mem_of_mem_drop hd)
          · intro d hd
            rw [List.drop_left' (by rw [hlen]; omega), ← List.drop_drop] at hd
            exact hzz d (List.mem_of_mem_drop hd)
          · rw [hrv, htv, hzv, Nat.mul_add]
            congr 1
            rw [← Nat.mul_assoc, ← Nat.mul_assoc, Nat.mul_comm (M ^ k)]
          · rw [List.append_assoc]; exact h9
          · exact (hzw.trans h2 (Nat.le_refl _) (Nat.le_refl _) (by omega) (by omega)).trans (Wr.put hlk _) (Nat.le_refl _) (Nat.le_refl _) (Nat.le_refl _) (Nat.le_refl _)
        have HFIN := Lib.hid hfin
        have HADD := Lib.hid hADD
        have HAR := Lib.hid hAr
        have hej : e - k = lx := by omega
        have i1 : IntKind.i64.wrap ((lx : Int) + (k : Int)) = (e : Int) := by rw [IntWalk.i64_in _ (by omega)]; omega
        have i2 : IntKind.i64.wrap ((k : Int) + (lx : Int)) = (e : Int) := by rw [IntWalk.i64_in _ (by omega)]; omega
        have b1 : k ≤ e := by omega
        have b2 : e ≤ cz := by have := HLZ.out; omega
        have b3 : e < lz := by have := HLZ.out; omega
        have b4 : (k : Int) ≤ (e : Int) := by omega
        have b5 : (e : Int) ≤ (cz : Int) := by omega
        have b6 : (e : Int) < (lz : Int) := by omega
        have b7 : (0 : Int) ≤ (e : Int) := by omega
        have b8 : (0 : Int) ≤ (k : Int) := by omega
        have b9 : ¬ cz = k := by omega
        have hyb : ((y : Int) != 0) = true := by rw [bne_iff_ne]; omega
        have HE := Lib.hid he
        clear hADD hfin hrv hR1 hR2 hR3 hR hrc hzl hzlt hzz hza hzw hzv htv hy hAr hSl he
        go_wp2_with fail
        go_region_with (first
          | (go_at_call 230; refine (HADD.out _ (by first | exact Below.refl _ _ | exact (Below.refl _ _).drew | exact below_drewN (Below.refl _ _) _)).mono ?_; rintro e9 w8 ⟨rfl, hr8, hw8⟩; obtain ⟨⟨u8, hu8⟩, hf8⟩ := (hw8.arr _ HAR.out).has (i := oz + e) (by omega)))
        have H9 := Lib.hid (HFIN.out _ hr8 hw8)
        clear hr8 hw8 hu8 hf8
        go_wp2
        go_roundw
        case rel =>
          obtain ⟨zs', r1, r2, r3, r4, r5, r6⟩ := H9.out
          exact ⟨k + 1, zs', by omega, by go_num, r1, r2, r3, r4, r5, r6⟩
        case measure => simp [intOf]; omega
    · obtain rfl : k = ly := by omega
      rw [List.take_of_length_le (by rw [HLY.out]; exact Nat.le_refl _)] at hzv
      have HF := Lib.hid (show ValBack bz oz lz (Pl.val M xs * Pl.val M ys) w wr from ⟨zs, hzl, hzlt, hzv, hza, hzw⟩)
      clear hzl hzlt hzz hzv hza hzw
      go_wp2
      go_end0
      exact ⟨rfl, HF.out⟩
set_option maxRecDepth 100000 in
theorem alias_nil (Y : Value) (w : World) : Calls Tryz.prog 192 #[.slice none 0 0, Y] w fun e w' => e = .returned (.bool false) ∧ ∃ q, w' = w.drewN q := by
  go_enter Tryz.func192, Tryz.ntmps192
  go_wp2_with fail
  go_quiet (fail)
  go_wp2
  go_ret
  exact ⟨rfl, _, rfl⟩
set_option maxRecDepth 100000 in
set_option maxHeartbeats 1000000 in
theorem alias_other (a oa la ca b ob lb cb N N' : Nat) (w : World) (hA : Arr w a N) (hB : Arr w b N') (h1 : 0 < ca) (h2 : 0 < cb) (hc1 : ca ≤ maxLen) (hc2 : cb ≤ maxLen) (hne : a ≠ b ∨ oa + (ca - 1) ≠ ob + (cb - 1)) :
    Calls Tryz.prog 192 #[.slice (some ⟨a, oa, none⟩) la ca, .slice (some ⟨b, ob, none⟩) lb cb] w fun e w' => e = .returned (.bool false) ∧ ∃ q, w' = w.drewN q := by
  unfold maxLen at hc1 hc2
  have hE : ∀ n, (binOp .eql 239 (.pointer (some ⟨a, oa + (ca - 1), none⟩)) (.pointer (some ⟨b, ob + (cb - 1), none⟩))).run Tryz.prog (w.drewN n) = .ok (.bool false) (w.drewN n) := by
    intro n
    obtain ⟨i0, hi, _, hz1, _⟩ := info_parts info179
    obtain ⟨l, h1, _⟩ := hA.drewN n
    obtain ⟨l', h2, _⟩ := hB.drewN n
    exact run_eql_ptr_other _ under239 hi (by rw [hz1]; decide) (fun e => by injection e with e1 e2; rcases hne with h | h; exact h e1; exact h e2) h1 h2
  have i1 : IntKind.i64.wrap ((ca : Int) - 1) = ((ca - 1 : Nat) : Int) := by rw [IntWalk.i64_in _ (by omega)]; omega
  have i2 : IntKind.i64.wrap ((cb : Int) - 1) = ((cb - 1 : Nat) : Int) := by rw [IntWalk.i64_in _ (by omega)]; omega
  have b1 : (0 : Int) < (ca : Int) := by omega
  have b2 : (0 : Int) < (cb : Int) := by omega
  have b3 : ca - 1 < ca := by omega
  have b4 : cb - 1 < cb := by omega
  obtain ⟨ea, hea⟩ : ∃ e, ca - 1 = e := ⟨_, rfl⟩
  obtain ⟨eb, heb⟩ : ∃ e, cb - 1 = e := ⟨_, rfl⟩
  rw [hea] at hE i1 b3
  rw [heb] at hE i2 b4
  have b5 : (ea : Int) < (ca : Int) := by omega
  have b6 : (eb : Int) < (cb : Int) := by omega
  have b7 : (0 : Int) ≤ (ea : Int) := by omega
  have b8 : (0 : Int) ≤ (eb : Int) := by omega
  have b9 : ca ≠ 0 := by omega
  have b10 : cb ≠ 0 := by omega
  clear hea heb hne hA hB
  go_enter Tryz.func192, Tryz.ntmps192
  go_wp2_with fail
  go_quiet (fail)
  go_wp2
  go_ret
  exact ⟨rfl, _, rfl⟩
structure NatW (w : World) (b c : Nat) (ws : List Nat) : Prop where
  arr : Arr w b c
  at_ : WAt w b 0 ws
  fit : ws.length ≤ c
  cap : c ≤ maxLen
theorem NatW.chg {w w' : World} {b c : Nat} {ws : List Nat} {S : Nat → Nat → Prop} (h : NatW w b c ws) (hc : Chg w w' S) (hs : ∀ off, ¬ S b off) : NatW w' b c ws :=
  ⟨hc.arr _ _ h.arr, hc.at h.at_ (fun _ _ => hs _), h.fit, h.cap⟩
theorem NatW.below {w w' : World} {b c : Nat} {ws : List Nat} (h : NatW w b c ws) (hb : Below w.heap.size w w') : NatW w' b c ws :=
  ⟨h.arr.below hb, h.at_.below hb, h.fit, h.cap⟩
theorem NatW.drewN {w : World} {b c : Nat} {ws : List Nat} (h : NatW w b c ws) (k : Nat) : NatW (w.drewN k) b c ws := ⟨h.arr, h.at_, h.fit, h.cap⟩
theorem NatW.old {w : World} {b c : Nat} {ws : List Nat} (h : NatW w b c ws) : Old w (some ⟨b, 0, none⟩) c := Or.inr ⟨b, rfl, h.arr, h.cap⟩
def NatBk (w : World) (A : Option Addr) (S : Nat → Nat → Prop) (ws : List Nat) (e : Ending) (w' : World) : Prop :=
  ∃ g c', e = .returned (.slice (some ⟨g, 0, none⟩) ws.length c') ∧ NatW w' g c' ws ∧ (A = some ⟨g, 0, none⟩ ∨ w.heap.size ≤ g) ∧ Chg w w' (fun b off => A = some ⟨b, 0, none⟩ ∨ S b off)
theorem Chg.drewN {w w' : World} {S : Nat → Nat → Prop} (h : Chg w w' S) (k : Nat) : Chg w (w'.drewN k) S :=
  ⟨h.os, h.tape, h.output, h.size, h.cell, fun b N hN => h.arr b N hN, h.blk⟩
theorem Old.below {w w' : World} {A : Option Addr} {c : Nat} (h : Old w A c) (hb : Below w.heap.size w w') : Old w' A c := by
  rcases h with h | ⟨b, h1, h2, h3⟩
  · exact Or.inl h
  · exact Or.inr ⟨b, h1, h2.below hb, h3⟩
theorem Old.chg {w w' : World} {A : Option Addr} {c : Nat} {S : Nat → Nat → Prop} (h : Old w A c) (hc : Chg w w' S) : Old w' A c := by
  rcases h with h | ⟨b, h1, h2, h3⟩
  · exact Or.inl h
  · exact Or.inr ⟨b, h1, hc.arr _ _ h2, h3⟩
set_option maxRecDepth 100000 in
theorem set_any (A : Option Addr) (n c bx ox lx cx : Nat) (xs : List Nat) (w : World) (hO : Old w A c) (hn : n ≤ c) (hX : WAt w bx ox xs) (hlx : xs.length = lx) (h0 : 0 < lx) (hl : lx ≤ 100000) (hs : A ≠ some ⟨bx, 0, none⟩) :
    Calls Tryz.prog 171 #[.slice A n c, .slice (some ⟨bx, ox, none⟩) lx cx] w (NatBk w A (fun _ _ => False) xs) := by
  have HM := Lib.hid (makeW_any A n c lx w hO hn (by omega) (by omega))
  have HX := Lib.hid hX
  have hxb := hX.lt (by omega)
  have HS := Lib.hid hs
  have HLX := Lib.hid hlx
  clear hX hO hs hlx
  go_enter Tryz.func171, Tryz.ntmps171
  go_wp2_with fail
  refine HM.out.mono ?_; rintro e w1 ⟨g, c', rfl, hm1, hm2, hA1, hb1, hor⟩
  have hne : bx ≠ g := by
    rintro rfl
    rcases hor with ⟨h, _⟩ | ⟨h, _⟩
    · exact HS.out h
    · omega
  have hX1 := HX.out.below hb1
  have HF : Hid (∀ w2, WAt w2 g 0 xs → Wr w1 w2 g 0 lx → NatBk w A (fun _ _ => False) xs (.returned (.slice (some ⟨g, 0, none⟩) lx c')) w2) := by
    refine Lib.hid (fun w2 h1 h2 => ⟨g, c', by rw [HLX.out], ⟨h2.arr _ hA1, h1, by rw [HLX.out]; exact hm1, hm2⟩, hor.imp (fun h => h.1) (fun h => h.1), ?_⟩)
    refine (Chg.of_below hb1 (fun _ _ => False)).trans (Chg.of_wr h2 h0) (fun _ _ h => h.elim) (fun b off hbl h => Or.inl ?_)
    rcases hor with ⟨h3, _⟩ | ⟨h3, _⟩
    · rw [h3, h.1]
    · have := h.1; omega
  obtain ⟨w2, hrun, hz2, hw2⟩ := run_copyW g 0 c' lx c' bx ox lx cx xs 126 126 3 Tryz.underlying126 w1 hA1 hX1 (by rw [HLX.out]; exact (Nat.min_self _).symm) (by rw [HLX.out]; omega)
  rw [HLX.out] at hrun hw2
  have H2 := Lib.hid (HF.out w2 hz2 hw2)
  clear hor hA1 hX1 hz2 hw2
  have hm3 : lx ≤ c' := hm1
  go_wp2
  go_ret
  exact H2.out
theorem getStack_any (w : World) : Calls Tryz.prog 180 #[] w fun e w' => ∃ p, e = .returned (.pointer (some ⟨p, 0, none⟩)) ∧ w.heap.size ≤ p ∧ StkAt w' p none none 0 0 ∧ Below w.heap.size w w' := by
  go_enter Tryz.func180, Tryz.ntmps180
  go_wp2
  go_ret
  exact ⟨_, rfl, Nat.le_refl _, ⟨Blk.new _ _ _, rfl, rfl, rfl⟩, (Below.refl _ _).alloc (Nat.le_refl _) _⟩
theorem innerFree_any (q : Nat) (A : Option Addr) (n c : Nat) (w : World) (hS : StkI w q A n c) :
    Calls Tryz.prog 199 #[.pointer (some ⟨q, 0, none⟩)] w fun e w' => e = .returned (.tuple #[]) ∧ w' = w.setCell ⟨q, 0, none⟩ (.slice A 0 c) := by
  have hcq := hS.inner.cell 0
  have hfq := hS.inner.frozen 0
  simp at hcq
  have hA : (A = none ∧ c = 0 ∧ n = 0) ∨ ∃ g, A = some ⟨g, 0, none⟩ := by
    rcases hS.arr with ⟨h1, h2, h3⟩ | ⟨g, h1, _⟩
    · exact Or.inl ⟨h1, h3, h2⟩
    · exact Or.inr ⟨g, h1⟩
  clear hS
  rcases hA with ⟨rfl, rfl, rfl⟩ | ⟨g, rfl⟩
  · go_enter Tryz.func199, Tryz.ntmps199
    go_wp2
    go_end0
    exact ⟨rfl, rfl⟩
  · go_enter Tryz.func199, Tryz.ntmps199
    go_wp2
    go_end0
    exact ⟨rfl, rfl⟩
theorem freeD_any (p : Nat) (q : Option Nat) (A : Option Addr) (n c : Nat) (u : FrameMode) (w : World) (hS : StkAt w p q A n c) :
    CallsD Tryz.prog 181 #[.pointer (some ⟨p, 0, none⟩)] u w fun e u' w' => u' = u ∧ (e = .returned (.tuple #[]) ∧ Chg w w' (fun b off => q = some b ∧ off = 0)) := by
  cases q with
  | none =>
    obtain ⟨hB, rfl, rfl, rfl⟩ := hS
    have hc := hB.cell 0
    simp at hc
    clear hB
    go_enter_d Tryz.func181, Tryz.ntmps181
    go_wp2
    go_end0
    exact ⟨rfl, Chg.refl _ _⟩
  | some q =>
    obtain ⟨hB, hI⟩ := hS
    have hc := hB.cell 0
    simp at hc
    have HI := Lib.hid (innerFree_any q A n c w hI)
    clear hB hI
    go_enter_d Tryz.func181, Tryz.ntmps181
    go_wp2_with fail
    refine HI.out.mono ?_; rintro e w2 ⟨rfl, hw2⟩
    go_wp2
    go_end0
    subst hw2
    exact ⟨rfl, (chg_set w q 0 _).mono fun b off _ h => ⟨by rw [h.1], h.2⟩⟩
def DivWBk (w : World) (b c V : Nat) (e : Ending) (w' : World) : Prop :=
  e = .returned (.tuple #[.slice (some ⟨b, 0, none⟩) (Pl.digs M (V / 10000000000000000000)).length c, .int .u64 ((V % 10000000000000000000 : Nat) : Int)]) ∧ NatW w' b c (Pl.digs M (V / 10000000000000000000)) ∧ Chg w w' (fun b' _ => b' = b)
set_option maxRecDepth 100000 in
set_option maxHeartbeats 1000000 in
theorem divW_any (b c V : Nat) (w : World) (hN : NatW w b c (Pl.digs M V)) (h0 : 0 < V) (hl : (Pl.digs M V).length ≤ 100000) :
    Calls Tryz.prog 203 #[.slice (some ⟨b, 0, none⟩) (Pl.digs M V).length c, .slice (some ⟨b, 0, none⟩) (Pl.digs M V).length c, .int .u64 10000000000000000000] w (DivWBk w b c V) := by
  have hlt := Pl.digs_lt M V M_two
  have hv := Pl.val_digs M V M_two
  obtain ⟨ws, hws⟩ : ∃ ws, Pl.digs M V = ws := ⟨_, rfl⟩
  rw [hws] at hN hl hlt hv ⊢
  have hn0 : 0 < ws.length := by
    rcases Nat.eq_zero_or_pos ws.length with h | h
    · rw [List.eq_nil_of_length_eq_zero h] at hv; simp [Pl.val] at hv; omega
    · exact h
  have hnz : ((ws.length : Int) == 0) = false := by rw [beq_eq_false_iff_ne]; omega
  have HMK := Lib.hid (makeW_any (some ⟨b, 0, none⟩) ws.length c ws.length w hN.old hN.fit (by omega) (by omega))
  have HD := Lib.hid (divVW_at b 0 c b 0 c c 10000000000000000000 0 ws w hn0 (by omega) (by omega) (by decide) (by rw [M_eq]; decide) hN.arr (by have := hN.fit; omega) hlt hN.at_ (Or.inr (Or.inl (Nat.le_refl _))))
  have hdv := Pl.divV_val M 10000000000000000000 ws 0
  have hdl := Pl.divV_len M 10000000000000000000 ws 0
  have hdt := Pl.divV_lt (b := M) (y := 10000000000000000000) ws 0 (by omega) hlt
  have hdr := Pl.divV_rest M (y := 10000000000000000000) ws 0 (by omega)
  obtain ⟨Q, hQ⟩ : ∃ Q, (Pl.divV M 10000000000000000000 ws 0).1 = Q := ⟨_, rfl⟩
  obtain ⟨R, hR⟩ : ∃ R, (Pl.divV M 10000000000000000000 ws 0).2 = R := ⟨_, rfl⟩
  rw [hQ, hR] at HD hdv
  rw [hQ] at hdl hdt
  rw [hR] at hdr
  rw [Nat.zero_mul, Nat.zero_add, hv] at hdv
  have hq : V / 10000000000000000000 = Pl.val M Q ∧ V % 10000000000000000000 = R := by omega
  have HN := Lib.hid (And.intro hN (And.intro hdl (And.intro hdt hq)))
  have hfit := hN.fit
  clear hN hdv hdl hdt hdr hq hQ hR hlt hv hws
  go_enter Tryz.func203, Tryz.ntmps203
  go_wp2_with fail
  refine HMK.out.mono ?_; rintro e w1 ⟨g, c', rfl, _, _, _, _, hor⟩
  obtain ⟨hg, rfl, rfl⟩ : g = b ∧ c' = c ∧ w1 = w := by
    rcases hor with ⟨h1, h2, _, h3⟩ | ⟨_, h⟩
    · injection h1 with h1; injection h1 with h1; exact ⟨h1.symm, h2, h3⟩
    · omega
  subst hg
  clear hor
  go_wp2_with fail
  refine HD.out.mono ?_; rintro e w2 ⟨rfl, hq2, hw2⟩
  obtain ⟨hN, hdl, hdt, hq, hr⟩ := HN.out
  have HNO := Lib.hid (normW_any g 0 c' ws.length Q w2 hdl hfit (by omega) hq2 hdt)
  have H2 := Lib.hid (And.intro hq2 hw2)
  clear hN hdl hdt hq hr hq2 hw2
  go_wp2_with fail
  refine HNO.out.mono ?_; rintro e w3 ⟨rfl, hn1, hn2, rfl⟩
  obtain ⟨hN, hdl, hdt, hq, hr⟩ := HN.out
  have hR : DivWBk w1 g c' V (.returned (.tuple #[.slice (some ⟨g, 0, none⟩) (Pl.digs M (Pl.val M Q)).length c', .int .u64 (R : Int)])) w2 := by
    refine ⟨by rw [hq, hr], ⟨H2.out.2.arr' hN.arr, ?_, by rw [hq]; omega, hN.cap⟩, (Chg.of_wr H2.out.2 hn0).mono (fun _ _ _ h => h.1)⟩
    rw [hq, ← hn2]
    exact H2.out.1.take _
  have HR := Lib.hid hR
  clear hN hdl hdt hq hr hn2 hR
  go_wp2
  exact bodyPost_ret (v := .tuple #[.slice (some ⟨g, 0, none⟩) (Pl.digs M (Pl.val M Q)).length c', .int .u64 (R : Int)]) (by simp [results, Tryz.results203, go_sem]) rfl HR.out
end Go.Proofs.YtgfkdjmoflbmdaaGreatDoor
