/- Contracts; Contracts; Contract; PLAIN; PLAIN; Contracts. -/
import Derived.Test.YtgfkdjmoflbmdaaGreatDoorRWgxWc
import Derived.Test.YtgfkdjmoflbmdaaGreatDoorRQaxPlJ
import Derived.Lib.ConvBytes
namespace Go.Proofs.YtgfkdjmoflbmdaaGreatDoor
open Go.RowKit
open Go.Proofs
def NoZ (s : ByteArray) : Prop := ∀ h : 0 < s.size, ((s[0].toNat : Int) == 0) = false
theorem numTidy_any (s : ByteArray) (w : World) (_hs : s.size ≤ 30000) (hno : NoZ s) :
    Calls Tryz.prog 103 #[.agg #[.bool false, .string s]] w fun e w' => e = .returned (.agg #[.bool false, .string s]) ∧ Below w.heap.size w w' := by
  by_cases h0 : 0 < s.size
  · have h1 := hno h0
    clear hno
    go_enter Tryz.func103, Tryz.ntmps103
    go_wp2
    apply wp_loop_once
    go_wp2
    exact bodyPost_ret (v := .agg #[.bool false, .string s]) (by simp [results, Tryz.results103, go_sem]) rfl ⟨rfl, by go_grown⟩
  · clear hno
    go_enter Tryz.func103, Tryz.ntmps103
    go_wp2
    apply wp_loop_once
    go_wp2
    exact bodyPost_ret (v := .agg #[.bool false, .string s]) (by simp [results, Tryz.results103, go_sem]) rfl ⟨rfl, by go_grown⟩
theorem IntOK_any (s : ByteArray) (w : World) (hs : s.size ≤ 30000) (hno : NoZ s) :
    Calls Tryz.prog 82 #[.agg #[.bool false, .string s]] w fun e w' => e = .returned (.bool true) ∧ Below w.heap.size w w' := by
  go_enter Tryz.func82, Tryz.ntmps82
  go_wp2
  have hc0 : (w.alloc (.cells #[.bool false, .string s] 46)).cell? ⟨w.heap.size, 0, none⟩ = some (.bool false) := by simp [go_sem]
  have hc1 : (w.alloc (.cells #[.bool false, .string s] 46)).cell? ⟨w.heap.size, 1, none⟩ = some (.string s) := by simp [go_sem]
  have hbW : Below w.heap.size w (w.alloc (.cells #[.bool false, .string s] 46)) := by go_grown
  have hlt : w.heap.size < (w.alloc (.cells #[.bool false, .string s] 46)).heap.size := by simp
  generalize w.alloc (.cells #[.bool false, .string s] 46) = W at hc0 hc1 hbW hlt ⊢
  go_region_held3 (fun w' => w'.cell? ⟨w.heap.size, 0, none⟩ = some (.bool false) ∧ w'.cell? ⟨w.heap.size, 1, none⟩ = some (.string s)) (first | go_keep | exact ⟨(hk1 _ _ hlt).trans hc0, (hk1 _ _ hlt).trans hc1⟩)
    (first | (go_at_call 103; refine (numTidy_any _ _ hs hno).mono ?_; rintro e w1 ⟨rfl, hb1⟩; obtain ⟨hk1, hk2⟩ := bcell hb1; have hz1 := hb1.size))
  go_wp2
  go_ret
  exact ⟨rfl, hbW.drew.trans (hb1.mono (Nat.le_of_lt hlt))⟩
def IntC (ns : List Nat) : List Value := ns.flatMap fun n => [.bool false, S (Pl.magOf n)]
theorem IntC_len (ns : List Nat) : (IntC ns).length = ns.length * 2 := by
  induction ns with
  | nil => rfl
  | cons n r ih => simp only [IntC, List.flatMap_cons, List.length_append, List.length_cons, List.length_nil] at ih ⊢; omega
theorem IntC_get (ns : List Nat) : ∀ k (h : k < ns.length), (IntC ns)[k * 2]? = some (.bool false) ∧ (IntC ns)[k * 2 + 1]? = some (S (Pl.magOf ns[k])) := by
  induction ns with
  | nil => intro k h; simp at h
  | cons n r ih =>
    intro k h
    cases k with
    | zero => simp [IntC]
    | succ k =>
      have := ih k (by simpa using h)
      have e : IntC (n :: r) = .bool false :: S (Pl.magOf n) :: IntC r := by simp [IntC]
      rw [e, show (k + 1) * 2 = k * 2 + 1 + 1 from by omega]
      simpa using this
theorem Rd.int_at {w : World} {A : Option Addr} {ns : List Nat} (h : Rd w 2 A ns.length (IntC ns)) {k : Nat} (hk : k < ns.length) :
    ∃ b o, A = some ⟨b, o, none⟩ ∧ w.cell? ⟨b, o + k * 2, none⟩ = some (.bool false) ∧ w.cell? ⟨b, o + k * 2 + 1, none⟩ = some (S (Pl.magOf ns[k])) := by
  obtain ⟨b, o, hA, hc⟩ := h.2 (by omega)
  obtain ⟨h1, h2⟩ := IntC_get ns k hk
  exact ⟨b, o, hA, hc _ _ h1, hc _ _ h2⟩
theorem NoZ_mag (n : Nat) : NoZ ⟨(Pl.magOf n).toArray⟩ := by
  intro h
  have hg := get_list ⟨(Pl.magOf n).toArray⟩ 0 h
  have := Pl.magOf_head n _ hg
  rw [beq_eq_false_iff_ne]
  omega
def TwoI (b : Nat) (x y : ByteArray) (w w' : World) : Prop := (w'.cell? ⟨b, 0, none⟩ = some (.bool false) ∧ w'.cell? ⟨b, 1, none⟩ = some (.string x) ∧ w'.cell? ⟨b + 1, 0, none⟩ = some (.bool false) ∧ w'.cell? ⟨b + 1, 1, none⟩ = some (.string y)) ∧
  Blk w' b 46 #[.bool false, .string x] ∧ Blk w' (b + 1) 46 #[.bool false, .string y] ∧ Below b w w'
theorem TwoI.mk {b : Nat} {x y : ByteArray} {w w' : World} (h1 : Blk w' b 46 #[.bool false, .string x]) (h2 : Blk w' (b + 1) 46 #[.bool false, .string y]) (h3 : Below b w w') : TwoI b x y w w' :=
  ⟨⟨by simpa using h1.cell 0, by simpa using h1.cell 1, by simpa using h2.cell 0, by simpa using h2.cell 1⟩, h1, h2, h3⟩
theorem TwoI.drew {b : Nat} {x y : ByteArray} {w w' : World} (h : TwoI b x y w w') : TwoI b x y w w'.drew := .mk h.2.1.drew h.2.2.1.drew h.2.2.2.drew
theorem TwoI.below {b : Nat} {x y : ByteArray} {w w' w1 : World} (h : TwoI b x y w w') (hb : Below w'.heap.size w' w1) : TwoI b x y w w1 :=
  .mk (h.2.1.below hb h.2.1.lt) (h.2.2.1.below hb h.2.2.1.lt) (h.2.2.2.trans (hb.mono (Nat.le_of_lt h.2.1.lt)))
theorem TwoI.set1 {b : Nat} {x y : ByteArray} {w w' : World} (h : TwoI b x y w w') : TwoI b x y w ((w'.setCell ⟨b, 0, none⟩ (.bool false)).setCell ⟨b, 1, none⟩ (.string x)) :=
  .mk ((h.2.1.set_ 0 _).set_ 1 _) ((h.2.2.1.far (by simp) _).far (by simp) _) ((h.2.2.2.setCell (Nat.le_refl _) _).setCell (Nat.le_refl _) _)
theorem TwoI.set2 {b : Nat} {x y : ByteArray} {w w' : World} (h : TwoI b x y w w') : TwoI b x y w ((w'.setCell ⟨b + 1, 0, none⟩ (.bool false)).setCell ⟨b + 1, 1, none⟩ (.string y)) :=
  .mk ((h.2.1.far (by simp) _).far (by simp) _) ((h.2.2.1.set_ 0 _).set_ 1 _) ((h.2.2.2.setCell (by simp) _).setCell (by simp) _)
theorem TwoI.all {b : Nat} {x y : ByteArray} {w w' : World} (h : TwoI b x y w w') : w'.cell? ⟨b, 0, none⟩ = some (.bool false) ∧ w'.cell? ⟨b, 1, none⟩ = some (.string x) ∧ w'.cell? ⟨b + 1, 0, none⟩ = some (.bool false) ∧ w'.cell? ⟨b + 1, 1, none⟩ = some (.string y) ∧
    w'.frozen? ⟨b, 0, none⟩ = false ∧ w'.frozen? ⟨b, 1, none⟩ = false ∧ w'.frozen? ⟨b + 1, 0, none⟩ = false ∧ w'.frozen? ⟨b + 1, 1, none⟩ = false ∧ TwoI b x y w w' :=
  ⟨h.1.1, h.1.2.1, h.1.2.2.1, h.1.2.2.2, h.2.1.frozen 0, h.2.1.frozen 1, h.2.2.1.frozen 0, h.2.2.1.frozen 1, h⟩
set_option maxHeartbeats 1000000 in
theorem intOrder_any (a b : ByteArray) (w : World) (ha : a.size ≤ 30000) (hb : b.size ≤ 30000) (hna : NoZ a) (hnb : NoZ b) :
    Calls Tryz.prog 104 #[.agg #[.bool false, .string a], .agg #[.bool false, .string b]] w fun e w' =>
      e = .returned (.int .i64 (Pl.ordMag a.data.toList b.data.toList)) ∧ Below w.heap.size w w' := by
  go_enter Tryz.func104, Tryz.ntmps104
  go_upto_region 1 with fail
  have hT : TwoI w.heap.size a b w ((w.alloc (.cells #[.bool false, .string a] 46)).alloc (.cells #[.bool false, .string b] 46)) := by
    refine .mk ((Blk.new _ _ _).alloc _) ?_ (by go_grown)
    have := Blk.new (w.alloc (.cells #[.bool false, .string a] 46)) 46 #[.bool false, .string b]
    rw [World.size_alloc] at this
    exact this
  generalize (w.alloc (.cells #[.bool false, .string a] 46)).alloc (.cells #[.bool false, .string b] 46) = W at hT ⊢
  go_cut [4] (fun s4 wx => s4 = .int .i64 0 ∧ TwoI w.heap.size a b w wx)
  case first =>
    go_region_held3 (fun w' => w'.cell? ⟨w.heap.size, 0, none⟩ = some (.bool false) ∧ w'.cell? ⟨w.heap.size, 1, none⟩ = some (.string a) ∧ w'.cell? ⟨w.heap.size + 1, 0, none⟩ = some (.bool false) ∧ w'.cell? ⟨w.heap.size + 1, 1, none⟩ = some (.string b) ∧ w'.frozen? ⟨w.heap.size, 0, none⟩ = false ∧ w'.frozen? ⟨w.heap.size, 1, none⟩ = false ∧ w'.frozen? ⟨w.heap.size + 1, 0, none⟩ = false ∧ w'.frozen? ⟨w.heap.size + 1, 1, none⟩ = false ∧ TwoI w.heap.size a b w w')
      (first | with_reducible exact hT.all | with_reducible exact hT.drew.all | with_reducible exact (TwoI.below (‹_ ∧ _ ∧ _ ∧ _ ∧ _ ∧ _ ∧ _ ∧ _ ∧ TwoI _ _ _ _ _›).2.2.2.2.2.2.2.2 hb1).all | with_reducible exact (TwoI.set1 (‹_ ∧ _ ∧ _ ∧ _ ∧ _ ∧ _ ∧ _ ∧ _ ∧ TwoI _ _ _ _ _›).2.2.2.2.2.2.2.2).all | with_reducible exact (TwoI.set2 (‹_ ∧ _ ∧ _ ∧ _ ∧ _ ∧ _ ∧ _ ∧ _ ∧ TwoI _ _ _ _ _›).2.2.2.2.2.2.2.2).all)
      (first
        | (go_at_call_of 103 (Value.agg #[Value.bool false, Value.string a]); refine (numTidy_any a _ ha hna).mono ?_; rintro e w1 ⟨rfl, hb1⟩)
        | (go_at_call_of 103 (Value.agg #[Value.bool false, Value.string b]); refine (numTidy_any b _ hb hnb).mono ?_; rintro e w1 ⟨rfl, hb1⟩))
    all_goals (go_wp2_with fail; go_meet; exact ⟨rfl, (‹_ ∧ _ ∧ _ ∧ _ ∧ _ ∧ _ ∧ _ ∧ _ ∧ TwoI _ _ _ _ _›).2.2.2.2.2.2.2.2⟩)
  case rest =>
    obtain ⟨rfl, hT2⟩ := hcut
    obtain ⟨h1, h2, h3, h4, _, _, _, _, hT3⟩ := hT2.all
    have hbel := hT3.2.2.2
    clear hT hT2 hT3
    by_cases he : a.size = b.size
    · have he1 : ((a.size : Int) != (b.size : Int)) = false := by simp [he]
      have HE := Lib.hid he
      clear he
      go_wp2_with (first | (go_at_call 62; refine (order_any _ _ _).mono ?_; rintro e w' ⟨rfl, rfl⟩) | (go_at_call 73; refine (orderInts_any _ _ _).mono ?_; rintro e w' ⟨rfl, rfl⟩))
      go_ret
      exact ⟨ret_int (by rw [Pl.ordMag, len_list, len_list, if_pos HE.out]), hbel⟩
    · have he1 : ((a.size : Int) != (b.size : Int)) = true := by rw [bne_iff_ne]; omega
      go_wp2_with (first | (go_at_call 62; refine (order_any _ _ _).mono ?_; rintro e w' ⟨rfl, rfl⟩) | (go_at_call 73; refine (orderInts_any _ _ _).mono ?_; rintro e w' ⟨rfl, rfl⟩))
      go_ret
      exact ⟨ret_int (by rw [Pl.ordMag, len_list, len_list, if_neg he]), hbel⟩
set_option maxRecDepth 100000 in
set_option maxHeartbeats 1000000 in
theorem addVVg_any (b o cz bx ox cx by_ oy cy : Nat) (xs ys : List Nat) (l : List Value) (w : World) (hl : xs.length ≤ 1000000) (hlen : ys.length = xs.length) (hB : Blk w b 179 l.toArray) (hfit : o + xs.length ≤ l.length)
    (hxlt : ∀ d ∈ xs, d < M) (hylt : ∀ d ∈ ys, d < M) (hX : Src w b o xs.length bx ox xs) (hY : Src w b o xs.length by_ oy ys) :
    Calls Tryz.prog 271 #[.slice (some ⟨b, o, none⟩) xs.length cz, .slice (some ⟨bx, ox, none⟩) xs.length cx, .slice (some ⟨by_, oy, none⟩) xs.length cy] w fun e w' =>
      e = .returned (.int .u64 (((Pl.addV M xs ys 0).2 : Nat) : Int)) ∧ Blk w' b 179 (splice l o (WC (Pl.addV M xs ys 0).1)).toArray ∧ w.grownBy w' (some b) := by
  have HX := Lib.hid hX
  have HY := Lib.hid hY
  have HB := Lib.hid hB
  have HXL := Lib.hid hxlt
  have HYL := Lib.hid hylt
  clear hX hY hB hxlt hylt
  obtain ⟨R, hR⟩ : ∃ R, Pl.addV M xs ys 0 = R := ⟨_, rfl⟩
  rw [hR]
  have HR := Lib.hid hR
  clear hR
  go_enter Tryz.func271, Tryz.ntmps271
  go_wp2
  go_loopw [6, 7, 8, 9, 25] (fun cv _ _ _ iv wr => ∃ (k cc : Nat) (done : List Nat), k ≤ xs.length ∧ iv = .int .i64 (k : Int) ∧ cv = .int .u64 (cc : Int) ∧ cc ≤ 1 ∧ done.length = k ∧ Blk wr b 179 (splice l o (WC done)).toArray ∧
    done ++ (Pl.addV M (xs.drop k) (ys.drop k) cc).1 = R.1 ∧ (Pl.addV M (xs.drop k) (ys.drop k) cc).2 = R.2 ∧ w.grownBy wr (some b)) (fun _ _ _ _ iv _ => xs.length - (intOf iv).toNat)
  case atStart => exact ⟨0, 0, [], Nat.zero_le _, rfl, rfl, by omega, rfl, by simpa [WC, splice_nil] using HB.out, by rw [← HR.out]; simp, by rw [← HR.out]; simp, World.grownBy.refl _ _⟩
  case round =>
    obtain ⟨k, cc, done, hk, rfl, rfl, hcc, hdn, hblk, h1, h2, hgr⟩ := hrel
    have H1 := Lib.hid h1
    have H2 := Lib.hid h2
    have HDN := Lib.hid hdn
    have hzf : o + (WC done).length ≤ l.length := by rw [WC_len, hdn]; omega
    have HZF := Lib.hid hzf
    clear h1 h2 hdn hzf
    by_cases hkl : k < xs.length
    · have cx := HX.out.read HB.out hblk hgr HZF.out hkl (by rw [WC_len, HDN.out]; exact Nat.le_refl _)
      have cy := HY.out.read HB.out hblk hgr HZF.out (k := k) (by omega) (by rw [WC_len, HDN.out]; exact Nat.le_refl _)
      have hdx : xs.drop k = xs[k] :: xs.drop (k + 1) := List.drop_eq_getElem_cons hkl
      have hdy : ys.drop k = ys[k] :: ys.drop (k + 1) := List.drop_eq_getElem_cons (by omega)
      have HDX := Lib.hid hdx
      have hxM := HXL.out xs[k] (List.getElem_mem hkl)
      have hyM := HYL.out ys[k] (List.getElem_mem (by omega))
      have HDY := Lib.hid hdy
      obtain ⟨x, hx⟩ : ∃ x, xs[k] = x := ⟨_, rfl⟩
      obtain ⟨y, hy⟩ : ∃ y, ys[k] = y := ⟨_, rfl⟩
      rw [hx] at cx HDX hxM
      rw [hy] at cy HDY hyM
      clear hdx hdy hx hy
      have hz : ∃ u, wr.cell? ⟨b, o + k, none⟩ = some u := by
        rw [hblk.cell (o + k)]
        refine ⟨_, Array.getElem?_eq_getElem (h := ?_)⟩
        have h0 := splice_len HZF.out
        simp only [List.size_toArray]
        omega
      obtain ⟨u, hz⟩ := hz
      have hzz := hblk.frozen (o + k)
      obtain ⟨d, hd⟩ : ∃ d : Nat, (x + y + cc) % M = d := ⟨_, rfl⟩
      obtain ⟨q, hq⟩ : ∃ q : Nat, (x + y + cc) / M = q := ⟨_, rfl⟩
      have hq1 : q ≤ 1 := by rw [← hq]; exact Pl.add_carry hxM hyM hcc
      have HS := Lib.hid (fun W => AddC_any x y cc hcc W)
      rw [hd, hq] at HS
      have HD := Lib.hid hd
      have HQ := Lib.hid hq
      clear hd hq
      go_wp2
      go_quiet ((go_at_call 244; exact quiet_left (HS.out _)))
      go_wp2
      go_roundw
      case rel =>
        have e1 := H1.out
        have e2 := H2.out
        rw [HDX.out, HDY.out, Pl.addV_cons, HD.out, HQ.out] at e1 e2
        have hs := splice_up (l := l) (o := o) (zs := WC done) (by rw [WC_len, HDN.out]; omega) (.int .u64 (d : Int))
        rw [WC_len, HDN.out] at hs
        refine ⟨k + 1, q, done ++ [d], by omega, by go_num, rfl, hq1, by simp [HDN.out], ?_, by simpa using e1, e2, ?_⟩
        · rw [WC_snoc, ← hs]
          exact (hblk.drewN _).set_ _ _
        · exact (grown_dr hgr _).trans (grown_set _ _ _ _)
      case measure => simp [intOf]; omega
    · obtain rfl : k = xs.length := by omega
      go_wp2
      go_ret
      have e1 := H1.out
      have e2 := H2.out
      rw [List.drop_length] at e1 e2
      simp only [Pl.addV, List.append_nil] at e1 e2
      subst e1
      exact ⟨ret_int (by rw [e2]), hblk, hgr⟩
theorem subVV_any (b o cz bx ox cx by_ oy cy : Nat) (xs ys : List Nat) (l : List Value) (w : World) (hl : xs.length ≤ 1000000) (hlen : ys.length = xs.length) (hB : Blk w b 179 l.toArray) (hfit : o + xs.length ≤ l.length)
    (hX : Src w b o xs.length bx ox xs) (hY : Src w b o xs.length by_ oy ys) :
    Calls Tryz.prog 274 #[.slice (some ⟨b, o, none⟩) xs.length cz, .slice (some ⟨bx, ox, none⟩) xs.length cx, .slice (some ⟨by_, oy, none⟩) xs.length cy] w fun e w' =>
      e = .returned (.int .u64 (((Pl.subV M xs ys 0).2 : Nat) : Int)) ∧ Blk w' b 179 (splice l o (WC (Pl.subV M xs ys 0).1)).toArray ∧ w.grownBy w' (some b) := by
  have HC := Lib.hid (subVVg_any b o cz bx ox cx by_ oy cy xs ys l w hl hlen hB hfit hX hY)
  clear hX hY hB
  go_enter Tryz.func274, Tryz.ntmps274
  go_wp2_with fail
  refine HC.out.mono ?_; rintro e w1 ⟨rfl, h1, h2⟩
  go_wp2
  go_ret
  exact ⟨rfl, h1, h2⟩
theorem addVV_any (b o cz bx ox cx by_ oy cy : Nat) (xs ys : List Nat) (l : List Value) (w : World) (hl : xs.length ≤ 1000000) (hlen : ys.length = xs.length) (hB : Blk w b 179 l.toArray) (hfit : o + xs.length ≤ l.length)
    (hxlt : ∀ d ∈ xs, d < M) (hylt : ∀ d ∈ ys, d < M) (hX : Src w b o xs.length bx ox xs) (hY : Src w b o xs.length by_ oy ys) :
    Calls Tryz.prog 235 #[.slice (some ⟨b, o, none⟩) xs.length cz, .slice (some ⟨bx, ox, none⟩) xs.length cx, .slice (some ⟨by_, oy, none⟩) xs.length cy] w fun e w' =>
      e = .returned (.int .u64 (((Pl.addV M xs ys 0).2 : Nat) : Int)) ∧ Blk w' b 179 (splice l o (WC (Pl.addV M xs ys 0).1)).toArray ∧ w.grownBy w' (some b) := by
  have HC := Lib.hid (addVVg_any b o cz bx ox cx by_ oy cy xs ys l w hl hlen hB hfit hxlt hylt hX hY)
  clear hX hY hB
  go_enter Tryz.func235, Tryz.ntmps235
  go_wp2_with fail
  refine HC.out.mono ?_; rintro e w1 ⟨rfl, h1, h2⟩
  go_wp2
  go_ret
  exact ⟨rfl, h1, h2⟩
structure LowSt (w : World) (g sz : Nat) (l : Pl.Bytes) (wr : World) : Prop where
  blk : ∃ cs, wr.heap[g]? = some (.cells cs 5 (sz, sz + 1)) ∧ cs.size = sz ∧ ∀ j (h : j < l.length), cs[j]? = some (.int .u8 ((l[j].toNat : Nat) : Int))
  len : l.length ≤ sz
  bel : Below g w wr
theorem LowSt.cell {w wr : World} {g sz : Nat} {l : Pl.Bytes} (h : LowSt w g sz l wr) {j : Nat} (hj : j < l.length) : wr.cell? ⟨g, j, none⟩ = some (.int .u8 ((l[j].toNat : Nat) : Int)) := by
  obtain ⟨cs, h1, h2, h3⟩ := h.blk
  rw [cell_of_row wr g j cs 5 _ h1]; exact h3 j hj
theorem LowSt.frozen {w wr : World} {g sz : Nat} {l : Pl.Bytes} (h : LowSt w g sz l wr) {j : Nat} (hj : j < l.length) : wr.frozen? ⟨g, j, none⟩ = false := by
  obtain ⟨cs, h1, h2, h3⟩ := h.blk
  have := h.len
  simp [World.frozen?, h1]
  omega
theorem LowSt.rd {w wr : World} {g sz : Nat} {l : Pl.Bytes} (h : LowSt w g sz l wr) : Rd wr 1 (some ⟨g, 0, none⟩) l.length (B8 (l.map UInt8.toNat)) := by
  refine ⟨by simp [B8], fun _ => ⟨g, 0, rfl, fun j u hu => ?_⟩⟩
  have hj : j < l.length := by have := (List.getElem?_eq_some_iff.1 hu).1; simpa [B8] using this
  rw [Nat.zero_add, h.cell hj, ← hu]
  simp [B8, hj]
theorem LowSt.set_ {w wr : World} {g sz : Nat} {a b : Pl.Bytes} {c d : UInt8} (h : LowSt w g sz (a ++ c :: b) wr) : LowSt w g sz (a ++ d :: b) (wr.setCell ⟨g, a.length, none⟩ (.int .u8 ((d.toNat : Nat) : Int))) := by
  obtain ⟨cs, h1, h2, h3⟩ := h.blk
  have hl := h.len
  refine ⟨⟨cs.setIfInBounds a.length (.int .u8 ((d.toNat : Nat) : Int)), ?_, by simp [h2], fun j hj => ?_⟩, by simpa using hl, h.bel.setCell (Nat.le_refl _) _⟩
  · simp [World.setCell, Array.getElem?_modify, h1]
  · rw [Array.getElem?_setIfInBounds]
    have hj2 : j < (a ++ c :: b).length := by simpa using hj
    have hcs := h3 j hj2
    by_cases hja : a.length = j
    · subst hja
      rw [if_pos rfl, if_pos (by rw [h2]; simp at hl; omega)]
      simp
    · rw [if_neg hja, hcs]
      congr 4
      rcases Nat.lt_or_ge j a.length with hlt | hge
      · rw [List.getElem_append_left hlt, List.getElem_append_left hlt]
      · rw [List.getElem_append_right hge, List.getElem_append_right hge]
        obtain ⟨m, hm⟩ : ∃ m, j - a.length = m + 1 := ⟨j - a.length - 1, by omega⟩
        simp [hm]
theorem lowSt_start (s : ByteArray) (w : World) : LowSt w w.heap.size (Lib.bytesCells w 5 s).size s.data.toList (Lib.bytesWorld w 5 s) := by
  refine ⟨⟨_, Lib.bytesWorld_at_new w 5 s, rfl, fun j hj => ?_⟩, ?_, ⟨rfl, rfl, rfl, by rw [Lib.bytesWorld_size]; omega, fun k hk => Lib.bytesWorld_at_old w 5 s k hk⟩⟩
  · rw [len_list] at hj
    have := Lib.bytesWorld_cell w 5 s j hj
    rw [cell_of_row _ _ j _ 5 _ (Lib.bytesWorld_at_new w 5 s)] at this
    rw [this, List.getD_eq_getElem?_getD, List.getElem?_eq_getElem (by rw [len_list]; exact hj)]
    rfl
  · simp [Lib.bytesCells]
theorem low_split (l : Pl.Bytes) (k : Nat) (h : k < l.length) : Pl.lower (l.take k) ++ l.drop k = Pl.lower (l.take k) ++ l[k] :: l.drop (k + 1) := by rw [List.drop_eq_getElem_cons h]
theorem low_next (l : Pl.Bytes) (k : Nat) (h : k < l.length) : Pl.lower (l.take (k + 1)) ++ l.drop (k + 1) = Pl.lower (l.take k) ++ Pl.lowB l[k] :: l.drop (k + 1) := by
  rw [List.take_succ_eq_append_getElem h, Pl.lower_app]; simp [Pl.lower]
set_option maxRecDepth 100000 in
set_option maxHeartbeats 1000000 in
theorem lower_any (s : ByteArray) (w : World) (hs : s.size ≤ 30000) :
    Calls Tryz.prog 70 #[.string s] w fun e w' => e = .returned (S (Pl.lower s.data.toList)) ∧ Below w.heap.size w w' := by
  have hst := lowSt_start s w
  have hcv := Lib.run_convert_string_bytes (P := Tryz.prog) w 9 91 5 s Tryz.underlying9 Tryz.underlying91 Tryz.underlying5
  obtain ⟨cap, hcap⟩ : ∃ cap, grownCap w s.size 0 5 = cap := ⟨_, rfl⟩
  obtain ⟨sz, hsz⟩ : ∃ sz, (Lib.bytesCells w 5 s).size = sz := ⟨_, rfl⟩
  obtain ⟨W, hW⟩ : ∃ W, Lib.bytesWorld w 5 s = W := ⟨_, rfl⟩
  rw [hcap, hW] at hcv
  rw [hsz, hW] at hst
  have HCV := Lib.hid hcv
  clear hcv hcap hsz hW
  go_enter Tryz.func70, Tryz.ntmps70
  go_wp2_with fail
  rw [HCV.out]
  go_wp2
  go_loopw [4] (fun iv wr => ∃ k : Nat, k ≤ s.size ∧ iv = .int .i64 (k : Int) ∧ LowSt w w.heap.size sz (Pl.lower (s.data.toList.take k) ++ s.data.toList.drop k) wr) (fun iv _ => s.size - (intOf iv).toNat)
  case atStart => exact ⟨0, Nat.zero_le _, rfl, by simpa [Pl.lower] using hst⟩
  case round =>
    obtain ⟨k, hk, rfl, hlow⟩ := hrel
    by_cases hlt : k < s.size
    · have hkl : k < s.data.toList.length := by rw [len_list]; exact hlt
      have hn := low_next s.data.toList k hkl
      rw [low_split _ k hkl] at hlow
      have hal : (Pl.lower (s.data.toList.take k)).length = k := by rw [Pl.lower_len, List.length_take]; omega
      obtain ⟨c, hc⟩ : ∃ c, s.data.toList[k] = c := ⟨_, rfl⟩
      rw [hc] at hlow hn
      obtain ⟨a, ha⟩ : ∃ a, Pl.lower (s.data.toList.take k) = a := ⟨_, rfl⟩
      obtain ⟨b, hb⟩ : ∃ b, s.data.toList.drop (k + 1) = b := ⟨_, rfl⟩
      rw [ha, hb] at hlow
      rw [ha] at hn hal
      have hcell := hlow.cell (j := k) (by simp; omega)
      have hfro := hlow.frozen (j := k) (by simp; omega)
      have hck : (a ++ c :: b)[k]'(by simp; omega) = c := by
        rw [List.getElem_append_right (by omega)]; simp [hal]
      rw [hck] at hcell
      have hset := fun d => hlow.set_ (d := d)
      rw [hal] at hset
      have hb256 := UInt8.toNat_lt c
      have hlb := Pl.lowB_nat c
      have HN := Lib.hid hn
      have HB := Lib.hid hb
      have HSET := Lib.hid hset
      have HLB := Lib.hid hlb
      obtain ⟨x, hx⟩ : ∃ x, c.toNat = x := ⟨_, rfl⟩
      rw [hx] at hcell hb256
      have HX := Lib.hid hx
      clear hn hset hlb hc ha hb hck hal hx
      by_cases h1 : (65 : Int) ≤ (x : Int)
      · by_cases h2 : (x : Int) ≤ 90
        · go_wp2
          go_roundw
          case rel =>
            refine ⟨k + 1, by omega, by go_num, ?_⟩
            have hL : (Pl.lowB c).toNat = x + 32 := by rw [HLB.out, HX.out, if_pos (by omega)]
            have := HSET.out (Pl.lowB c)
            rw [hL] at this
            rw [HN.out, HB.out]
            exact this
          case measure => simp [intOf]; omega
        · go_wp2
          go_roundw
          case rel =>
            refine ⟨k + 1, by omega, by go_num, ?_⟩
            have hL : Pl.lowB c = c := by rw [← UInt8.toNat_inj, HLB.out, if_neg (by have := HX.out; omega)]
            rw [HN.out, HB.out, hL]
            exact hlow
          case measure => simp [intOf]; omega
      · go_wp2
        go_roundw
        case rel =>
          refine ⟨k + 1, by omega, by go_num, ?_⟩
          have hL : Pl.lowB c = c := by rw [← UInt8.toNat_inj, HLB.out, if_neg (by have := HX.out; omega)]
          rw [HN.out, HB.out, hL]
          exact hlow
        case measure => simp [intOf]; omega
    · obtain rfl : k = s.size := by omega
      rw [List.take_of_length_le (by rw [len_list]; exact Nat.le_refl _), List.drop_of_length_le (by rw [len_list]; exact Nat.le_refl _), List.append_nil] at hlow
      have hrd := hlow.rd
      rw [Pl.lower_len, len_list] at hrd
      have hmap : (Pl.lower s.data.toList).map (UInt8.ofNat ∘ UInt8.toNat) = Pl.lower s.data.toList := by
        have : ∀ d ∈ Pl.lower s.data.toList, (UInt8.ofNat ∘ UInt8.toNat) d = d := fun d _ => by simp
        rw [List.map_congr_left this, List.map_id']
      have HMAP := Lib.hid hmap
      clear hmap
      go_wp2_with (refine wpList_conv_S _ rfl (.tmp 33) 91 9 5 rfl Tryz.underlying91 Tryz.underlying5 Tryz.underlying9 _ s.size cap ((Pl.lower s.data.toList).map UInt8.toNat) rfl hrd ?_)
      go_ret
      exact ⟨congrArg (fun x => Ending.returned (S x)) HMAP.out, hlow.bel⟩
end Go.Proofs.YtgfkdjmoflbmdaaGreatDoor
namespace Go.Proofs.YtgfkdjmoflbmdaaGreatDoor.Pl
def metaOf (s : Bytes) : Bytes := match idxOf 43 s with
  | none => []
  | some k => s.drop (k + 1)
theorem idxOf_noneIff {c : UInt8} {l : Bytes} (h : ∀ x ∈ l, x ≠ c) : idxOf c l = none := by
  induction l with
  | nil => rfl
  | cons d r ih =>
    unfold idxOf
    rw [if_neg (h d (List.mem_cons_self ..)), ih fun x hx => h x (List.mem_cons_of_mem _ hx)]; rfl
theorem idxOf_app {c : UInt8} {a b : Bytes} (h : ∀ x ∈ a, x ≠ c) : idxOf c (a ++ c :: b) = some a.length := by
  induction a with
  | nil => simp [idxOf]
  | cons d r ih =>
    rw [List.cons_append]
    unfold idxOf
    rw [if_neg (h d (List.mem_cons_self ..)), ih fun x hx => h x (List.mem_cons_of_mem _ hx)]; rfl
theorem idents_45 {P m : Bytes} (h : ∀ x ∈ P, x ≠ 43) (hne : P ≠ []) (hm : m = [] ∨ ∃ q, m = 43 :: q) : idents (45 :: (P ++ m)) = splitB 46 P := by
  have hb : beforePlus (45 :: (P ++ m)) = 45 :: P := by
    have h45 : ∀ x ∈ (45 :: P : Bytes), x ≠ 43 := by
      intro x hx
      rcases List.mem_cons.1 hx with k | k
      · subst k; decide
      · exact h x k
    rcases hm with hm | ⟨q, hm⟩
    · subst hm
      rw [List.append_nil, beforePlus, idxOf_noneIff h45]
    · subst hm
      rw [beforePlus, show 45 :: (P ++ 43 :: q) = (45 :: P) ++ 43 :: q from rfl, idxOf_app h45]
      exact List.take_left ..
  rw [idents, hb]
  show (if trimHy (45 :: P) = [] then [] else splitB 46 (trimHy (45 :: P))) = _
  rw [show trimHy (45 :: P) = P from rfl, if_neg hne]
section
variable {H U y1 y0 d q r : Nat}
structure Dig (H U y1 y0 d q r : Nat) : Prop where
  sum : q * y1 + r = U
  ge : (U * H + d) / (y1 * H + y0) ≤ q
  le : q ≤ H + 1
theorem dig_q (hy : 0 < y1 * H + y0) (h : q * (y1 * H + y0) ≤ U * H + d) : q ≤ (U * H + d) / (y1 * H + y0) := by
  rw [Nat.le_div_iff_mul_le hy]; exact h
theorem dig_lt (hU : U < y1 * H + y0) (hd : d < H) : (U * H + d) / (y1 * H + y0) < H := by
  rw [Nat.div_lt_iff_lt_mul (by omega)]
  have := Nat.mul_le_mul_right H (show U + 1 ≤ y1 * H + y0 by omega)
  rw [Nat.add_mul, Nat.one_mul] at this
  rw [Nat.mul_comm H]
  omega
theorem dig_start (h1 : H ≤ 2 * y1) (h0 : y0 < H) (hU : U < y1 * H + y0) (hd : d < H) : Dig H U y1 y0 d (U / y1) (U - U / y1 * y1) := by
  have hy1 : 0 < y1 := by omega
  have hdm := Nat.div_add_mod U y1
  rw [Nat.mul_comm] at hdm
  refine ⟨by omega, ?_, ?_⟩
  · rw [Nat.le_div_iff_mul_le hy1]
    have hQ := Nat.div_mul_le_self (U * H + d) (y1 * H + y0)
    obtain ⟨Q, hQe⟩ : ∃ Q, (U * H + d) / (y1 * H + y0) = Q := ⟨_, rfl⟩
    rw [hQe] at hQ ⊢
    have h2 : Q * y1 * H < (U + 1) * H := by
      rw [Nat.mul_add, ← Nat.mul_assoc] at hQ
      rw [Nat.add_mul, Nat.one_mul]
      omega
    have := Nat.lt_of_mul_lt_mul_right h2
    omega
  · have h3 : U / y1 * y1 < (H + 2) * y1 := by
      rw [Nat.add_mul, Nat.mul_comm H]
      omega
    have := Nat.lt_of_mul_lt_mul_right h3
    omega
theorem dig_mul (h : Dig H U y1 y0 d q r) : q * (y1 * H + y0) + r * H = U * H + q * y0 := by
  have e : q * (y1 * H) = q * y1 * H := (Nat.mul_assoc _ _ _).symm
  rw [Nat.mul_add, e, ← h.sum, Nat.add_mul]
  omega
theorem dig_down (hd : d < H) (hU : U < y1 * H + y0) (h : Dig H U y1 y0 d q r) (hc : H ≤ q ∨ H * r + d < q * y0) : 0 < q ∧ Dig H U y1 y0 d (q - 1) (r + y1) := by
  have hQ : (U * H + d) / (y1 * H + y0) < q := by
    rcases hc with hc | hc
    · have := dig_lt hU hd; omega
    · rw [Nat.div_lt_iff_lt_mul (by omega)]
      have := dig_mul h
      rw [Nat.mul_comm r] at this
      omega
  have hs := h.sum
  have hl := h.le
  obtain ⟨Q, hQe⟩ : ∃ Q, (U * H + d) / (y1 * H + y0) = Q := ⟨_, rfl⟩
  rw [hQe] at hQ
  refine ⟨by omega, ⟨?_, by rw [hQe]; omega, by omega⟩⟩
  obtain ⟨k, rfl⟩ : ∃ k, q = k + 1 := ⟨q - 1, by omega⟩
  rw [Nat.add_mul, Nat.one_mul] at hs
  simp only [Nat.add_sub_cancel]
  omega
theorem dig_stop (hU : U < y1 * H + y0) (h : Dig H U y1 y0 d q r) (hc : q * y0 ≤ H * r + d) : q = (U * H + d) / (y1 * H + y0) := by
  have h2 := dig_q (q := q) (U := U) (d := d) (show 0 < y1 * H + y0 by omega) (by
    have := dig_mul h
    rw [Nat.mul_comm r] at this
    omega)
  have := h.ge
  omega
theorem dig_break (h0 : y0 < H) (hU : U < y1 * H + y0) (h : Dig H U y1 y0 d q r) (hq : q ≤ H) (hr : H ≤ r) : q = (U * H + d) / (y1 * H + y0) := by
  refine dig_stop hU h ?_
  have h1 : q * y0 ≤ H * y0 := Nat.mul_le_mul_right _ hq
  have h2 : H * y0 ≤ H * r := Nat.mul_le_mul_left _ (by omega)
  omega
end
theorem two_digits {H hi u1 u0 y : Nat} (hy : 0 < y) :
    (hi * (H * H) + u1 * H + u0) / y = (hi * H + u1) / y * H + ((hi * H + u1) % y * H + u0) / y ∧ (hi * (H * H) + u1 * H + u0) % y = ((hi * H + u1) % y * H + u0) % y := by
  have e1 := Nat.div_add_mod (hi * H + u1) y
  obtain ⟨Q, hQ⟩ : ∃ Q, (hi * H + u1) / y = Q := ⟨_, rfl⟩
  obtain ⟨R, hR⟩ : ∃ R, (hi * H + u1) % y = R := ⟨_, rfl⟩
  rw [hQ, hR] at e1 ⊢
  have e2 : hi * (H * H) + u1 * H + u0 = y * (Q * H) + (R * H + u0) := by
    have : hi * (H * H) + u1 * H = (hi * H + u1) * H := by rw [Nat.add_mul, Nat.mul_assoc]
    rw [this, ← e1, Nat.add_mul, Nat.mul_assoc]
    omega
  rw [e2]
  exact ⟨Nat.mul_add_div hy _ _, Nat.mul_add_mod _ _ _⟩
end Go.Proofs.YtgfkdjmoflbmdaaGreatDoor.Pl
namespace Go.Proofs.YtgfkdjmoflbmdaaGreatDoor
open Go.RowKit
open Go.Proofs
set_option maxRecDepth 100000 in
set_option maxHeartbeats 1000000 in
theorem addMulg_any (b o cz bx ox cx by_ oy cy : Nat) (xs ys : List Nat) (l : List Value) (w : World) (hl : xs.length ≤ 1000000) (hlen : ys.length = xs.length) (hB : Blk w b 179 l.toArray) (hfit : o + xs.length ≤ l.length)
    (m c0 : Nat) (hm : m < M) (hc0 : c0 < M) (hxlt : ∀ d ∈ xs, d < M) (hylt : ∀ d ∈ ys, d < M) (hX : Src w b o xs.length bx ox xs) (hY : Src w b o xs.length by_ oy ys) :
    Calls Tryz.prog 265 #[.slice (some ⟨b, o, none⟩) xs.length cz, .slice (some ⟨bx, ox, none⟩) xs.length cx, .slice (some ⟨by_, oy, none⟩) xs.length cy, .int .u64 (m : Int), .int .u64 (c0 : Int)] w fun e w' =>
      e = .returned (.int .u64 (((Pl.addMulV M xs ys m c0).2 : Nat) : Int)) ∧ Blk w' b 179 (splice l o (WC (Pl.addMulV M xs ys m c0).1)).toArray ∧ w.grownBy w' (some b) := by
  have HX := Lib.hid hX
  have HY := Lib.hid hY
  have HB := Lib.hid hB
  have HXL := Lib.hid hxlt
  have HYL := Lib.hid hylt
  clear hX hY hB hxlt hylt
  obtain ⟨R, hR⟩ : ∃ R, Pl.addMulV M xs ys m c0 = R := ⟨_, rfl⟩
  rw [hR]
  have HR := Lib.hid hR
  clear hR
  go_enter Tryz.func265, Tryz.ntmps265
  go_wp2
  go_loopw [10, 11, 12, 13, 14, 15, 32] (fun cv _ _ _ _ _ iv wr => ∃ (k cc : Nat) (done : List Nat), k ≤ xs.length ∧ iv = .int .i64 (k : Int) ∧ cv = .int .u64 (cc : Int) ∧ cc < M ∧ done.length = k ∧ Blk wr b 179 (splice l o (WC done)).toArray ∧
    done ++ (Pl.addMulV M (xs.drop k) (ys.drop k) m cc).1 = R.1 ∧ (Pl.addMulV M (xs.drop k) (ys.drop k) m cc).2 = R.2 ∧ w.grownBy wr (some b)) (fun _ _ _ _ _ _ iv _ => xs.length - (intOf iv).toNat)
  case atStart => exact ⟨0, c0, [], Nat.zero_le _, rfl, rfl, hc0, rfl, by simpa [WC, splice_nil] using HB.out, by rw [← HR.out]; simp, by rw [← HR.out]; simp, World.grownBy.refl _ _⟩
  case round =>
    obtain ⟨k, cc, done, hk, rfl, rfl, hcc, hdn, hblk, h1, h2, hgr⟩ := hrel
    have H1 := Lib.hid h1
    have H2 := Lib.hid h2
    have HDN := Lib.hid hdn
    have hzf : o + (WC done).length ≤ l.length := by rw [WC_len, hdn]; omega
    have HZF := Lib.hid hzf
    clear h1 h2 hdn hzf
    by_cases hkl : k < xs.length
    · have cx := HX.out.read HB.out hblk hgr HZF.out hkl (by rw [WC_len, HDN.out]; exact Nat.le_refl _)
      have cy := HY.out.read HB.out hblk hgr HZF.out (k := k) (by omega) (by rw [WC_len, HDN.out]; exact Nat.le_refl _)
      have hdx : xs.drop k = xs[k] :: xs.drop (k + 1) := List.drop_eq_getElem_cons hkl
      have hdy : ys.drop k = ys[k] :: ys.drop (k + 1) := List.drop_eq_getElem_cons (by omega)
      have HDX := Lib.hid hdx
      have hxM := HXL.out xs[k] (List.getElem_mem hkl)
      have hyM := HYL.out ys[k] (List.getElem_mem (by omega))
      have HDY := Lib.hid hdy
      obtain ⟨x, hx⟩ : ∃ x, xs[k] = x := ⟨_, rfl⟩
      obtain ⟨y, hy⟩ : ∃ y, ys[k] = y := ⟨_, rfl⟩
      rw [hx] at cx HDX hxM
      rw [hy] at cy HDY hyM
      clear hdx hdy hx hy
      have hz : ∃ u, wr.cell? ⟨b, o + k, none⟩ = some u := by
        rw [hblk.cell (o + k)]
        refine ⟨_, Array.getElem?_eq_getElem (h := ?_)⟩
        have h0 := splice_len HZF.out
        simp only [List.size_toArray]
        omega
      obtain ⟨u, hz⟩ := hz
      have hzz := hblk.frozen (o + k)
      have hmw := mulAddWWW_M y m x hyM hm hxM
      obtain ⟨z1, hz1⟩ : ∃ z1 : Nat, (y * m + x) / M = z1 := ⟨_, rfl⟩
      obtain ⟨z0, hz0⟩ : ∃ z0 : Nat, (y * m + x) % M = z0 := ⟨_, rfl⟩
      rw [hz1, hz0] at hmw
      have HMW := Lib.hid hmw
      have hz1M : z1 < M := by rw [← hz1]; exact Pl.carry_lt hyM hm hxM
      have hAdd := fun W => Add_any z0 cc W
      obtain ⟨d, hd⟩ : ∃ d : Nat, (z0 + cc) % 18446744073709551616 = d := ⟨_, rfl⟩
      obtain ⟨q1, hq1⟩ : ∃ q1 : Nat, (z0 + cc) / 18446744073709551616 = q1 := ⟨_, rfl⟩
      rw [hd, hq1] at hAdd
      have HADD := Lib.hid hAdd
      have htot : (y * m + x + cc) % M = d ∧ (y * m + x + cc) / M = q1 + z1 := by
        rw [M_eq] at *
        generalize y * m = p at *
        omega
      have hqM : q1 + z1 < M := by rw [← htot.2]; exact Pl.addMul_carry hxM hyM hm hcc
      obtain ⟨q, hq⟩ : ∃ q, q1 + z1 = q := ⟨_, rfl⟩
      rw [hq] at hqM htot
      have HD := Lib.hid htot.1
      have HQ := Lib.hid htot.2
      have hwrap : IntKind.u64.wrap ((q1 : Int) + (z1 : Int)) = (q : Int) := by
        rw [IntKind.wrap_u64]
        rw [M_eq] at hqM
        omega
      clear htot hd hq1 hz1 hz0 hmw hAdd hq
      go_wp2
      go_quiet ((go_at_call 217; exact quiet_left (HMW.out _)))
      go_wp2_with fail
      refine (HADD.out _).mono ?_; rintro e w1 ⟨rfl, rfl⟩
      go_wp2
      go_roundw
      case rel =>
        have e1 := H1.out
        have e2 := H2.out
        rw [HDX.out, HDY.out, Pl.addMulV_cons, HD.out, HQ.out] at e1 e2
        have hs := splice_up (l := l) (o := o) (zs := WC done) (by rw [WC_len, HDN.out]; omega) (.int .u64 (d : Int))
        rw [WC_len, HDN.out] at hs
        refine ⟨k + 1, q, done ++ [d], by omega, by go_num, rfl, hqM, by simp [HDN.out], ?_, by simpa using e1, e2, ?_⟩
        · rw [WC_snoc, ← hs]
          exact (hblk.drewN _).set_ _ _
        · exact (grown_dr hgr _).trans (grown_set _ _ _ _)
      case measure => simp [intOf]; omega
    · obtain rfl : k = xs.length := by omega
      go_wp2
      go_ret
      have e1 := H1.out
      have e2 := H2.out
      rw [List.drop_length] at e1 e2
      simp only [Pl.addMulV, List.append_nil] at e1 e2
      subst e1
      exact ⟨ret_int (by rw [e2]), hblk, hgr⟩
theorem addMul_any (b o cz bx ox cx by_ oy cy : Nat) (xs ys : List Nat) (l : List Value) (w : World) (hl : xs.length ≤ 1000000) (hlen : ys.length = xs.length) (hB : Blk w b 179 l.toArray) (hfit : o + xs.length ≤ l.length)
    (m c0 : Nat) (hm : m < M) (hc0 : c0 < M) (hxlt : ∀ d ∈ xs, d < M) (hylt : ∀ d ∈ ys, d < M) (hX : Src w b o xs.length bx ox xs) (hY : Src w b o xs.length by_ oy ys) :
    Calls Tryz.prog 230 #[.slice (some ⟨b, o, none⟩) xs.length cz, .slice (some ⟨bx, ox, none⟩) xs.length cx, .slice (some ⟨by_, oy, none⟩) xs.length cy, .int .u64 (m : Int), .int .u64 (c0 : Int)] w fun e w' =>
      e = .returned (.int .u64 (((Pl.addMulV M xs ys m c0).2 : Nat) : Int)) ∧ Blk w' b 179 (splice l o (WC (Pl.addMulV M xs ys m c0).1)).toArray ∧ w.grownBy w' (some b) := by
  have HC := Lib.hid (addMulg_any b o cz bx ox cx by_ oy cy xs ys l w hl hlen hB hfit m c0 hm hc0 hxlt hylt hX hY)
  clear hX hY hB
  go_enter Tryz.func230, Tryz.ntmps230
  go_wp2_with fail
  refine HC.out.mono ?_; rintro e w1 ⟨rfl, h1, h2⟩
  go_wp2
  go_ret
  exact ⟨rfl, h1, h2⟩
set_option maxRecDepth 100000 in
set_option maxHeartbeats 1000000 in
theorem mulAtg_any (b o cz bx ox cx y c0 : Nat) (xs : List Nat) (l : List Value) (w : World) (hl : xs.length ≤ 1000000) (hB : Blk w b 179 l.toArray) (hfit : o + xs.length ≤ l.length)
    (hy : y < M) (hc0 : c0 < M) (hxlt : ∀ d ∈ xs, d < M) (hX : Src w b o xs.length bx ox xs) :
    Calls Tryz.prog 204 #[.slice (some ⟨b, o, none⟩) xs.length cz, .slice (some ⟨bx, ox, none⟩) xs.length cx, .int .u64 (y : Int), .int .u64 (c0 : Int)] w fun e w' =>
      e = .returned (.int .u64 (((Pl.mulV M xs y c0).2 : Nat) : Int)) ∧ Blk w' b 179 (splice l o (WC (Pl.mulV M xs y c0).1)).toArray ∧ w.grownBy w' (some b) := by
  have HX := Lib.hid hX
  have HB := Lib.hid hB
  have HXL := Lib.hid hxlt
  clear hX hB hxlt
  obtain ⟨R, hR⟩ : ∃ R, Pl.mulV M xs y c0 = R := ⟨_, rfl⟩
  rw [hR]
  have HR := Lib.hid hR
  clear hR
  go_enter Tryz.func204, Tryz.ntmps204
  go_wp2
  go_loopw [8, 9, 19] (fun cv _ iv wr => ∃ (k cc : Nat) (done : List Nat), k ≤ xs.length ∧ iv = .int .i64 (k : Int) ∧ cv = .int .u64 (cc : Int) ∧ cc < M ∧ done.length = k ∧ Blk wr b 179 (splice l o (WC done)).toArray ∧
    done ++ (Pl.mulV M (xs.drop k) y cc).1 = R.1 ∧ (Pl.mulV M (xs.drop k) y cc).2 = R.2 ∧ w.grownBy wr (some b)) (fun _ _ iv _ => xs.length - (intOf iv).toNat)
  case atStart => exact ⟨0, c0, [], Nat.zero_le _, rfl, rfl, hc0, rfl, by simpa [WC, splice_nil] using HB.out, by rw [← HR.out]; simp, by rw [← HR.out]; simp, World.grownBy.refl _ _⟩
  case round =>
    obtain ⟨k, cc, done, hk, rfl, rfl, hcc, hdn, hblk, h1, h2, hgr⟩ := hrel
    have H1 := Lib.hid h1
    have H2 := Lib.hid h2
    have HDN := Lib.hid hdn
    have hzf : o + (WC done).length ≤ l.length := by rw [WC_len, hdn]; omega
    have HZF := Lib.hid hzf
    clear h1 h2 hdn hzf
    by_cases hkl : k < xs.length
    · have cx := HX.out.read HB.out hblk hgr HZF.out hkl (by rw [WC_len, HDN.out]; exact Nat.le_refl _)
      have hdx : xs.drop k = xs[k] :: xs.drop (k + 1) := List.drop_eq_getElem_cons hkl
      have HDX := Lib.hid hdx
      have hxM := HXL.out xs[k] (List.getElem_mem hkl)
      obtain ⟨x, hx⟩ : ∃ x, xs[k] = x := ⟨_, rfl⟩
      rw [hx] at cx HDX hxM
      clear hdx hx
      have hz : ∃ u, wr.cell? ⟨b, o + k, none⟩ = some u := by
        rw [hblk.cell (o + k)]
        refine ⟨_, Array.getElem?_eq_getElem (h := ?_)⟩
        have h0 := splice_len HZF.out
        simp only [List.size_toArray]
        omega
      obtain ⟨u, hz⟩ := hz
      have hzz := hblk.frozen (o + k)
      have hmw := mulAddWWW_M x y cc hxM hy hcc
      have hqM : (x * y + cc) / M < M := Pl.carry_lt hxM hy hcc
      obtain ⟨q, hq⟩ : ∃ q : Nat, (x * y + cc) / M = q := ⟨_, rfl⟩
      obtain ⟨d, hd⟩ : ∃ d : Nat, (x * y + cc) % M = d := ⟨_, rfl⟩
      rw [hq, hd] at hmw
      rw [hq] at hqM
      have HMW := Lib.hid hmw
      have HD := Lib.hid hd
      have HQ := Lib.hid hq
      clear hd hq hmw
      go_wp2_with (go_at_call 217; refine (HMW.out _).mono ?_; rintro e w1 ⟨rfl, rfl⟩)
      go_roundw
      case rel =>
        have e1 := H1.out
        have e2 := H2.out
        rw [HDX.out, Pl.mulV_cons, HD.out, HQ.out] at e1 e2
        have hs := splice_up (l := l) (o := o) (zs := WC done) (by rw [WC_len, HDN.out]; omega) (.int .u64 (d : Int))
        rw [WC_len, HDN.out] at hs
        refine ⟨k + 1, q, done ++ [d], by omega, by go_num, rfl, hqM, by simp [HDN.out], ?_, by simpa using e1, e2, ?_⟩
        · rw [WC_snoc, ← hs]
          exact hblk.set_ _ _
        · exact hgr.trans (grown_set _ _ _ _)
      case measure => simp [intOf]; omega
    · obtain rfl : k = xs.length := by omega
      go_wp2
      go_ret
      have e1 := H1.out
      have e2 := H2.out
      rw [List.drop_length] at e1 e2
      simp only [Pl.mulV_nil, List.append_nil] at e1 e2
      subst e1
      exact ⟨ret_int (by rw [e2]), hblk, hgr⟩
theorem mulAt_any (b o cz bx ox cx y c0 : Nat) (xs : List Nat) (l : List Value) (w : World) (hl : xs.length ≤ 1000000) (hB : Blk w b 179 l.toArray) (hfit : o + xs.length ≤ l.length)
    (hy : y < M) (hc0 : c0 < M) (hxlt : ∀ d ∈ xs, d < M) (hX : Src w b o xs.length bx ox xs) :
    Calls Tryz.prog 190 #[.slice (some ⟨b, o, none⟩) xs.length cz, .slice (some ⟨bx, ox, none⟩) xs.length cx, .int .u64 (y : Int), .int .u64 (c0 : Int)] w fun e w' =>
      e = .returned (.int .u64 (((Pl.mulV M xs y c0).2 : Nat) : Int)) ∧ Blk w' b 179 (splice l o (WC (Pl.mulV M xs y c0).1)).toArray ∧ w.grownBy w' (some b) := by
  have HC := Lib.hid (mulAtg_any b o cz bx ox cx y c0 xs l w hl hB hfit hy hc0 hxlt hX)
  clear hX hB
  go_enter Tryz.func190, Tryz.ntmps190
  go_wp2_with fail
  refine HC.out.mono ?_; rintro e w1 ⟨rfl, h1, h2⟩
  go_wp2
  go_ret
  exact ⟨rfl, h1, h2⟩
end Go.Proofs.YtgfkdjmoflbmdaaGreatDoor
