/- Contracts; Contract. -/
import Derived.Test.YtgfkdjmoflbmdaaGreatDoorRXnxTj
namespace Go.Proofs.YtgfkdjmoflbmdaaGreatDoor
open Go.RowKit
open Go.Proofs
structure SrcD (w : World) (b o n bx ox : Nat) (xs : List Nat) : Prop where
  at_ : WAt w bx ox xs
  off : bx ≠ b ∨ ox ≤ o ∨ o + n ≤ ox
theorem SrcD.read {w wr : World} {b o n bx ox : Nat} {xs : List Nat} {l zs : List Value} {p : Nat} (h : SrcD w b o n bx ox xs) (hB : Blk w b 179 l.toArray) (hB' : Blk wr b 179 (splice l (o + p) zs).toArray) (hg : w.grownBy wr (some b))
    (hz : p + zs.length = n) (hn : o + n ≤ l.length) {k : Nat} (hk : k < xs.length) (hkp : k < p) : wr.cell? ⟨bx, ox + k, none⟩ = some (.int .u64 ((xs[k] : Nat) : Int)) := by
  have h0 := h.at_ k hk
  by_cases hb : bx = b
  · subst hb
    rw [hB'.cell (ox + k)]
    rw [hB.cell (ox + k)] at h0
    have hoff : ox ≤ o ∨ o + n ≤ ox := by
      rcases h.off with h | h | h
      · exact absurd rfl h
      · exact Or.inl h
      · exact Or.inr h
    simp only [List.getElem?_toArray] at h0 ⊢
    rcases hoff with h1 | h1
    · rw [splice_lt (by omega) (by omega)]; exact h0
    · rw [splice_ge (by omega) (by omega)]; exact h0
  · exact (World.cell?_of_block (hg.block bx (World.block_lt_of_cell? w _ h0) (by simpa using hb))).trans h0
theorem grown_drew {w wr : World} {r : Option Nat} (h : w.grownBy wr r) : w.grownBy wr.drew r := ⟨h.os, h.tape, h.output, h.size, h.block⟩
theorem and63 (s : Nat) (h : s < 64) : bits .and .u64 (s : Int) 63 = (s : Int) := by
  have hall : ∀ k : Fin 64, bits .and .u64 ((k.val : Nat) : Int) 63 = ((k.val : Nat) : Int) := of_decide_eq_true (by kernel_rfl)
  exact hall ⟨s, h⟩
theorem two_st {s t : Nat} (h : s + t = 64) : 2 ^ s * 2 ^ t = M := by rw [← Nat.pow_add, h]; rfl
theorem wrap_shl {x s t : Nat} (h : s + t = 64) : IntKind.u64.wrap ((x : Int) * 2 ^ s) = (((x % 2 ^ t) * 2 ^ s : Nat) : Int) := by
  have e : ((x : Int) * 2 ^ s) = ((x * 2 ^ s : Nat) : Int) := by simp
  rw [e, IntKind.wrap_u64]
  have h2 := two_st h
  rw [M_eq] at h2
  have h3 : (x * 2 ^ s) % 18446744073709551616 = (x % 2 ^ t) * 2 ^ s := by
    rw [← h2, Nat.mul_comm (2 ^ s), Nat.mul_mod_mul_right]
  omega
theorem div_shr (x t : Nat) : (x : Int) / 2 ^ t = ((x / 2 ^ t : Nat) : Int) := by simp
theorem or_shl {x p s t : Nat} (h : s + t = 64) (hp : p < M) : bits .or .u64 (((x % 2 ^ t) * 2 ^ s : Nat) : Int) ((p / 2 ^ t : Nat) : Int) = (((x % 2 ^ t) * 2 ^ s + p / 2 ^ t : Nat) : Int) := by
  have h2 := two_st h
  have hS : 0 < 2 ^ s := Nat.pow_pos (by omega)
  have hT : 0 < 2 ^ t := Nat.pow_pos (by omega)
  have hq : p / 2 ^ t < 2 ^ s := by rw [Nat.div_lt_iff_lt_mul hT, h2]; exact hp
  have hx : (x % 2 ^ t) * 2 ^ s < M := by
    rw [← h2, Nat.mul_comm (2 ^ s)]
    exact Nat.mul_lt_mul_of_pos_right (Nat.mod_lt _ hT) hS
  have hqM : p / 2 ^ t < M := Nat.lt_of_le_of_lt (Nat.div_le_self _ _) hp
  have e64 : (2 : Int) ^ 64 = 18446744073709551616 := by decide
  rw [M_eq] at hx hqM
  have eS : (2 : Int) ^ s = ((2 ^ s : Nat) : Int) := by simp
  have hm : ((((x % 2 ^ t) * 2 ^ s : Nat) : Int)) % ((2 ^ s : Nat) : Int) = 0 := by rw [← Int.natCast_emod, Nat.mul_mod_left]; rfl
  generalize (x % 2 ^ t) * 2 ^ s = A at *
  generalize p / 2 ^ t = q at *
  rw [bits_join .u64 64 (by decide) wraps_u64 s (A : Int) (q : Int) (by omega) (by rw [eS]; exact hm) (by rw [e64]; omega) (by omega) (by rw [eS]; omega) (by rw [e64]; omega)]
  omega
set_option maxRecDepth 100000 in
set_option maxHeartbeats 2000000 in
theorem lshg_any (b o cz bx ox cx s : Nat) (xs : List Nat) (l : List Value) (w : World) (h0 : 0 < xs.length) (hl : xs.length ≤ 1000000) (hs0 : 0 < s) (hs : s < 64) (hB : Blk w b 179 l.toArray) (hfit : o + xs.length ≤ l.length) (hxlt : ∀ d ∈ xs, d < M)
    (hX : SrcD w b o xs.length bx ox xs) :
    Calls Tryz.prog 270 #[.slice (some ⟨b, o, none⟩) xs.length cz, .slice (some ⟨bx, ox, none⟩) xs.length cx, .int .u64 (s : Int)] w fun e w' =>
      e = .returned (.int .u64 ((Pl.shlO (2 ^ (64 - s)) xs 0 : Nat) : Int)) ∧ Blk w' b 179 (splice l o (WC (Pl.shlV (2 ^ s) (2 ^ (64 - s)) xs 0))).toArray ∧ w.grownBy w' (some b) := by
  have HX := Lib.hid hX
  have HB := Lib.hid hB
  have HXL := Lib.hid hxlt
  have hs1 : ((s : Int) == 0) = false := by rw [beq_eq_false_iff_ne]; omega
  have hn1 : ((xs.length : Int) == 0) = false := by rw [beq_eq_false_iff_ne]; omega
  have cl := hX.at_ (xs.length - 1) (by omega)
  have hin : (xs.length : Int) - 1 = ((xs.length - 1 : Nat) : Int) := by omega
  obtain ⟨t, ht⟩ : ∃ t, s + t = 64 := ⟨64 - s, by omega⟩
  rw [show 64 - s = t from by omega]
  have ha1 := and63 s hs
  have ha2 : IntKind.u64.wrap (64 - (s : Int)) = (t : Int) := by rw [IntKind.wrap_u64]; omega
  have ha3 := and63 t (by omega)
  have ht1 : (0 : Int) ≤ (t : Int) := by omega
  have ht2 : (t : Int) ≤ 64 := by omega
  have hs2 : (0 : Int) ≤ (s : Int) := by omega
  have hs3 : (s : Int) ≤ 64 := by omega
  have HT := Lib.hid ht
  obtain ⟨R, hR⟩ : ∃ R, Pl.shlV (2 ^ s) (2 ^ t) xs 0 = R := ⟨_, rfl⟩
  have hRl := Pl.shlV_len (2 ^ s) (2 ^ t) xs 0
  have HST := Lib.hid (fun k (hk : k < xs.length) => Pl.shlV_step (S := 2 ^ s) (T := 2 ^ t) (c := 0) hk)
  rw [hR] at hRl HST ⊢
  have hO := Pl.shlO_last (2 ^ t) xs 0 h0
  have HO := Lib.hid hO
  obtain ⟨z, hz⟩ : ∃ z, xs[xs.length - 1] = z := ⟨_, rfl⟩
  rw [hz] at cl HO
  have hzd := div_shr z t
  obtain ⟨zq, hzq⟩ : ∃ zq, z / 2 ^ t = zq := ⟨_, rfl⟩
  rw [hzq] at hzd HO
  clear hX hB hxlt ht hR hO hz hzq
  go_enter Tryz.func270, Tryz.ntmps270
  go_wp2_with fail
  go_loopw [8] (fun iv wr => ∃ k : Nat, k < xs.length ∧ iv = .int .i64 (k : Int) ∧ Blk wr b 179 (splice l (o + (k + 1)) (WC (R.drop (k + 1)))).toArray ∧ w.grownBy wr (some b)) (fun iv _ => (intOf iv).toNat)
  case atStart => exact ⟨xs.length - 1, by omega, rfl, by rw [List.drop_of_length_le (by omega)]; simpa [WC, splice_nil] using HB.out, World.grownBy.refl _ _⟩
  case round =>
    obtain ⟨k, hk, rfl, hblk, hgr⟩ := hrel
    have hdl : (R.drop (k + 1)).length = xs.length - (k + 1) := by rw [List.length_drop, hRl]
    have hzl : (k + 1) + (WC (R.drop (k + 1))).length = xs.length := by rw [WC_len, hdl]; omega
    have hslen : (splice l (o + (k + 1)) (WC (R.drop (k + 1)))).length = l.length := splice_len (by rw [WC_len, hdl]; omega)
    have cx := HX.out.read HB.out hblk hgr hzl hfit hk (by omega)
    have hst := HST.out k hk
    have hxM := HXL.out xs[k] (List.getElem_mem hk)
    have hzc : ∃ u, wr.cell? ⟨b, o + k, none⟩ = some u := by
      rw [hblk.cell (o + k)]
      exact ⟨_, Array.getElem?_eq_getElem (h := by simp only [List.size_toArray]; omega)⟩
    have hdn := splice_down (l := l) (k := o + k) (zs := WC (R.drop (k + 1))) (by rw [WC_len, hdl]; omega)
    obtain ⟨u, hzc⟩ := hzc
    have hzz := hblk.frozen (o + k)
    by_cases hk0 : 0 < k
    · have cp := HX.out.read (k := k - 1) HB.out hblk hgr hzl hfit (by omega) (by omega)
      have hpM := HXL.out xs[k - 1] (List.getElem_mem (by omega))
      have hgd : xs.getD (k - 1) 0 = xs[k - 1] := by simp [List.getD_eq_getElem?_getD, show k - 1 < xs.length from by omega]
      rw [if_neg (by omega), hgd] at hst
      obtain ⟨x, hx⟩ : ∃ x, xs[k] = x := ⟨_, rfl⟩
      obtain ⟨p, hp⟩ : ∃ p, xs[k - 1] = p := ⟨_, rfl⟩
      rw [hx] at cx hst hxM
      rw [hp] at cp hst hpM
      have e1 := wrap_shl (x := x) HT.out
      have e2 := div_shr p t
      have e3 := or_shl (x := x) HT.out hpM
      obtain ⟨A, hA⟩ : ∃ A, (x % 2 ^ t) * 2 ^ s = A := ⟨_, rfl⟩
      obtain ⟨q, hq⟩ : ∃ q, p / 2 ^ t = q := ⟨_, rfl⟩
      rw [hA] at e1 e3 hst
      rw [hq] at e2 e3 hst
      obtain ⟨d, hd⟩ : ∃ d, A + q = d := ⟨_, rfl⟩
      rw [hd] at e3 hst
      have HSTK := Lib.hid hst
      have HDN := Lib.hid (hdn (.int .u64 (d : Int)))
      have hki : (k : Int) - 1 = ((k - 1 : Nat) : Int) := by omega
      have hkw : IntKind.i64.wrap ((k : Int) - 1) = ((k - 1 : Nat) : Int) := by rw [hki]; exact IntWalk.i64_in _ (by omega)
      clear hdn hst hgd hx hp hd hA hq hdl hzl hslen hki
      go_wp2_with fail
      go_region_with (fail)
      all_goals
        go_wp2
        have e : (splice l (o + k) (WC (R.drop k))).toArray = ((splice l (o + (k + 1)) (WC (R.drop (k + 1)))).toArray).setIfInBounds (o + k) (.int .u64 (d : Int)) := by rw [HSTK.out]; exact HDN.out.symm
        refine ⟨⟨k - 1, by omega, rfl, ?_, hgr.trans (grown_drew (grown_set _ _ _ _))⟩, by simp [intOf]; omega⟩
        rw [show k - 1 + 1 = k from by omega, e]
        exact hblk.set_ _ _
    · obtain rfl : k = 0 := by omega
      obtain ⟨x, hx⟩ : ∃ x, xs[0] = x := ⟨_, rfl⟩
      rw [hx] at cx hst hxM
      rw [if_pos rfl, Nat.add_zero] at hst
      rw [Nat.add_zero] at cx hzc hzz
      have e1 := wrap_shl (x := x) HT.out
      obtain ⟨A, hA⟩ : ∃ A, (x % 2 ^ t) * 2 ^ s = A := ⟨_, rfl⟩
      rw [hA] at e1 hst
      have HSTK := Lib.hid hst
      have HDN := Lib.hid (hdn (.int .u64 (A : Int)))
      clear hdn hst hx hA hdl hzl hslen
      go_wp2
      have e : (splice l o (WC R)).toArray = ((splice l (o + (0 + 1)) (WC (R.drop (0 + 1)))).toArray).setIfInBounds (o + 0) (.int .u64 (A : Int)) := by
        have := HDN.out
        rw [this]
        have h2 := HSTK.out
        rw [List.drop_zero] at h2
        rw [h2]; rfl
      go_ret
      refine ⟨ret_int (by rw [HO.out]), ?_, hgr.trans (grown_set _ _ _ _)⟩
      rw [e]
      exact hblk.set_ _ _
def OwnBigs (w : World) (base : Nat) (v : Value) (ns : List Nat) : Prop :=
  ∃ Zs : List Nat, Zs.length = ns.length ∧ w.ownsRow base 123 1 v ns.length (Zs.map PtrV) ∧ ∀ (k : Nat) (h : k < ns.length) (h' : k < Zs.length), ∃ B, IntAt w Zs[k] B false ns[k]
theorem OwnBigs.below {w w' : World} {base : Nat} {v : Value} {ns : List Nat} (h : OwnBigs w base v ns) (hb : Below w.heap.size w w') : OwnBigs w' base v ns := by
  obtain ⟨Zs, h1, h2, h3⟩ := h
  exact ⟨Zs, h1, own_below h2 hb, fun k h h' => by obtain ⟨B, hI⟩ := h3 k h h'; exact ⟨B, hI.below hb⟩⟩
theorem OwnBigs.iter {w : World} {base g pos pos' : Nat} {t : ByteArray} {v : Value} {ns : List Nat} (h : OwnBigs w base v ns) (hi : IterAt w g t pos) : OwnBigs (iterSet w g t pos') base v ns := by
  have hg := iterSet_grown w g t pos'
  have hne : ∀ (e : TypeId) (size n b : Nat) (v : Value) (xs : List Value), w.ownsRow b e size v n xs → v.ownBlock ≠ some g := by
    intro e size n b v xs ho
    rcases ho.2 with ⟨rfl, _⟩ | ⟨g', cap, cur, rfl, _, hh, _⟩
    · simp [Value.ownBlock]
    · intro he
      have : g' = g := by simpa [Value.ownBlock] using he
      subst this
      unfold IterAt at hi
      rw [hi] at hh
      cases hh
  obtain ⟨Zs, h1, h2, h3⟩ := h
  refine ⟨Zs, h1, own_grown h2 hg (Or.inr (hne _ _ _ _ _ _ h2).symm), fun k hk hk' => ?_⟩
  obtain ⟨B, u, hb, hn⟩ := h3 k hk hk'
  refine ⟨B, u, hb.grown hg ?_, own_grown hn hg (Or.inr (hne _ _ _ _ _ _ hn).symm)⟩
  intro e
  injection e with e
  unfold Blk at hb
  unfold IterAt at hi
  rw [e, hi] at hb
  cases hb
theorem IntAt.row {w w' : World} {Z B N base n : Nat} {ng : Bool} {v : Value} {xs : List Value} (h : IntAt w Z B ng N) (ho : w.ownsRow base 123 1 v n xs) (hg : w.grownBy w' v.ownBlock) : IntAt w' Z B ng N := by
  obtain ⟨u, hb, hn⟩ := h
  exact ⟨u, hb.grown hg (own_blk_ne ho hb (by decide)).symm, own_grown hn hg (own_own_ne ho hn (by decide))⟩
theorem OwnBigs.append {w w' : World} {base Z B N g cap : Nat} {v : Value} {ns : List Nat} {Zs : List Nat} (h1 : Zs.length = ns.length) (h2 : w.ownsRow base 123 1 v ns.length (Zs.map PtrV)) (h3 : ∀ (k : Nat) (h : k < ns.length) (h' : k < Zs.length), ∃ B, IntAt w Zs[k] B false ns[k])
    (hI : IntAt w Z B false N) (ho : w'.ownsRow base 123 1 (.slice (some ⟨g, 0, none⟩) (ns.length + 1) cap) (ns.length + 1) (Zs.map PtrV ++ [PtrV Z])) (hg : w.grownBy w' v.ownBlock) : OwnBigs w' base (.slice (some ⟨g, 0, none⟩) (ns.length + 1) cap) (ns ++ [N]) := by
  refine ⟨Zs ++ [Z], by simp [h1], own_cast ho (by simp) (by simp), fun k hk hk' => ?_⟩
  by_cases hkn : k < ns.length
  · obtain ⟨B', hI'⟩ := h3 k hkn (by omega)
    refine ⟨B', ?_⟩
    rw [List.getElem_append_left (by omega), List.getElem_append_left hkn]
    exact hI'.row h2 hg
  · have hke : k = ns.length := by simp at hk; omega
    subst hke
    refine ⟨B, ?_⟩
    rw [List.getElem_append_right (by omega), List.getElem_append_right (by omega)]
    simp only [h1, Nat.sub_self, List.getElem_cons_zero]
    exact hI.row h2 hg
theorem set_yes {B Z : Nat} {w w' : World} {s : ByteArray} {e : Ending} (ha : Pl.allDig s.data.toList = true) (h : SetBack B Z w s e w') : FrB B Z w w' ∧ e = .returned (.tuple #[.pointer (some ⟨Z, 0, none⟩), .bool true]) ∧ IntAt w' Z B false (Pl.natOf s.data.toList) := by
  rcases h.2 with ⟨_, h1, h2⟩ | ⟨h1, _⟩
  · exact ⟨h.1, h1, h2⟩
  · rw [ha] at h1; cases h1
theorem OwnBigs.far {w : World} {base g i : Nat} {cs : Array Value} {v u : Value} {ns : List Nat} (h : OwnBigs w base v ns) (hb : Blk w g 56 cs) : OwnBigs (w.setCell ⟨g, i, none⟩ u) base v ns := by
  obtain ⟨Zs, h1, h2, h3⟩ := h
  refine ⟨Zs, h1, own_far h2 (own_blk_ne h2 hb (by decide)) _, fun k hk hk' => ?_⟩
  obtain ⟨B, x, hx, hn⟩ := h3 k hk hk'
  exact ⟨B, x, hx.far (Blk.ne_ hx hb (by decide)) _, own_far hn (own_blk_ne hn hb (by decide)) _⟩
theorem OwnBigs.lower {w : World} {b1 b2 : Nat} {v : Value} {ns : List Nat} (h : OwnBigs w b1 v ns) (hb : b2 ≤ b1) : OwnBigs w b2 v ns := by
  obtain ⟨Zs, h1, h2, h3⟩ := h
  exact ⟨Zs, h1, own_lower h2 hb, h3⟩
theorem OwnBigs.four {w : World} {base g : Nat} {cs : Array Value} {v a b c d : Value} {ns : List Nat} (h : OwnBigs w base v ns) (hb : Blk w g 56 cs) :
    OwnBigs ((((w.setCell ⟨g, 0, none⟩ a).setCell ⟨g, 1, none⟩ b).setCell ⟨g, 2, none⟩ c).setCell ⟨g, 3, none⟩ d) base v ns :=
  (((h.far hb).far (hb.set_ _ _)).far ((hb.set_ _ _).set_ _ _)).far (((hb.set_ _ _).set_ _ _).set_ _ _)
def ParseBack (w : World) (s : ByteArray) (e : Ending) (w' : World) : Prop :=
  ∃ A c, e = .returned (.agg #[.bool (Pl.startsV s.data.toList), .slice A (Pl.numsOf s.data.toList).length c, S (Pl.buildOf s.data.toList), .string s]) ∧ OwnBigs w' w.heap.size (.slice A (Pl.numsOf s.data.toList).length c) (Pl.numsOf s.data.toList) ∧ Below w.heap.size w w'
theorem info123 : (Tryz.prog.info? 123).map (fun i => (i.zero, i.size, i.bytes)) = some (some (.pointer none), 1, 8) := by kernel_rfl
theorem cat_S (a : List UInt8) (c : UInt8) : Value.string ((⟨a.toArray⟩ : ByteArray) ++ ⟨#[c]⟩) = S (a ++ [c]) := by
  have h : ((⟨a.toArray⟩ : ByteArray) ++ ⟨#[c]⟩).data.toList = a ++ [c] := by simp
  rw [string_S, h]
def iterPos (w : World) (g : Nat) : Nat := match w.heap[g]? with
  | some (.stringIter _ k) => k
  | _ => 0
theorem iterPos_at {w : World} {g k : Nat} {t : ByteArray} (h : IterAt w g t k) : iterPos w g = k := by
  unfold IterAt at h
  simp [iterPos, h]
set_option maxRecDepth 100000 in
set_option maxHeartbeats 2000000 in
theorem parse_any (s : ByteArray) (pe pn pi : Addr) (w : World) (hs : s.size ≤ 30000) (hV : PkgVars w pe pn pi) (hasc : Pl.ascii s.data.toList = true) :
    Calls Tryz.prog 92 #[.string s] w (ParseBack w s) := by
  have HP := Lib.hid (fun W => HasPrefix_any s 118 W (by omega))
  have HTP := Lib.hid (fun W => TrimPrefix_any s 118 W (by omega))
  simp only [trimC_118] at HTP
  obtain ⟨t, ht⟩ : ∃ t : ByteArray, t.data.toList = Pl.restV s.data.toList := ⟨⟨(Pl.restV s.data.toList).toArray⟩, rfl⟩
  have hts : t.size ≤ 30000 := by
    rw [← len_list, ht, ← trimC_118]
    cases hl : s.data.toList with
    | nil => simp [trimC]
    | cons c r =>
      have := len_list s
      rw [hl] at this
      show (if c = 118 then r else c :: r).length ≤ _
      split <;> simp at this ⊢ <;> omega
  have hT : Value.string t = S (Pl.restV s.data.toList) := by rw [string_S, ht]
  rw [← hT] at HTP
  have hta : ∀ (k : Nat) (h : k < t.size), t[k].toNat < 128 := by
    intro k h
    have hm : t[k] ∈ t.data.toList := List.mem_of_getElem? (get_list t k h)
    rw [ht, ← trimC_118] at hm
    have hm2 : t[k] ∈ s.data.toList := by
      cases hl : s.data.toList with
      | nil => rw [hl] at hm; cases hm
      | cons c r =>
        rw [hl] at hm
        have hm' : t[k] ∈ (if c = 118 then r else c :: r) := hm
        split at hm'
        · exact List.mem_cons_of_mem _ hm'
        · exact hm'
    have := List.all_eq_true.1 hasc _ hm2
    simp at this; omega
  have HTA := Lib.hid hta
  have HT := Lib.hid ht
  clear ht hT hta
  go_enter Tryz.func92, Tryz.ntmps92
  go_wp2_with fail
  refine (HP.out _).mono ?_; rintro e w1 ⟨rfl, rfl⟩
  go_wp2_with fail
  refine (HTP.out _).mono ?_; rintro e w2 ⟨rfl, rfl⟩
  go_upto_block 0 with (fail)
  obtain ⟨W, hW⟩ : ∃ W, (w.alloc (.cells #[.bool false, .slice none 0 0, .string ⟨#[]⟩, .string ⟨#[]⟩] 56)).iter t 0 = W := ⟨_, rfl⟩
  have hIW : IterAt W (w.heap.size + 1) t 0 := by
    rw [← hW]
    have := World.iter_heap (w.alloc (.cells #[.bool false, .slice none 0 0, .string ⟨#[]⟩, .string ⟨#[]⟩] 56)) t 0
    rw [World.size_alloc] at this
    exact this
  have hRW : Blk W w.heap.size 56 #[.bool false, .slice none 0 0, .string ⟨#[]⟩, .string ⟨#[]⟩] := by rw [← hW]; exact Blk.alloc (Blk.new _ _ _) _
  have hbW : Below w.heap.size w W := by rw [← hW]; exact ((Below.refl _ _).alloc (Nat.le_refl _) _).alloc (by simp) _
  rw [hW]
  clear hW
  go_wp2
  go_loopw [3, 5, 6] (fun cv sv fv wr => ∃ (k : Nat) (ns : List Nat) (cur : List UInt8) (fb : Bool), k ≤ t.size ∧ sv = S cur ∧ fv = .bool fb ∧ Pl.Read t.data.toList k ns cur fb ∧ IterAt wr (w.heap.size + 1) t k ∧
    OwnBigs wr (w.heap.size + 2) cv ns ∧ Blk wr w.heap.size 56 #[.bool false, .slice none 0 0, .string ⟨#[]⟩, .string ⟨#[]⟩] ∧ Below w.heap.size w wr) (fun _ _ _ wr => t.size - iterPos wr (w.heap.size + 1))
  case atStart => exact ⟨0, [], [], false, Nat.zero_le _, rfl, rfl, Pl.Read.start _, hIW, ⟨[], rfl, World.ownsRow_nil _ _ _ _, fun k h => absurd h (by simp)⟩, hRW, hbW⟩
  case round =>
    obtain ⟨k, ns, cur, fb, hk, rfl, rfl, hread, hit, hob, hblk, hbel⟩ := hrel
    have HRD := Lib.hid hread
    clear hread
    by_cases hlt : k < t.size
    · have hnx := fun ty => run_next_at hit ty hlt (HTA.out k hlt)
      have hcA := HTA.out k hlt
      obtain ⟨c, hc⟩ : ∃ c, t[k] = c := ⟨_, rfl⟩
      rw [hc] at hcA
      simp only [hc] at hnx
      cases fb with
      | true =>
        have HNX := Lib.hid hnx
        clear hnx
        have hcv := conv_ascii c hcA
        have hcl : ¬ 9223372036854775807 < cur.length + 1 := by have := HRD.out.len; omega
        go_wp2_with fail
        rw [HNX.out]
        go_wp2
        go_roundw
        case rel =>
          exact ⟨k + 1, ns, cur ++ [c], true, by omega, cat_S cur c, rfl, HRD.out.more (by rw [get_list t k hlt, hc]), iterSet_at hit, hob.iter hit, hblk.grown (iterSet_grown _ _ _ _) (by simp), hbel.grown (iterSet_grown _ _ _ _) hbel.size (fun k hk => by injection hk with hk; omega)⟩
        case measure =>
          rw [iterPos_at (iterSet_at hit), iterPos_at hit]; omega
      | false =>
        have hcv := conv_ascii c hcA
        have hcl : ¬ 9223372036854775807 < cur.length + 1 := by have := HRD.out.len; omega
        have hck : t.data.toList[k]? = some c := by rw [get_list t k hlt, hc]
        have HCK := Lib.hid hck
        clear hck
        have HNX := Lib.hid hnx
        clear hnx
        cases hd : Pl.isDig c with
        | true =>
          have HD := Lib.hid hd
          go_wp2_with fail
          rw [HNX.out]
          go_wp2_with (go_at_call 112; refine (isASCIIDigit_any c.toNat hcA _).mono ?_; rintro e w' ⟨rfl, rfl⟩; rw [show (decide (48 ≤ c.toNat) && decide (c.toNat ≤ 57)) = true from HD.out])
          go_roundw
          case rel =>
            exact ⟨k + 1, ns, cur ++ [c], false, by omega, cat_S cur c, rfl, HRD.out.dig HCK.out HD.out, iterSet_at hit, hob.iter hit, hblk.grown (iterSet_grown _ _ _ _) (by simp), hbel.grown (iterSet_grown _ _ _ _) hbel.size (fun k hk => by injection hk with hk; omega)⟩
          case measure =>
            rw [iterPos_at (iterSet_at hit), iterPos_at hit]; omega
        | false =>
          have HD := Lib.hid hd
          by_cases hcur : cur = []
          · subst hcur
            cases h46 : ((c.toNat : Int) == 46) with
            | true =>
              have hc46 : c = 46 := by rw [beq_iff_eq] at h46; exact UInt8.toNat_inj.1 (by rw [show (46 : UInt8).toNat = 46 from rfl]; omega)
              have HC46 := Lib.hid hc46
              clear hc46
              go_wp2_with fail
              rw [HNX.out]
              go_wp2_with (go_at_call 112; refine (isASCIIDigit_any c.toNat hcA _).mono ?_; rintro e w' ⟨rfl, rfl⟩; rw [show (decide (48 ≤ c.toNat) && decide (c.toNat ≤ 57)) = false from HD.out])
              go_roundw
              case rel =>
                refine ⟨k + 1, ns, [], false, by omega, rfl, rfl, ?_, iterSet_at hit, hob.iter hit, hblk.grown (iterSet_grown _ _ _ _) (by simp), hbel.grown (iterSet_grown _ _ _ _) hbel.size (fun k hk => by injection hk with hk; omega)⟩
                have := HRD.out.dot (by rw [HCK.out, HC46.out])
                rwa [if_pos rfl] at this
              case measure =>
                rw [iterPos_at (iterSet_at hit), iterPos_at hit]; omega
            | false =>
              have hcb : Pl.coreB c = false := by
                rw [Pl.coreB, HD.out, Bool.false_or, beq_eq_false_iff_ne]
                rintro rfl
                exact absurd h46 (by decide)
              have HCB := Lib.hid hcb
              clear hcb
              go_wp2_with fail
              rw [HNX.out]
              go_wp2_with (go_at_call 112; refine (isASCIIDigit_any c.toNat hcA _).mono ?_; rintro e w' ⟨rfl, rfl⟩; rw [show (decide (48 ≤ c.toNat) && decide (c.toNat ≤ 57)) = false from HD.out])
              go_roundw
              case rel =>
                refine ⟨k + 1, ns, [c], true, by omega, rfl, rfl, ?_, iterSet_at hit, hob.iter hit, hblk.grown (iterSet_grown _ _ _ _) (by simp), hbel.grown (iterSet_grown _ _ _ _) hbel.size (fun k hk => by injection hk with hk; omega)⟩
                have := HRD.out.build HCK.out HCB.out
                rwa [if_pos rfl] at this
              case measure =>
                rw [iterPos_at (iterSet_at hit), iterPos_at hit]; omega
          · have hcur1 : cur.isEmpty = false := by simpa using hcur
            obtain ⟨W0, hW0⟩ : ∃ W0, iterSet wr (w.heap.size + 1) t (k + 1) = W0 := ⟨_, rfl⟩
            have hit0 : IterAt W0 (w.heap.size + 1) t (k + 1) := by rw [← hW0]; exact iterSet_at hit
            have hob0 : OwnBigs W0 (w.heap.size + 2) u3 ns := by rw [← hW0]; exact hob.iter hit
            have hblk0 : Blk W0 w.heap.size 56 #[.bool false, .slice none 0 0, .string ⟨#[]⟩, .string ⟨#[]⟩] := by rw [← hW0]; exact hblk.grown (iterSet_grown _ _ _ _) (by simp)
            have hbel0 : Below w.heap.size w W0 := by rw [← hW0]; exact hbel.grown (iterSet_grown _ _ _ _) hbel.size (fun k hk => by injection hk with hk; omega)
            obtain ⟨hcd, hcl2⟩ := HRD.out.digs
            have had : Pl.allDig cur = true := by
              rw [Pl.allDig, Bool.and_eq_true]
              exact ⟨hcd, by rw [hcur1]; rfl⟩
            have hkn : Pl.idKnown1 cur = true := by
              rw [Pl.idKnown1]
              cases hcu : cur with
              | nil => rfl
              | cons x r =>
                rw [hcu] at hcd
                rw [List.all_cons, Bool.and_eq_true] at hcd
                have h45 : x ≠ 45 := by rintro rfl; exact absurd hcd.1 (by decide)
                have h43 : x ≠ 43 := by rintro rfl; exact absurd hcd.1 (by decide)
                simp [h45, h43]
            obtain ⟨W1, hW1⟩ : ∃ W1, W0.alloc (.cells #[.bool false, .slice none 0 0] 128) = W1 := ⟨_, rfl⟩
            have hbW1 : Below W0.heap.size W0 W1 := by rw [← hW1]; exact (Below.refl _ _).alloc (Nat.le_refl _) _
            have hZ1 : Blk W1 W0.heap.size 128 #[.bool false, .slice none 0 0] := by rw [← hW1]; exact Blk.new _ _ _
            have hsz1 : W1.heap.size = W0.heap.size + 1 := by rw [← hW1]; simp
            have hVW1 := (hV.below hbel0).below hbW1
            have hSET := SetString_any W0.heap.size ⟨cur.toArray⟩ pe pn W1 (by rw [S_size]; omega) hVW1.1 (by have := hV.lt; have := hbel0.size; omega) hZ1 hkn
            have HSET := Lib.hid hSET
            have HAD := Lib.hid had
            have HW0 := Lib.hid hW0
            have HW1 := Lib.hid hW1
            clear hSET had hkn hcd hW0 hW1
            obtain ⟨i0, hi, hz0, hz1, hz2⟩ := info_parts info123
            have hnl : ns.length ≤ 900000 := by have := HRD.out.count; rw [len_list] at this; omega
            cases h46 : ((c.toNat : Int) == 46) with
            | true =>
              have hc46 : c = 46 := by rw [beq_iff_eq] at h46; exact UInt8.toNat_inj.1 (by rw [show (46 : UInt8).toNat = 46 from rfl]; omega)
              have HC46 := Lib.hid hc46
              clear hc46
              go_wp2_with fail
              rw [HNX.out, HW0.out]
              go_wp2_with (first
              | (go_at_call 112; refine (isASCIIDigit_any c.toNat hcA _).mono ?_; rintro e w' ⟨rfl, rfl⟩; rw [show (decide (48 ≤ c.toNat) && decide (c.toNat ≤ 57)) = false from HD.out])
              | (go_at_call 113; rw [HW1.out]; refine HSET.out.mono ?_; intro e w2 hset; obtain ⟨hF, rfl, hI⟩ := set_yes HAD.out hset; have hb2 := FrB.below (hF.mono (by omega)) hbW1 (Nat.le_refl _); obtain ⟨Zs, z1, z2, z3⟩ := hob0.below hb2; have hb2s := Nat.le_trans hit0.lt hb2.size)
              | (at_builtin; refine wpList_app1 _ rfl (.tmp 43) (.tmp 45) 53 rfl (w.heap.size + 2) 123 i0 _ 8 Tryz.underlying53 hi hz0 hz1 hz2 rfl _ _ _ rfl z2 (PtrV W0.heap.size) rfl rfl (by omega) (by omega) hb2s ?_; intro g cap w3 hown3 hg3 hat3 hb3))
              go_roundw
              case rel =>
                have hlt2 := fun k hk => (World.ownsRow.lt z2 k hk).1
                refine ⟨k + 1, ns ++ [Pl.natOf cur], [], false, by omega, rfl, rfl, ?_, (hit0.below hb2 hit0.lt).grown hg3 (fun e => by have := hlt2 _ e.symm; omega), OwnBigs.append z1 z2 z3 hI hown3 hg3, (hblk0.below hb2 hblk0.lt).grown hg3 (fun e => by have := hlt2 _ e.symm; omega), hbel0.trans ((hb2.mono hbel0.size).trans (hb3.mono (by omega)))⟩
                have := HRD.out.dot (by rw [HCK.out, HC46.out])
                rwa [if_neg hcur] at this
              case measure =>
                rw [iterPos_at ((hit0.below hb2 hit0.lt).grown hg3 (fun e => by have := (World.ownsRow.lt z2 _ e.symm).1; omega)), iterPos_at hit]; omega
            | false =>
              have hcb : Pl.coreB c = false := by
                rw [Pl.coreB, HD.out, Bool.false_or, beq_eq_false_iff_ne]
                rintro rfl
                exact absurd h46 (by decide)
              have HCB := Lib.hid hcb
              clear hcb
              go_wp2_with fail
              rw [HNX.out, HW0.out]
              go_wp2_with (first
              | (go_at_call 112; refine (isASCIIDigit_any c.toNat hcA _).mono ?_; rintro e w' ⟨rfl, rfl⟩; rw [show (decide (48 ≤ c.toNat) && decide (c.toNat ≤ 57)) = false from HD.out])
              | (go_at_call 113; rw [HW1.out]; refine HSET.out.mono ?_; intro e w2 hset; obtain ⟨hF, rfl, hI⟩ := set_yes HAD.out hset; have hb2 := FrB.below (hF.mono (by omega)) hbW1 (Nat.le_refl _); obtain ⟨Zs, z1, z2, z3⟩ := hob0.below hb2; have hb2s := Nat.le_trans hit0.lt hb2.size)
              | (at_builtin; refine wpList_app1 _ rfl (.tmp 43) (.tmp 45) 53 rfl (w.heap.size + 2) 123 i0 _ 8 Tryz.underlying53 hi hz0 hz1 hz2 rfl _ _ _ rfl z2 (PtrV W0.heap.size) rfl rfl (by omega) (by omega) hb2s ?_; intro g cap w3 hown3 hg3 hat3 hb3))
              go_roundw
              case rel =>
                have hlt2 := fun k hk => (World.ownsRow.lt z2 k hk).1
                refine ⟨k + 1, ns ++ [Pl.natOf cur], [c], true, by omega, rfl, rfl, ?_, (hit0.below hb2 hit0.lt).grown hg3 (fun e => by have := hlt2 _ e.symm; omega), OwnBigs.append z1 z2 z3 hI hown3 hg3, (hblk0.below hb2 hblk0.lt).grown hg3 (fun e => by have := hlt2 _ e.symm; omega), hbel0.trans ((hb2.mono hbel0.size).trans (hb3.mono (by omega)))⟩
                have := HRD.out.build HCK.out HCB.out
                rwa [if_neg hcur] at this
              case measure =>
                rw [iterPos_at ((hit0.below hb2 hit0.lt).grown hg3 (fun e => by have := (World.ownsRow.lt z2 _ e.symm).1; omega)), iterPos_at hit]; omega
    · obtain rfl : k = t.size := by omega
      have hnx := run_next_done hit 0 hlt
      have HNX := Lib.hid hnx
      clear hnx
      have c0 := hblk.cell 0
      have c1 := hblk.cell 1
      have c2 := hblk.cell 2
      have c3 := hblk.cell 3
      have f0 := hblk.frozen 0
      have f1 := hblk.frozen 1
      have f2 := hblk.frozen 2
      have f3 := hblk.frozen 3
      simp at c0 c1 c2 c3
      cases fb with
      | true =>
        have hdone := Pl.Read.doneB HT.out (by rw [len_list]; exact HRD.out)
        have HDONE := Lib.hid hdone
        clear hdone
        obtain ⟨Zs, z1, z2, z3⟩ := hob
        obtain ⟨A, cp, rfl⟩ := own_form z2
        go_wp2_with fail
        rw [HNX.out]
        go_wp2_with fail
        refine bodyPost_ret (v := .agg #[.bool (headIs 118 s.data.toList), .slice A ns.length cp, S cur, .string s]) (by simp [results, Tryz.results92, go_sem, c0, c1, c2, c3]) rfl ⟨A, cp, ?_, ?_, ?_⟩
        · rw [HDONE.out.1, HDONE.out.2]; rfl
        · rw [HDONE.out.1]
          exact OwnBigs.four (OwnBigs.lower ⟨Zs, z1, z2, z3⟩ (by omega)) hblk
        · exact (((hbel.setCell (Nat.le_refl _) _).setCell (Nat.le_refl _) _).setCell (Nat.le_refl _) _).setCell (Nat.le_refl _) _
      | false =>
        have hdone := Pl.Read.done HT.out (by rw [len_list]; exact HRD.out)
        have HDONE := Lib.hid hdone
        clear hdone
        by_cases hcur : cur = []
        · subst hcur
          rw [if_pos rfl] at HDONE
          obtain ⟨Zs, z1, z2, z3⟩ := hob
          obtain ⟨A, cp, rfl⟩ := own_form z2
          go_wp2_with fail
          rw [HNX.out]
          go_wp2_with fail
          refine bodyPost_ret (v := .agg #[.bool (headIs 118 s.data.toList), .slice A ns.length cp, S [], .string s]) (by simp [results, Tryz.results92, go_sem, c0, c1, c2, c3]) rfl ⟨A, cp, ?_, ?_, ?_⟩
          · rw [HDONE.out.1, HDONE.out.2]; rfl
          · rw [HDONE.out.1]
            exact OwnBigs.four (OwnBigs.lower ⟨Zs, z1, z2, z3⟩ (by omega)) hblk
          · exact (((hbel.setCell (Nat.le_refl _) _).setCell (Nat.le_refl _) _).setCell (Nat.le_refl _) _).setCell (Nat.le_refl _) _
        · have hcur1 : cur.isEmpty = false := by simpa using hcur
          obtain ⟨hcd, hcl2⟩ := HRD.out.digs
          rw [if_neg hcur] at HDONE
          have had : Pl.allDig cur = true := by
            rw [Pl.allDig, Bool.and_eq_true]
            exact ⟨hcd, by rw [hcur1]; rfl⟩
          have hkn : Pl.idKnown1 cur = true := by
            rw [Pl.idKnown1]
            cases hcu : cur with
            | nil => rfl
            | cons x r =>
              rw [hcu] at hcd
              rw [List.all_cons, Bool.and_eq_true] at hcd
              have h45 : x ≠ 45 := by rintro rfl; exact absurd hcd.1 (by decide)
              have h43 : x ≠ 43 := by rintro rfl; exact absurd hcd.1 (by decide)
              simp [h45, h43]
          obtain ⟨W1, hW1⟩ : ∃ W1, wr.alloc (.cells #[.bool false, .slice none 0 0] 128) = W1 := ⟨_, rfl⟩
          have hbW1 : Below wr.heap.size wr W1 := by rw [← hW1]; exact (Below.refl _ _).alloc (Nat.le_refl _) _
          have hZ1 : Blk W1 wr.heap.size 128 #[.bool false, .slice none 0 0] := by rw [← hW1]; exact Blk.new _ _ _
          have hsz1 : W1.heap.size = wr.heap.size + 1 := by rw [← hW1]; simp
          have hVW1 := (hV.below hbel).below hbW1
          have hSET := SetString_any wr.heap.size ⟨cur.toArray⟩ pe pn W1 (by rw [S_size]; omega) hVW1.1 (by have := hV.lt; have := hbel.size; omega) hZ1 hkn
          have HSET := Lib.hid hSET
          have HAD := Lib.hid had
          have HW1 := Lib.hid hW1
          have hnl : ns.length ≤ 900000 := by have := HRD.out.count; rw [len_list] at this; omega
          obtain ⟨i0, hi, hz0, hz1, hz2⟩ := info_parts info123
          clear hSET had hkn hcd hW1
          go_wp2_with fail
          rw [HNX.out]
          go_wp2_with (first
            | (go_at_call 113; rw [HW1.out]; refine HSET.out.mono ?_; intro e w2 hset; obtain ⟨hF, rfl, hI⟩ := set_yes HAD.out hset; have hb2 := FrB.below (hF.mono (by omega)) hbW1 (Nat.le_refl _); obtain ⟨Zs, z1, z2, z3⟩ := hob.below hb2; have hb2s := Nat.le_trans hit.lt hb2.size)
            | (at_builtin; refine wpList_app1 _ rfl (.tmp 63) (.tmp 65) 53 rfl (w.heap.size + 2) 123 i0 _ 8 Tryz.underlying53 hi hz0 hz1 hz2 rfl _ _ _ rfl z2 (PtrV wr.heap.size) rfl rfl (by omega) (by omega) hb2s ?_; intro g cap w3 hown3 hg3 hat3 hb3; have hlt2 := fun k hk => (World.ownsRow.lt z2 k hk).1; have hR3 := (hblk.below hb2 hblk.lt).grown hg3 (fun e => by have := hlt2 _ e.symm; omega); have d0 := hR3.cell 0; have d1 := hR3.cell 1; have d2 := hR3.cell 2; have d3 := hR3.cell 3; have e0 := hR3.frozen 0; have e1 := hR3.frozen 1; have e2 := hR3.frozen 2; have e3 := hR3.frozen 3; simp at d0 d1 d2 d3))
          have hnn : (ns ++ [Pl.natOf cur]).length = ns.length + 1 := by simp
          refine bodyPost_ret (v := .agg #[.bool (headIs 118 s.data.toList), .slice (some ⟨g, 0, none⟩) (ns.length + 1) cap, S [], .string s]) (by simp [results, Tryz.results92, go_sem, d0, d1, d2, d3]) rfl ⟨some ⟨g, 0, none⟩, cap, ?_, ?_, ?_⟩
          · rw [HDONE.out.1, HDONE.out.2, hnn]; rfl
          · rw [HDONE.out.1, hnn]
            exact OwnBigs.four (OwnBigs.lower (OwnBigs.append z1 z2 z3 hI hown3 hg3) (by omega)) hR3
          · have hb3' := hbel.trans ((hb2.mono hbel.size).trans (hb3.mono (by omega)))
            exact (((hb3'.setCell (Nat.le_refl _) _).setCell (Nat.le_refl _) _).setCell (Nat.le_refl _) _).setCell (Nat.le_refl _) _
theorem fetch_any (p : Nat) (v : Bool) (A : Option Addr) (n c : Nat) (bd og : ByteArray) (m : Int) (w : World) (hb : Blk w p 56 #[.bool v, .slice A n c, .string bd, .string og]) (hm : (n : Int) ≤ m) :
    Calls Tryz.prog 114 #[.pointer (some ⟨p, 0, none⟩), .int .i64 m] w fun e w' => e = .returned (.tuple #[.slice A n c, .string bd]) ∧ ∃ q, w' = w.drewN q := by
  have c1 := hb.cell 1
  have c2 := hb.cell 2
  simp at c1 c2
  have hm1 : (m == -1) = false := by rw [beq_eq_false_iff_ne]; omega
  go_enter Tryz.func114, Tryz.ntmps114
  go_wp2_with fail
  go_quiet (fail)
  go_wp2
  exact bodyPost_ret (v := .tuple #[.slice A n c, .string bd]) (by simp [results, Tryz.results114, go_sem]) rfl ⟨rfl, _, rfl⟩
set_option maxRecDepth 100000 in
theorem parseVersion_any (s : ByteArray) (m : Int) (pe pn pi : Addr) (w : World) (hs : s.size ≤ 30000) (hV : PkgVars w pe pn pi) (hasc : Pl.ascii s.data.toList = true) (hm : ((Pl.numsOf s.data.toList).length : Int) ≤ m) :
    Calls Tryz.prog 93 #[.string s, .int .i64 m] w (ParseBack w s) := by
  obtain ⟨W, hW⟩ : ∃ W, w.alloc (.cells #[.bool false, .slice none 0 0, .string ⟨#[]⟩, .string ⟨#[]⟩] 56) = W := ⟨_, rfl⟩
  have hbW : Below w.heap.size w W := by rw [← hW]; exact (Below.refl _ _).alloc (Nat.le_refl _) _
  have hRW : Blk W w.heap.size 56 #[.bool false, .slice none 0 0, .string ⟨#[]⟩, .string ⟨#[]⟩] := by rw [← hW]; exact Blk.new _ _ _
  have HC := Lib.hid (parse_any s pe pn pi W hs (hV.below hbW) hasc)
  have HW := Lib.hid hW
  clear hW
  go_enter Tryz.func93, Tryz.ntmps93
  go_wp2_with fail
  rw [HW.out]
  refine HC.out.mono ?_; rintro e w1 ⟨A, c, rfl, hob, hb1⟩
  have hR1 := hRW.below hb1 hRW.lt
  obtain ⟨X, hX⟩ : ∃ X, w1.alloc (.cells #[.bool (Pl.startsV s.data.toList), .slice A (Pl.numsOf s.data.toList).length c, .string ⟨(Pl.buildOf s.data.toList).toArray⟩, .string s] 56) = X := ⟨_, rfl⟩
  have hbX : Below w1.heap.size w1 X := by rw [← hX]; exact (Below.refl _ _).alloc (Nat.le_refl _) _
  have hV5 : Blk X w1.heap.size 56 #[.bool (Pl.startsV s.data.toList), .slice A (Pl.numsOf s.data.toList).length c, .string ⟨(Pl.buildOf s.data.toList).toArray⟩, .string s] := by rw [← hX]; exact Blk.new _ _ _
  have hRX := hR1.below hbX hR1.lt
  have hobX := hob.below hbX
  have HX := Lib.hid hX
  clear hX
  go_wp2_with fail
  rw [HX.out]
  refine (fetch_any _ _ _ _ _ _ _ m X hV5 hm).mono ?_; rintro e w3 ⟨rfl, q, rfl⟩
  have hR3 : Blk (X.drewN q) w.heap.size 56 #[.bool false, .slice none 0 0, .string ⟨#[]⟩, .string ⟨#[]⟩] := hRX
  have hV3 : Blk (X.drewN q) w1.heap.size 56 #[.bool (Pl.startsV s.data.toList), .slice A (Pl.numsOf s.data.toList).length c, .string ⟨(Pl.buildOf s.data.toList).toArray⟩, .string s] := hV5
  have hob3 : OwnBigs (X.drewN q) W.heap.size (.slice A (Pl.numsOf s.data.toList).length c) (Pl.numsOf s.data.toList) := hobX
  have hbel3 : Below w.heap.size w (X.drewN q) := below_drewN (hbW.trans ((hb1.mono hbW.size).trans (hbX.mono (Nat.le_trans hbW.size hb1.size)))) q
  generalize X.drewN q = Y at hR3 hV3 hob3 hbel3 ⊢
  have c0 := hV3.cell 0
  have c3 := hV3.cell 3
  have d0 := hR3.cell 0
  have d1 := hR3.cell 1
  have d2 := hR3.cell 2
  have d3 := hR3.cell 3
  have e0 := hR3.frozen 0
  have e1 := hR3.frozen 1
  have e2 := hR3.frozen 2
  have e3 := hR3.frozen 3
  simp at c0 c3 d0 d1 d2 d3
  go_wp2
  refine bodyPost_ret (v := .agg #[.bool (Pl.startsV s.data.toList), .slice A (Pl.numsOf s.data.toList).length c, S (Pl.buildOf s.data.toList), .string s]) (by simp [results, Tryz.results93, go_sem, d0, d1, d2, d3]) rfl ⟨A, c, rfl, ?_, ?_⟩
  · exact OwnBigs.four (OwnBigs.lower hob3 hbW.size) hR3
  · exact (((hbel3.setCell (Nat.le_refl _) _).setCell (Nat.le_refl _) _).setCell (Nat.le_refl _) _).setCell (Nat.le_refl _) _
end Go.Proofs.YtgfkdjmoflbmdaaGreatDoor
