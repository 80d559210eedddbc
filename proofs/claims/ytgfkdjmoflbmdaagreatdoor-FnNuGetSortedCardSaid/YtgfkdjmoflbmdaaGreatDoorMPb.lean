/- Walk: FnNuGetSorted. -/
import Derived.Test.YtgfkdjmoflbmdaaGreatDoorMPa
import Derived.ArgAppend
import Derived.Laws.AppendOwnNone
import Derived.Deep.CutBlock
import Derived.Deep.DeepCutAuto
import Derived.Deep.RegionLaw
namespace Go.Proofs.YtgfkdjmoflbmdaaGreatDoor
open Go.RowKit
open Go.Proofs

section
variable {P : Program} {w : World} {ops : Array Oper} {o : Oper} {a : Act} {K : Act → World → Prop} {Q : Exit → Act → World → Prop} {E : Prop}
/-- append(v, xs...) at a step of a region that draws: v one's own and not empty, xs nil or not -/
theorem step_app_any (hgd : o.guard = none) (s x : Operand) (t : TypeId) (ho : o.op = .call { callee := .builtin .append, args := #[s, x], argTypes := #[t, t] })
    (base : Nat) (e : TypeId) (i : TypeInfo) (z : Value) (size bytes : Nat) (ht : P.underlying t = some (.slice e)) (hi : P.info? e = some i) (hz : i.zero = some z)
    (hsize : i.size = size) (hby : i.bytes = bytes) (hzs : z.cells.size = size) (hsz : 0 < size)
    (v : Value) (n : Nat) (xs : List Value) (hs : a.eval s = v) (hown : w.ownsRow base e size v n xs) (hn : 0 < n)
    (ao : Option Addr) (m c : Nat) (news : List Value) (hx : a.eval x = .slice ao m c) (hnone : ao = none → m = 0 ∧ c = 0) (hl : news.length = m * size) (hnews : ∀ ad, ao = some ad → ∀ j u, news[j]? = some u → w.cell? (ad.add j) = some u) (h1 : ∀ u ∈ news, u.oneCell' = true)
    (h63 : n + m ≤ maxLen) (hbytes : (n + m) * bytes ≤ 140737488355328) (hbase : base ≤ w.heap.size)
    (h : ∀ g cap w', w'.ownsRow base e size (.slice (some ⟨g, 0, none⟩) (n + m) cap) (n + m) (xs ++ news) → w.grownBy w' v.ownBlock → K (a.put o.dst (.slice (some ⟨g, 0, none⟩) (n + m) cap)) w') :
    if Region.wanted o (yielded ops a.tmps) = true then Oper.wp P o a w K Q else E := by
  have hw : Region.wanted o (yielded ops a.tmps) = true := by simp [Region.wanted, hgd]
  rw [if_pos hw]
  cases ao with
  | none =>
    obtain ⟨rfl, rfl⟩ := hnone rfl
    have hnw : news = [] := List.eq_nil_of_length_eq_zero (by simpa using hl)
    subst hnw
    obtain ⟨g, cap, rfl, _, _⟩ := hown.form hn
    have hrun := run_append_owned_none (P := P) (w := w) base t o.type e i size ht hi _ n xs hown
    unfold Oper.wp
    simp [execOp, ho, resolve, invoke, builtin, hs, hx, hrun, Result.andThen]
    have := h g cap w (by simpa using hown) (World.grownBy.refl _ _)
    simp only [Nat.add_zero] at this
    exact this
  | some ad =>
    obtain ⟨v', w', hrun, k1, k2, _⟩ := run_append_own (P := P) w base t o.type e i z size bytes ht hi hz hsize hby hzs hsz v n xs hown ad m c news hl (hnews ad rfl) h1 h63 hbytes hbase
    obtain ⟨g, cap, rfl, _, _⟩ := k1.form (by omega)
    unfold Oper.wp
    simp [execOp, ho, resolve, invoke, builtin, hs, hx, hrun, Result.andThen]
    exact h g cap w' k1 k2
/-- append where it must grow -/
theorem step_app_grow (hgd : o.guard = none) (s x : Operand) (t : TypeId) (ho : o.op = .call { callee := .builtin .append, args := #[s, x], argTypes := #[t, t] })
    (e : TypeId) (i : TypeInfo) (z : Value) (size bytes : Nat) (ht : P.underlying t = some (.slice e)) (hi : P.info? e = some i) (hz : i.zero = some z)
    (hsize : i.size = size) (hby : i.bytes = bytes) (hzs : z.cells.size = size) (hsz : 0 < size)
    (ao : Option Addr) (n cap : Nat) (olds : List Value) (hs : a.eval s = .slice ao n cap) (hnone : ao = none → n = 0 ∧ cap = 0) (hlo : olds.length = n * size) (holds : ∀ b, ao = some b → ∀ j u, olds[j]? = some u → w.cell? (b.add j) = some u)
    (ad : Addr) (m c : Nat) (news : List Value) (hx : a.eval x = .slice (some ad) m c) (hl : news.length = m * size) (hnews : ∀ j u, news[j]? = some u → w.cell? (ad.add j) = some u)
    (hfull : cap < n + m) (h63 : n + m ≤ maxLen) (hbytes : (n + m) * bytes ≤ 140737488355328) (h1 : ∀ u ∈ news, u.oneCell' = true)
    (h : ∀ g cap w', w'.ownsRow w.heap.size e size (.slice (some ⟨g, 0, none⟩) (n + m) cap) (n + m) (olds ++ news) → w.grownBy w' none → K (a.put o.dst (.slice (some ⟨g, 0, none⟩) (n + m) cap)) w') :
    if Region.wanted o (yielded ops a.tmps) = true then Oper.wp P o a w K Q else E := by
  have hw : Region.wanted o (yielded ops a.tmps) = true := by simp [Region.wanted, hgd]
  rw [if_pos hw]
  cases ao with
  | some b =>
    obtain ⟨v', w', hrun, r1, r2⟩ := run_append_arg_grows (P := P) w t o.type e i z size bytes ht hi hz hsize hby hzs hsz b n cap olds hlo (holds b rfl) ad m c news hl hnews hfull h63 hbytes
    obtain ⟨g, cap', rfl, _, _⟩ := r1.form (by omega)
    unfold Oper.wp
    simp [execOp, ho, resolve, invoke, builtin, hs, hx, hrun, Result.andThen]
    exact h g cap' w' r1 r2
  | none =>
    obtain ⟨rfl, rfl⟩ := hnone rfl
    have ho0 : olds = [] := List.eq_nil_of_length_eq_zero (by simpa using hlo)
    subst ho0
    obtain ⟨v', w', hrun, k1, k2, _⟩ := run_append_own (P := P) w w.heap.size t o.type e i z size bytes ht hi hz hsize hby hzs hsz (.slice none 0 0) 0 [] (World.ownsRow_nil _ _ _ _) ad m c news hl hnews h1 h63 hbytes (Nat.le_refl _)
    obtain ⟨g, cap', rfl, _, _⟩ := k1.form (by omega)
    unfold Oper.wp
    simp [execOp, ho, resolve, invoke, builtin, hs, hx, hrun, Result.andThen]
    have := h g cap' w' k1 k2
    simp only [Nat.zero_add] at this
    exact this
/-- []T{u}, laid just now, and what stands behind the place m -/
theorem step_ins_in {w1 : World} {u : Value} (hgd : o.guard = none) (s x : Operand) (t : TypeId) (ho : o.op = .call { callee := .builtin .append, args := #[s, x], argTypes := #[t, t] })
    (e : TypeId) (i : TypeInfo) (z : Value) (bytes : Nat) (ht : P.underlying t = some (.slice e)) (hi : P.info? e = some i) (hz : i.zero = some z)
    (hsize : i.size = 1) (hby : i.bytes = bytes) (hzs : z.cells.size = 1) (hbt : bytes ≤ 64)
    (A : Option Addr) (n d m : Nat) (ys : List Value) (hrd : Rd w1 1 A n ys) (hmn : m ≤ n) (hnl : n ≤ 1000000) (h1 : ∀ v ∈ ys, v.oneCell' = true) (_hu : u.oneCell' = true)
    (hs : a.eval s = .slice (some ⟨w1.heap.size, 0, none⟩) 1 1) (ao : Option Addr) (hx : a.eval x = .slice ao (n - m) d) (hao : (ao = none ∧ n = 0 ∧ d = 0) ∨ (∃ g k, A = some ⟨g, 0, none⟩ ∧ ao = some ⟨g, k, none⟩ ∧ (k = m ∨ n = m)))
    (h : ∀ g cap w', w'.ownsRow w1.heap.size e 1 (.slice (some ⟨g, 0, none⟩) (1 + (n - m)) cap) (1 + (n - m)) (u :: ys.drop m) → Below w1.heap.size w1 w' → K (a.put o.dst (.slice (some ⟨g, 0, none⟩) (1 + (n - m)) cap)) w') :
    if Region.wanted o (yielded ops a.tmps) = true then Oper.wp P o a (w1.alloc (.cells #[u] e)) K Q else E := by
  have hown : (w1.alloc (.cells #[u] e)).ownsRow w1.heap.size e 1 (.slice (some ⟨w1.heap.size, 0, none⟩) 1 1) 1 [u] :=
    ⟨rfl, .inr ⟨w1.heap.size, 1, #[u], rfl, Nat.le_refl _, heap_alloc_new w1 _, Nat.le_refl _, by unfold maxLen; omega, rfl, rfl⟩⟩
  have hyl : ys.length = n := by have := hrd.1; omega
  have hb : (1 + (n - m)) * bytes ≤ 140737488355328 := Nat.le_trans (Nat.mul_le_mul (show 1 + (n - m) ≤ 1000001 by omega) hbt) (by omega)
  refine step_app_any hgd s x t ho w1.heap.size e i z 1 bytes ht hi hz hsize hby hzs (by omega) _ 1 [u] hs hown (by omega) ao (n - m) d (ys.drop m) hx ?_ (by simp [hyl]) ?_ (fun v hv => h1 v (List.mem_of_mem_drop hv)) (by unfold maxLen; omega) hb (by simp) ?_
  · intro h0
    rcases hao with ⟨_, h2, h3⟩ | ⟨g, k, _, h2, _⟩
    · exact ⟨by omega, h3⟩
    · rw [h0] at h2; cases h2
  · intro ad had j v hv
    rcases hao with ⟨h2, _⟩ | ⟨g, k, hA, h2, hk⟩
    · rw [h2] at had; cases had
    · rw [h2] at had
      injection had with had
      subst had
      have hj : j < n - m := by
        have := (List.getElem?_eq_some_iff.1 hv).1
        simp [hyl] at this; omega
      have hkm : k = m := by omega
      subst hkm
      obtain ⟨b, off, hA2, hc⟩ := hrd.2 (by omega)
      rw [hA] at hA2
      injection hA2 with hA2
      injection hA2 with e1 e2
      subst e1; subst e2
      rw [Addr.add_lit]
      have hc2 := hc (k + j) v (by rw [← hv, List.getElem?_drop])
      rw [Nat.zero_add] at hc2
      exact (World.cell?_alloc_lt w1 _ _ (World.block_lt_of_cell? w1 _ hc2)).trans hc2
  · intro g cap w' k1 k2
    refine h g cap w' (by simpa using k1) ?_
    have hb2 : Below w1.heap.size w1 (w1.alloc (.cells #[u] e)) := (Below.refl _ _).alloc (Nat.le_refl _) _
    exact hb2.grown k2 (by simp) (fun k hk => by simp [Value.ownBlock] at hk; omega)
/-- what stands ahead of the place m, and a row of one's own behind it -/
theorem step_ins_out (hgd : o.guard = none) (s x : Operand) (t : TypeId) (ho : o.op = .call { callee := .builtin .append, args := #[s, x], argTypes := #[t, t] })
    (e : TypeId) (i : TypeInfo) (z : Value) (bytes : Nat) (ht : P.underlying t = some (.slice e)) (hi : P.info? e = some i) (hz : i.zero = some z)
    (hsize : i.size = 1) (hby : i.bytes = bytes) (hzs : z.cells.size = 1) (hbt : bytes ≤ 64)
    (A : Option Addr) (n m : Nat) (ys : List Value) (hrd : Rd w 1 A n ys) (hmn : m ≤ n) (hnl : n ≤ 1000000)
    (ao : Option Addr) (hs : a.eval s = .slice ao m m) (hao : (ao = none ∧ m = 0) ∨ (∃ g, A = some ⟨g, 0, none⟩ ∧ ao = some ⟨g, 0, none⟩))
    (base g' k cap : Nat) (news : List Value) (hx : a.eval x = .slice (some ⟨g', 0, none⟩) k cap) (hown : w.ownsRow base e 1 (.slice (some ⟨g', 0, none⟩) k cap) k news) (hk : 0 < k) (hkl : k ≤ 1000000) (h1 : ∀ v ∈ news, v.oneCell' = true)
    (h : ∀ g cap w', w'.ownsRow w.heap.size e 1 (.slice (some ⟨g, 0, none⟩) (m + k) cap) (m + k) (ys.take m ++ news) → Below w.heap.size w w' → K (a.put o.dst (.slice (some ⟨g, 0, none⟩) (m + k) cap)) w') :
    if Region.wanted o (yielded ops a.tmps) = true then Oper.wp P o a w K Q else E := by
  have hyl : ys.length = n := by have := hrd.1; omega
  have hb : (m + k) * bytes ≤ 140737488355328 := Nat.le_trans (Nat.mul_le_mul (show m + k ≤ 2000000 by omega) hbt) (by omega)
  refine step_app_grow hgd s x t ho e i z 1 bytes ht hi hz hsize hby hzs (by omega) ao m m (ys.take m) hs ?_ (by simp [hyl]; omega) ?_ ⟨g', 0, none⟩ k cap news hx hown.1 (hown.cells (g := g') rfl) (by omega) (by unfold maxLen; omega) hb h1 ?_
  · intro h0
    rcases hao with ⟨_, h2⟩ | ⟨g, _, h2⟩
    · exact ⟨h2, h2⟩
    · rw [h0] at h2; cases h2
  · intro b hb2 j v hv
    rcases hao with ⟨h2, _⟩ | ⟨g, hA, h2⟩
    · rw [h2] at hb2; cases hb2
    · rw [h2] at hb2
      injection hb2 with hb2
      subst hb2
      have hj := (List.getElem?_eq_some_iff.1 hv).1
      simp [hyl] at hj
      obtain ⟨b, off, hA2, hc⟩ := hrd.2 (by omega)
      rw [hA] at hA2
      injection hA2 with hA2
      injection hA2 with e1 e2
      subst e1; subst e2
      rw [Addr.add_lit]
      rw [List.getElem?_take] at hv
      split at hv
      · exact hc j v hv
      · cases hv
  · intro g cap2 w' k1 k2
    exact h g cap2 w' k1 ((Below.refl _ _).grown k2 (Nat.le_refl _) (fun k hk => by cases hk))
end
theorem Rd.strs {w : World} {A : Option Addr} {xs : List Pl.Bytes} (h : Rd w 1 A xs.length (xs.map S)) (h0 : 0 < xs.length) : ∃ b o, A = some ⟨b, o, none⟩ ∧ ∀ k (hk : k < xs.length), w.cell? ⟨b, o + k, none⟩ = some (S xs[k]) := by
  obtain ⟨b, o, hA, hc⟩ := h.2 h0
  exact ⟨b, o, hA, fun k hk => hc k _ (by simp [hk])⟩
theorem below_old {w w' : World} {p : Addr} {u : Value} (h : Below w.heap.size w w') (hc : w.cell? p = some u) : w'.cell? p = some u :=
  (h.cell (p := p) (World.block_lt_of_cell? w _ hc)).trans hc
theorem own_cap {w : World} {base : Nat} {e : TypeId} {size g n cap : Nat} {xs : List Value} (h : w.ownsRow base e size (.slice (some ⟨g, 0, none⟩) n cap) n xs) : n ≤ cap ∧ cap ≤ 9223372036854775807 := by
  rcases h.2 with ⟨hv, _⟩ | ⟨g', cap', cur, hv, _, _, h1, h2, _⟩
  · injection hv with h1
    cases h1
  · injection hv with _ _ h3
    subst h3
    exact ⟨h1, h2⟩
set_option maxRecDepth 100000 in
set_option maxHeartbeats 4000000 in
theorem nugetSorted_walk (A : Option Addr) (c : Nat) (xs : List Pl.Bytes) (pe pn pi : Addr) (w : World) (hr : Rd w 1 A xs.length (xs.map S)) (hl : xs.length ≤ maxLen) (hm : ∀ x ∈ xs, x.length ≤ maxLen) (hV : PkgVars w pe pn pi) (hT : VTabs w) :
    Calls Tryz.prog 9 #[.slice A xs.length c] w fun e w' => e = .returned (.bool true) ∧ Below w.heap.size w w' := by
  have HZ := Lib.hid (zzFits1_any A c xs w hr hl hm)
  unfold maxLen at hl
  clear hm
  go_enter Tryz.func9, Tryz.ntmps9
  go_wp2_with fail
  refine HZ.out.mono ?_; rintro e w1 ⟨⟨fz, rfl, hfz⟩, rfl⟩
  cases fz with
  | false =>
    go_wp2
    go_ret
    exact ⟨rfl, Below.refl _ _⟩
  | true =>
    obtain ⟨hlen, hsz⟩ := hfz rfl
    have HSZ := Lib.hid hsz
    clear hfz hsz HZ
    rcases Nat.lt_or_ge 14 xs.length with h14 | h14
    · have h14z : (14 : Int) < (xs.length : Int) := by omega
      go_wp2
      go_ret
      exact ⟨rfl, Below.refl _ _⟩
    have h14z : ¬ (14 : Int) < (xs.length : Int) := by omega
    go_wp2_with fail
    go_loopw [4, 23] (fun _ iv wr => ∃ k : Nat, k ≤ xs.length ∧ iv = .int .i64 k ∧ (∀ x ∈ xs.take k, Good x) ∧ Below w.heap.size w wr) (fun _ iv _ => xs.length - (intOf iv).toNat)
    case atStart => exact ⟨0, Nat.zero_le _, rfl, by simp, Below.refl _ _⟩
    case round =>
      obtain ⟨k, hk, rfl, hgood, hbel⟩ := hrel
      have HG := Lib.hid hgood
      clear hgood
      by_cases ha : k < xs.length
      · obtain ⟨b1, o1, rfl, hc⟩ := (hr.below hbel).str_at ha
        have hxm := HSZ.out xs[k] (List.getElem_mem ha)
        obtain ⟨x, hx⟩ : ∃ x : ByteArray, ⟨xs[k].toArray⟩ = x := ⟨_, rfl⟩
        have hxd : x.data.toList = xs[k] := by rw [← hx]
        rw [S, hx] at hc
        rw [← hxd, len_list] at hxm
        have HXD := Lib.hid hxd
        clear hx hxd
        go_wp2_with fail
        refine (few_any x 4 wr hxm (hT.below hbel)).mono ?_; rintro e w2 ⟨⟨fa, rfl, hfa⟩, hb2⟩
        have hbb2 := hbel.trans (hb2.mono hbel.size)
        cases fa with
        | false =>
          go_wp2
          go_ret
          exact ⟨rfl, hbb2⟩
        | true =>
          have HFA := Lib.hid (hfa rfl)
          clear hfa
          have hsa := HFA.out.1
          go_wp2_with fail
          refine (LikeParse_any x w2 (by omega)).mono ?_; rintro e w3 ⟨A1, c1, rfl, hown1, hb3⟩
          have hbb3 := hbb2.trans (hb3.mono hbb2.size)
          obtain ⟨X, hX⟩ : ∃ X, w3.alloc (.cells #[.bool (Pl.startsV x.data.toList), .slice A1 (Pl.numsOf x.data.toList).length c1, S (Pl.buildOf x.data.toList), .string x] 27) = X := ⟨_, rfl⟩
          have hL := Lib.hid (one_like x A1 c1 hsa hown1 hX)
          have hbX : Below w3.heap.size w3 X := by rw [← hX]; exact (Below.refl _ _).alloc (Nat.le_refl _) _
          have hbbX := hbb3.trans (hbX.mono hbb3.size)
          have HX := Lib.hid hX
          obtain ⟨tt, htt⟩ : ∃ tt, (lkOf x A1 c1).test = tt := ⟨_, rfl⟩
          rw [htt] at hL
          have HTT := Lib.hid htt
          clear hX htt
          go_wp2_with fail
          rw [HX.out]
          refine hL.out.mono ?_; rintro e w5 ⟨rfl, hb5⟩
          have hbb5 := hbbX.trans (hb5.mono hbbX.size)
          cases tt with
          | false =>
            go_wp2
            go_ret
            exact ⟨rfl, hbb5⟩
          | true =>
            have hgx : Good xs[k] := by
              rw [← HXD.out]
              exact ⟨by rw [len_list]; exact hsa, lkOf_ready HTT.out HFA.out, HFA.out.2.2⟩
            have HGX := Lib.hid hgx
            clear hgx
            go_wp2
            go_roundw
            case rel => exact ⟨k + 1, by omega, by go_num, Pl.take_all HG.out ha HGX.out, hbb5⟩
            case measure => simp [intOf]; omega
      · obtain rfl : k = xs.length := by omega
        have hgs : ∀ x ∈ xs, Good x := by have := HG.out; rwa [List.take_length] at this
        have HGS := Lib.hid hgs
        clear hgs HG hk ha
        go_wp2_with fail
        go_loopw [5, 7, 8, 9, 10, 40] (fun out _ _ _ _ iv wr => ∃ (i : Nat) (B : Option Addr) (d : Nat) (o : List Pl.Bytes), i ≤ xs.length ∧ iv = .int .i64 i ∧ out = .slice B o.length d ∧ Rd wr 1 B o.length (o.map S) ∧ o.length = i ∧ o.length ≤ d ∧ ((B = none ∧ d = 0) ∨ ∃ g, B = some ⟨g, 0, none⟩) ∧ d ≤ maxLen ∧ (∀ x ∈ o, Good x) ∧ Pl.Sorted Pl.nugetT o ∧ Below w.heap.size w wr) (fun _ _ _ _ _ iv _ => xs.length - (intOf iv).toNat)
        case atStart => exact ⟨0, none, 0, [], Nat.zero_le _, rfl, rfl, Rd.nil _ _ _, rfl, Nat.le_refl _, Or.inl ⟨rfl, rfl⟩, by unfold maxLen; omega, by simp, Pl.Sorted.nil _, by assumption⟩
        case round =>
          obtain ⟨i, B, d, o, hi, rfl, rfl, hrd, hoi, hod, hBd, hdm, hog, hso, hbel2⟩ := hrel
          have HOG := Lib.hid hog
          have HSO := Lib.hid hso
          have HBD := Lib.hid hBd
          have HOI := Lib.hid hoi
          unfold maxLen at hdm
          clear hog hso hBd hoi
          by_cases hix : i < xs.length
          · obtain ⟨b1, o1, rfl, hc⟩ := (hr.below hbel2).str_at hix
            obtain ⟨s, hs⟩ : ∃ s, xs[i] = s := ⟨_, rfl⟩
            have hgs := HGS.out xs[i] (List.getElem_mem hix)
            rw [hs] at hc hgs
            have HGX := Lib.hid hgs
            clear hs hgs
            have hol : o.length ≤ 14 := by rw [HOI.out]; omega
            go_upto_block 4 with fail
            go_cut [8] (fun kv wx => ∃ m : Nat, m ≤ o.length ∧ kv = .int .i64 m ∧ (∀ x ∈ o.take m, Pl.nugetT x s ≤ 0) ∧ (o.length ≤ m ∨ ∃ h : m < o.length, 0 < Pl.nugetT o[m] s) ∧ Below wr.heap.size wr wx)
            case first =>
              go_wp2_with fail
              go_loopw [8, 9, 10] (fun kv _ _ wx => ∃ m : Nat, m ≤ o.length ∧ kv = .int .i64 m ∧ (∀ x ∈ o.take m, Pl.nugetT x s ≤ 0) ∧ Below wr.heap.size wr wx) (fun kv _ _ _ => o.length - (intOf kv).toNat)
              case atStart => exact ⟨0, Nat.zero_le _, rfl, by simp, Below.refl _ _⟩
              case round =>
                obtain ⟨m, hmo, rfl, hle, hb3⟩ := hrel
                have HLE := Lib.hid hle
                clear hle
                by_cases hml : m < o.length
                · obtain ⟨b2, o2, rfl, hd⟩ := (hrd.below hb3).str_at hml
                  have hgo := HOG.out o[m] (List.getElem_mem hml)
                  have HNE := Lib.hid (fun w' (h : Below w.heap.size w w') => hgo.text HGX.out pe pn pi w' (hV.below h))
                  obtain ⟨r, hrr⟩ : ∃ r, Pl.nugetT o[m] s = r := ⟨_, rfl⟩
                  rw [hrr] at HNE
                  have HRR := Lib.hid hrr
                  clear hrr hgo
                  go_wp2_with fail
                  refine (HNE.out _ (hbel2.trans (hb3.mono hbel2.size))).mono ?_; rintro e w4 ⟨rfl, hb4⟩
                  by_cases hr0 : 0 < r
                  · go_wp2
                    go_meet
                    case rel => exact ⟨m, hmo, rfl, HLE.out, Or.inr ⟨hml, by rw [HRR.out]; exact hr0⟩, hb3.trans (hb4.mono hb3.size)⟩
                  · go_wp2
                    go_roundw
                    case rel => exact ⟨m + 1, by omega, by go_num, Pl.take_all HLE.out hml (by rw [HRR.out]; omega), hb3.trans (hb4.mono hb3.size)⟩
                    case measure => simp [intOf]; omega
                · go_wp2
                  go_meet
                  case rel => exact ⟨m, hmo, rfl, HLE.out, Or.inl (by omega), hb3⟩
            case rest =>
              obtain ⟨m, hmo, rfl, hle, hstop, hb3⟩ := hcut
              have HLE := Lib.hid hle
              have HST := Lib.hid hstop
              clear hle hstop
              have hrc := hrd.below hb3
              have hbel3 := hbel2.trans (hb3.mono hbel2.size)
              rcases HBD.out with ⟨rfl, rfl⟩ | ⟨g, rfl⟩
              · have ho0 : o = [] := List.eq_nil_of_length_eq_zero (by omega)
                subst ho0
                have hm0 : m = 0 := by simpa using hmo
                subst hm0
                go_upto_region 22 with fail
                clear HBD
                have hrcd : Rd wc.drew 1 none 0 [] := Rd.nil _ _ _
                have HRC := Lib.hid hrcd
                have HONE := Lib.hid (show ∀ v ∈ ([] : List Value), v.oneCell' = true from by intro v hv; cases hv)
                have HNW := Lib.hid (show ∀ v ∈ S s :: ([] : List Value).drop 0, v.oneCell' = true from by
                  intro v hv
                  rcases List.mem_cons.1 hv with hv | hv
                  · subst hv; rfl
                  · simp at hv)
                clear hrc hrcd hrd
                obtain ⟨i0, hi0, hz0, hz1, hz2⟩ := info_parts info9
                go_region_law (first
                  | (refine step_ins_in (w1 := wc.drew) rfl (.tmp 68) (.tmp 71) 38 rfl 9 i0 _ 16 Tryz.underlying38 hi0 hz0 hz1 hz2 rfl (by omega) none 0 0 0 [] HRC.out (Nat.le_refl _) (by omega) HONE.out rfl rfl none rfl (Or.inl ⟨rfl, rfl, rfl⟩) ?_; intro g2 cap2 w4 hown4 hb4)
                  | (refine step_ins_out rfl (.tmp 66) (.tmp 72) 38 rfl 9 i0 _ 16 Tryz.underlying38 hi0 hz0 hz1 hz2 rfl (by omega) none 0 0 [] (HRC.out.below hb4) (Nat.le_refl _) (by omega) none rfl (Or.inl ⟨rfl, rfl⟩) _ _ _ _ _ rfl hown4 (by omega) (by omega) HNW.out ?_; intro g5 cap5 w5 hown5 hb5))
                obtain ⟨q1, q2⟩ := own_cap hown5
                have hown6 : w5.ownsRow w4.heap.size 9 1 (.slice (some ⟨g5, 0, none⟩) 1 cap5) [s].length ([s].map S) := own_cast hown5 rfl rfl
                have hrd6 : Rd w5 1 (some ⟨g5, 0, none⟩) [s].length ([s].map S) := Rd.of_own hown6
                have hbel6 : Below w.heap.size w w5 := (hbel3.drew.trans (hb4.mono hbel3.size)).trans (hb5.mono (Nat.le_trans hbel3.size hb4.size))
                have HRD6 := Lib.hid hrd6
                have hq1 : [s].length ≤ cap5 := q1
                have HOI0 : i = 0 := by have := HOI.out; simpa using this.symm
                have HI0 := Lib.hid HOI0
                have HSS := Lib.hid (show Pl.Sorted Pl.nugetT [s] from List.pairwise_singleton _ _)
                clear hown5 hown6 hrd6 hown4 HOI0
                go_wp2
                go_roundw
                case rel => exact ⟨i + 1, some ⟨g5, 0, none⟩, cap5, [s], by omega, by go_num, rfl, HRD6.out, by rw [HI0.out]; rfl, hq1, Or.inr ⟨g5, rfl⟩, q2, by intro x hx; rw [List.mem_singleton] at hx; subst hx; exact HGX.out, HSS.out, hbel6⟩
                case measure => simp [intOf]; omega
              · go_upto_region 22 with fail
                clear HBD
                have hmd : m ≤ d := by omega
                have hnl : o.length ≤ 1000000 := by omega
                have hone : ∀ v ∈ o.map S, v.oneCell' = true := by intro v hv; obtain ⟨x, _, rfl⟩ := List.mem_map.1 hv; rfl
                have HONE := Lib.hid hone
                have hao : ((if d = m then some (⟨g, 0, none⟩ : Addr) else some ⟨g, m, none⟩) = none ∧ o.length = 0 ∧ d - m = 0) ∨ (∃ g' k, some (⟨g, 0, none⟩ : Addr) = some ⟨g', 0, none⟩ ∧ (if d = m then some (⟨g, 0, none⟩ : Addr) else some ⟨g, m, none⟩) = some ⟨g', k, none⟩ ∧ (k = m ∨ o.length = m)) := by
                  right
                  by_cases hdm2 : d = m
                  · exact ⟨g, 0, rfl, if_pos hdm2, Or.inr (by omega)⟩
                  · exact ⟨g, m, rfl, if_neg hdm2, Or.inl rfl⟩
                have HAO := Lib.hid hao
                have HNW := Lib.hid (show ∀ v ∈ S s :: (o.map S).drop m, v.oneCell' = true from by
                  intro v hv
                  rcases List.mem_cons.1 hv with hv | hv
                  · subst hv; rfl
                  · exact hone v (List.mem_of_mem_drop hv))
                have hrcd : Rd wc.drew 1 (some ⟨g, 0, none⟩) o.length (o.map S) := hrc
                have HRC := Lib.hid hrcd
                clear hone hao hrc hrcd hrd
                obtain ⟨i0, hi0, hz0, hz1, hz2⟩ := info_parts info9
                go_region_law (first
                  | (refine step_ins_in (w1 := wc.drew) rfl (.tmp 68) (.tmp 71) 38 rfl 9 i0 _ 16 Tryz.underlying38 hi0 hz0 hz1 hz2 rfl (by omega) _ o.length (d - m) m (o.map S) HRC.out hmo hnl HONE.out rfl rfl _ rfl HAO.out ?_; intro g2 cap2 w4 hown4 hb4)
                  | (refine step_ins_out rfl (.tmp 66) (.tmp 72) 38 rfl 9 i0 _ 16 Tryz.underlying38 hi0 hz0 hz1 hz2 rfl (by omega) _ o.length m (o.map S) (HRC.out.below hb4) hmo hnl _ rfl (Or.inr ⟨g, rfl, rfl⟩) _ _ _ _ _ rfl hown4 (by omega) (by omega) HNW.out ?_; intro g5 cap5 w5 hown5 hb5))
                obtain ⟨q1, q2⟩ := own_cap hown5
                obtain ⟨nn, hnn⟩ : ∃ nn, m + (1 + (o.length - m)) = nn := ⟨_, rfl⟩
                have hnn1 : nn = o.length + 1 := by omega
                have hln := len_insert o s m hmo
                rw [hnn] at hown5 q1 ⊢
                have HLN := Lib.hid (show nn = (o.take m ++ s :: o.drop m).length from by rw [hln, hnn1])
                have hown6 := own_cast (m := nn) (ys := (o.take m ++ s :: o.drop m).map S) hown5 rfl (by simp)
                have hrd6 := Rd.of_own hown6
                have hbel6 : Below w.heap.size w w5 := (hbel3.drew.trans (hb4.mono hbel3.size)).trans (hb5.mono (Nat.le_trans hbel3.size hb4.size))
                have HRD6 := Lib.hid hrd6
                have HNN := Lib.hid hnn1
                clear hnn hnn1 hln hown5 hown6 hrd6 hown4
                go_wp2
                go_roundw
                case rel => exact ⟨i + 1, some ⟨g5, 0, none⟩, cap5, o.take m ++ s :: o.drop m, by omega, by go_num, by rw [← HLN.out], by rw [← HLN.out]; exact HRD6.out, by rw [← HLN.out, HNN.out, HOI.out], by rw [← HLN.out]; exact q1, Or.inr ⟨g5, rfl⟩, q2, mem_insert HOG.out HGX.out, Pl.Sorted.insert Pl.nuget_ord HSO.out HLE.out HST.out, hbel6⟩
                case measure => simp [intOf]; omega
          · obtain rfl : i = xs.length := by omega
            have hol : o.length ≤ 14 := by rw [HOI.out]; omega
            clear HBD HOI
            obtain ⟨w9, hw9⟩ : ∃ w9, w9 = wr := ⟨_, rfl⟩
            subst hw9
            go_wp2_with fail
            go_loopw [11, 12, 13, 14, 77] (fun _ _ _ _ iv wx => ∃ p : Nat, p ≤ o.length ∧ iv = .int .i64 p ∧ Below w9.heap.size w9 wx) (fun _ _ _ _ iv _ => o.length - (intOf iv).toNat)
            case atStart => exact ⟨0, Nat.zero_le _, rfl, Below.refl _ _⟩
            case round =>
              obtain ⟨p, hp, rfl, hb3⟩ := hrel
              by_cases hpl : p < o.length
              · obtain ⟨b2, o2, rfl, HC⟩ := Rd.strs hrd (by omega)
                have HCB := Lib.hid (fun (w' : World) (h : Below w9.heap.size w9 w') (k : Nat) (hk : k < o.length) => below_old h (HC k hk))
                clear HC
                obtain ⟨w8, hw8⟩ : ∃ w8, w8 = wr := ⟨_, rfl⟩
                subst hw8
                go_wp2_with fail
                go_loopw [12, 13, 14] (fun kv _ _ wy => ∃ q : Nat, p + 1 ≤ q ∧ q ≤ o.length ∧ kv = .int .i64 q ∧ Below w9.heap.size w9 wy) (fun kv _ _ _ => o.length - (intOf kv).toNat)
                case atStart => exact ⟨p + 1, Nat.le_refl _, by omega, by go_num, hb3⟩
                case round =>
                  obtain ⟨q, hpq, hql, rfl, hb4⟩ := hrel
                  by_cases hqo : q < o.length
                  · have hx := HOG.out o[p] (List.getElem_mem hpl)
                    have hy := HOG.out o[q] (List.getElem_mem hqo)
                    have hle := Pl.Sorted.at HSO.out hpl hqo (by omega)
                    have cx := HCB.out wr.drew hb4.drew p hpl
                    have cy := HCB.out wr.drew hb4.drew q hqo
                    obtain ⟨x, hxe⟩ : ∃ x, o[p] = x := ⟨_, rfl⟩
                    obtain ⟨y, hye⟩ : ∃ y, o[q] = y := ⟨_, rfl⟩
                    have HCY := Lib.hid (fun (w' : World) (h : Below w9.heap.size w9 w') => HCB.out w' h q hqo)
                    rw [hxe] at hx hle cx
                    rw [hye] at hy hle cy HCY
                    obtain ⟨r, hrr⟩ : ∃ r, Pl.nugetT x y = r := ⟨_, rfl⟩
                    have HORD := Lib.hid (fun A1 A2 c1 c2 w5 h1 h2 => hx.order hy A1 A2 c1 c2 w5 h1 h2)
                    rw [hrr] at HORD
                    have hxl := hx.len
                    have hyl := hy.len
                    rw [hrr] at hle
                    have hr0 : ¬ 0 < r := by omega
                    clear hxe hye hx hy hrr
                    have hb4d := hb4.drew
                    go_wp2_with fail
                    go_region_with (first
                      | (go_at_call_of 17 (S x); refine (LikeParse_any ⟨x.toArray⟩ _ (by rw [S_size]; omega)).mono ?_; rintro e w4 ⟨A1, c1, rfl, hown1, hb5⟩; have hbb5 := hb4d.trans (hb5.mono hb4d.size); have cy4 := HCY.out w4 hbb5)
                      | (go_at_call_of 17 (S y); refine (LikeParse_any ⟨y.toArray⟩ _ (by rw [S_size]; omega)).mono ?_; rintro e w5 ⟨A2, c2, rfl, hown2, hb6⟩)
                      | (go_at_call 35; refine (HORD.out A1 A2 c1 c2 w5 ((Rd.of_own hown1).below hb6) (Rd.of_own hown2)).mono ?_; rintro e w6 ⟨rfl, hb7⟩))
                    all_goals
                      have hbb6 := hbb5.trans (hb6.mono hbb5.size)
                      have hbb7 := hbb6.trans (hb7.mono hbb6.size)
                      go_wp2_with fail
                      go_roundw
                      case rel => exact ⟨q + 1, by omega, by omega, by go_num, hbb7⟩
                      case measure => simp [intOf]; omega
                  · go_wp2
                    go_roundw
                    case rel => exact ⟨p + 1, by omega, by go_num, hb4⟩
                    case measure => simp [intOf]; omega
              · go_wp2
                go_ret
                exact ⟨rfl, hbel2.trans (hb3.mono hbel2.size)⟩
end Go.Proofs.YtgfkdjmoflbmdaaGreatDoor
