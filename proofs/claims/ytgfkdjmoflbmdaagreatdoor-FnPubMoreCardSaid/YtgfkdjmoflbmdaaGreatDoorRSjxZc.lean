/- Contracts; What a division leaves, by values; Contracts; What the rows' listed variables give; What the rows' listed variables give; A world that fits the. -/
import Derived.Test.YtgfkdjmoflbmdaaGreatDoorRSfxSg
import Derived.Test.YtgfkdjmoflbmdaaGreatDoorRRf
import Derived.Test.YtgfkdjmoflbmdaaGreatDoorRVs2
import Derived.Test.YtgfkdjmoflbmdaaGreatDoorRows
import Derived.Lib.LaidU8T
import Derived.PinnedBridge
import Derived.LaidLaws
import Derived.Deep.DeepHandedRow
import Derived.Deep.DeepWitnessRowRef
import Derived.Lib.LaidIn
import Derived.ProofKit
import Derived.OpenShut
import Derived.SizedLaws
namespace Go.Proofs.YtgfkdjmoflbmdaaGreatDoor
open Go.RowKit
open Go.Proofs
theorem make_fit (a : Addr) (n c m : Nat) (w : World) (h : m ≤ c) : Calls Tryz.prog 168 #[.slice (some a) n c, .int .i64 (m : Int)] w fun e w' => e = .returned (.slice (some a) m c) ∧ w = w' := by
  have h1 : (m : Int) ≤ (c : Int) := by omega
  go_enter Tryz.func168, Tryz.ntmps168
  go_wp2
  go_ret
  exact ⟨rfl, rfl⟩
def MulBk (g oz cz lz V : Nat) (w : World) (e : Ending) (w' : World) : Prop :=
  e = .returned (.slice (some ⟨g, oz, none⟩) (Pl.digs M V).length cz) ∧ ∃ zs : List Nat, zs.length = lz ∧ (∀ d ∈ zs, d < M) ∧ Pl.val M zs = V ∧ zs.take (Pl.digs M V).length = Pl.digs M V ∧ (Pl.digs M V).length ≤ lz ∧ WAt w' g oz zs ∧ Wr w w' g oz lz
set_option maxRecDepth 100000 in
set_option maxHeartbeats 1000000 in
theorem mulAddWW_at (g oz lz cz bx ox cx m y N : Nat) (xs : List Nat) (w : World) (hA : Arr w g N) (hfit : oz + (m + 1) ≤ N) (hcz : m + 1 ≤ cz) (hx : xs.length = m) (hm0 : 0 < m) (hm : m ≤ 10000) (hX : WAt w bx ox xs) (hxl : ∀ d ∈ xs, d < M) (hs : bx ≠ g ∨ oz + (m + 1) ≤ ox ∨ ox + m ≤ oz) (hy : y < M) (hy0 : 0 < y) :
    Calls Tryz.prog 173 #[.slice (some ⟨g, oz, none⟩) lz cz, .slice (some ⟨bx, ox, none⟩) m cx, .int .u64 (y : Int), .int .u64 0] w (MulBk g oz cz (m + 1) (Pl.val M xs * y) w) := by
  have HMK := Lib.hid (make_fit ⟨g, oz, none⟩ lz cz (m + 1) w hcz)
  have hmv := mulVW_at g oz cz bx ox cx N xs y 0 w (by omega) hA (by omega) hy M_pos hxl hX (by omega)
  rw [hx] at hmv
  have hv := Pl.mulAdd_val M M_pos xs y 0
  have hl := Pl.mulV_len M xs y 0
  have hlt := Pl.mulV_lt M M_pos xs y 0
  have hc := Pl.mulV_carry M xs y 0 hxl hy M_pos
  obtain ⟨Q, hQ⟩ : ∃ Q, (Pl.mulV M xs y 0).1 = Q := ⟨_, rfl⟩
  obtain ⟨mc, hmc⟩ : ∃ Q, (Pl.mulV M xs y 0).2 = Q := ⟨_, rfl⟩
  rw [hQ, hmc] at hmv hv
  rw [hQ] at hl hlt
  rw [hmc] at hc
  rw [hx] at hl
  rw [Nat.add_zero] at hv
  have HMV := Lib.hid hmv
  have m1 : ((m : Int) == 0) = false := by rw [beq_eq_false_iff_ne]; omega
  have m2 : ((y : Int) == 0) = false := by rw [beq_eq_false_iff_ne]; omega
  have i1 : IntKind.i64.wrap ((m : Int) + 1) = ((m + 1 : Nat) : Int) := by rw [IntWalk.i64_in _ (by omega)]; omega
  have m3 : (m : Int) ≤ (cz : Int) := by omega
  have m4 : m ≤ cz := by omega
  have m5 : (m : Int) < ((m + 1 : Nat) : Int) := by omega
  have m6 : (m : Int) < (m : Int) + 1 := by omega
  have m7 : m < m + 1 := by omega
  have H := Lib.hid (And.intro hv (And.intro hl (And.intro hlt (And.intro hc hA))))
  clear hv hl hlt hc hmv hA hX hQ hmc
  go_enter Tryz.func173, Tryz.ntmps173
  go_wp2_with fail
  refine HMK.out.mono ?_; rintro e w1 ⟨rfl, rfl⟩
  go_wp2_with fail
  refine HMV.out.mono ?_; rintro e w2 ⟨rfl, hq, hw⟩
  obtain ⟨⟨u, hu⟩, hf⟩ := (hw.arr' H.out.2.2.2.2).has (i := oz + m) (by omega)
  have hs := chg_set w2 g (oz + m) (.int .u64 (mc : Int))
  have hall : WAt (w2.setCell ⟨g, oz + m, none⟩ (.int .u64 (mc : Int))) g oz (Q ++ [mc]) := by
    refine WAt.join (hs.at hq (fun j hj h => by have := h.2; rw [H.out.2.1] at hj; omega)) H.out.2.1 (WAt.one ((hw.arr' H.out.2.2.2.2).put (by omega) _))
  have hwr : Wr w (w2.setCell ⟨g, oz + m, none⟩ (.int .u64 (mc : Int))) g oz (m + 1) := hw.trans (Wr.put (o := oz) (n := m + 1) (k := m) (by omega) _) (by omega) (by omega) (by omega) (by omega)
  have hQl : (Q ++ [mc]).length = m + 1 := by rw [List.length_append, H.out.2.1]; rfl
  have hQt : ∀ d ∈ Q ++ [mc], d < M := by
    intro d hd
    rcases List.mem_append.1 hd with hd | hd
    · exact H.out.2.2.1 d hd
    · rw [List.mem_singleton] at hd; rw [hd]; exact H.out.2.2.2.1
  have hno := normW_any g oz cz (m + 1) (Q ++ [mc]) _ hQl hcz (by omega) hall hQt
  rw [H.out.1] at hno
  have HNO := Lib.hid hno
  have HA := Lib.hid (And.intro hall (And.intro hwr (And.intro hQl hQt)))
  clear hs hall hwr hQl hQt hno hq hw
  go_wp2_with fail
  refine HNO.out.mono ?_; rintro e w3 ⟨rfl, h1, h2, rfl⟩
  have hR : MulBk g oz cz (m + 1) (Pl.val M xs * y) w (.returned (.slice (some ⟨g, oz, none⟩) (Pl.digs M (Pl.val M xs * y)).length cz)) (w2.setCell ⟨g, oz + m, none⟩ (.int .u64 (mc : Int))) :=
    ⟨rfl, Q ++ [mc], HA.out.2.2.1, HA.out.2.2.2, H.out.1, h2, h1, HA.out.1, HA.out.2.1⟩
  have HR := Lib.hid hR
  clear hR h1 h2
  go_wp2
  go_ret
  exact HR.out
set_option maxRecDepth 100000 in
theorem mul_none (stk Y : Value) (g oz lz cz m cy : Nat) (A : Option Addr) (w : World) (hm : 0 < m) (hY : Y = .slice A 0 cy) (X : Value) (ax : Option Addr) (cx : Nat) (hX : X = .slice ax m cx) :
    Calls Tryz.prog 228 #[.slice (some ⟨g, oz, none⟩) lz cz, stk, X, Y] w fun e w' => e = .returned (.slice (some ⟨g, oz, none⟩) 0 cz) ∧ w = w' := by
  subst hY
  subst hX
  have h1 : ¬ (m : Int) < 0 := by omega
  go_enter_defers Tryz.func228, Tryz.ntmps228
  go_wp2
  exact ⟨.slice (some ⟨g, oz, none⟩) 0 cz, by simp [results, Tryz.results228, go_sem], rfl, rfl⟩
set_option maxRecDepth 100000 in
set_option maxHeartbeats 2000000 in
theorem mul_ge (stk : Value) (g oz lz cz bx ox cx by_ oy cy lx ly N Nx Ny : Nat) (xs ys : List Nat) (w : World) (hV : w.cell? ⟨16, 0, none⟩ = some (.int .i64 40)) (hA : Arr w g N) (hfit : oz + (lx + ly) ≤ N) (hcz : lx + ly ≤ cz) (hczm : cz ≤ maxLen) (hx : xs.length = lx) (hy : ys.length = ly) (hly0 : 0 < ly) (hle : ly ≤ lx) (hlx : lx ≤ 1000) (hly : ly < 40)
    (hX : WAt w bx ox xs) (hXA : Arr w bx Nx) (hY : WAt w by_ oy ys) (hYA : Arr w by_ Ny) (hxl : ∀ d ∈ xs, d < M) (hyl : ∀ d ∈ ys, d < M) (hcx : lx ≤ cx) (hcy : ly ≤ cy) (hcxm : cx ≤ maxLen) (hcym : cy ≤ maxLen) (hyt : ly = 1 → 0 < ys.getD 0 0)
    (sx : bx ≠ g ∨ oz + (lx + ly) ≤ ox ∨ ox + lx ≤ oz) (sy : by_ ≠ g ∨ oz + (lx + ly) ≤ oy ∨ oy + ly ≤ oz) (ax : g ≠ bx ∨ oz + (cz - 1) ≠ ox + (cx - 1)) (ay : g ≠ by_ ∨ oz + (cz - 1) ≠ oy + (cy - 1)) :
    Calls Tryz.prog 228 #[.slice (some ⟨g, oz, none⟩) lz cz, stk, .slice (some ⟨bx, ox, none⟩) lx cx, .slice (some ⟨by_, oy, none⟩) ly cy] w (MulBk g oz cz (lx + ly) (Pl.val M xs * Pl.val M ys) w) := by
  have h1 : ¬ (lx : Int) < (ly : Int) := by omega
  have h2 : ((lx : Int) == 0) = false := by rw [beq_eq_false_iff_ne]; omega
  have h3 : ((ly : Int) == 0) = false := by rw [beq_eq_false_iff_ne]; omega
  rcases Nat.lt_or_ge 1 ly with hl2 | hl2
  · have h4 : ((ly : Int) == 1) = false := by rw [beq_eq_false_iff_ne]; omega
    have HA1 := Lib.hid (fun k => alias_other g oz lz cz bx ox lx cx N Nx (w.drewN k) (hA.drewN k) (hXA.drewN k) (by omega) (by omega) hczm hcxm ax)
    have HA2 := Lib.hid (fun k => alias_other g oz lz cz by_ oy ly cy N Ny (w.drewN k) (hA.drewN k) (hYA.drewN k) (by omega) (by omega) hczm hcym ay)
    have HMK := Lib.hid (fun W => make_fit ⟨g, oz, none⟩ lz cz (lx + ly) W hcz)
    have HBM := Lib.hid (fun k => basicMul_any g oz N (lx + ly) cz bx ox cx by_ oy cy lx ly xs ys (w.drewN k) (hA.drewN k) rfl (by omega) hcz hx hy (by omega) (by omega) (hX.drewN k) (hY.drewN k) hxl hyl (by omega) (by omega))
    have hVk : ∀ k, (w.drewN k).cell? ⟨16, 0, none⟩ = some (.int .i64 40) := fun k => hV
    have i1 : IntKind.i64.wrap ((lx : Int) + (ly : Int)) = ((lx + ly : Nat) : Int) := by rw [IntWalk.i64_in _ (by omega)]; omega
    have h5 : (ly : Int) < 40 := by omega
    obtain ⟨lt, hlt⟩ : ∃ lt, lx + ly = lt := ⟨_, rfl⟩
    rw [hlt] at HMK HBM i1 ⊢
    have hcz' : lt ≤ cz := by omega
    have hltb : lt ≤ 2000 := by omega
    clear hA hX hXA hY hYA hV hfit hcz sx sy ax ay hlt hxl hyl hx hy hyt
    go_enter_defers Tryz.func228, Tryz.ntmps228
    go_wp2_with fail
    refine (HA1.out 0).mono ?_; rintro e w1 ⟨rfl, k1, rfl⟩
    go_wp2_with fail
    refine (HA2.out _).mono ?_; rintro e w1 ⟨rfl, k2, rfl⟩
    go_wp2_with fail
    refine (HMK.out _).mono ?_; rintro e w1 ⟨rfl, rfl⟩
    go_wp2_with fail
    refine (HBM.out _).mono ?_; rintro e w3 ⟨rfl, zs, hz1, hz2, hz3, hz4, hz5⟩
    have hwr : Wr w w3 g oz lt := (Wr.of_below (below_drewN (Below.refl _ _) (k1 + k2)) g oz lt).trans hz5 (Nat.le_refl _) (Nat.le_refl _) (Nat.le_refl _) (Nat.le_refl _)
    have hno := normW_any g oz cz lt zs w3 hz1 hcz' (by omega) hz4 hz2
    rw [hz3] at hno
    have HNO := Lib.hid hno
    have HZ := Lib.hid (And.intro hz1 (And.intro hz2 (And.intro hz3 (And.intro hz4 hwr))))
    clear hz1 hz2 hz3 hz4 hz5 hwr hno
    go_wp2_with fail
    refine HNO.out.mono ?_; rintro e w4 ⟨rfl, n1, n2, rfl⟩
    obtain ⟨hz1, hz2, hz3, hz4, hwr⟩ := HZ.out
    have HR : Hid (MulBk g oz cz lt (Pl.val M xs * Pl.val M ys) w (.returned (.slice (some ⟨g, oz, none⟩) (Pl.digs M (Pl.val M xs * Pl.val M ys)).length cz)) w3) := Lib.hid ⟨rfl, zs, hz1, hz2, hz3, n2, n1, hz4, hwr⟩
    clear hz1 hz2 hz3 hz4 hwr n1 n2
    go_wp2
    exact ⟨.slice (some ⟨g, oz, none⟩) (Pl.digs M (Pl.val M xs * Pl.val M ys)).length cz, by simp [results, Tryz.results228, go_sem], HR.out⟩
  · obtain rfl : ly = 1 := by omega
    obtain ⟨y, hys⟩ : ∃ y, ys = [y] := by
      match ys, hy with
      | [y], _ => exact ⟨y, rfl⟩
    subst hys
    have hy0 : 0 < y := by simpa using hyt rfl
    have hcy0 : w.cell? ⟨by_, oy, none⟩ = some (.int .u64 (y : Int)) := by
      have := hY 0 (by simp)
      simpa using this
    have HMU := Lib.hid (mulAddWW_at g oz lz cz bx ox cx lx y N xs w hA hfit hcz hx (by omega) (by omega) hX hxl sx (hyl y (by simp)) hy0)
    have e1 : Pl.val M [y] = y := by simp [Pl.val]
    rw [e1]
    clear hA hX hXA hY hYA hV hfit hcz sx sy ax ay hxl hyl hx hy hyt e1
    go_enter_defers Tryz.func228, Tryz.ntmps228
    go_wp2_with fail
    refine HMU.out.mono ?_; rintro e w2 hB
    have HB := Lib.hid hB
    obtain ⟨rfl, _⟩ := hB
    go_wp2
    exact ⟨.slice (some ⟨g, oz, none⟩) (Pl.digs M (Pl.val M xs * y)).length cz, by simp [results, Tryz.results228, go_sem], HB.out⟩
set_option maxRecDepth 100000 in
set_option maxHeartbeats 1000000 in
theorem mul_lt (p g oz lz cz bx ox cx by_ oy cy lx ly N Nx Ny : Nat) (xs ys : List Nat) (w : World) (hV : w.cell? ⟨16, 0, none⟩ = some (.int .i64 40)) (hA : Arr w g N) (hfit : oz + (lx + ly) ≤ N) (hcz : lx + ly ≤ cz) (hczm : cz ≤ maxLen) (hx : xs.length = lx) (hy : ys.length = ly) (hlt : ly < lx) (hlx : lx ≤ 1000) (hly : ly < 40)
    (hX : WAt w bx ox xs) (hXA : Arr w bx Nx) (hY : WAt w by_ oy ys) (hYA : Arr w by_ Ny) (hxl : ∀ d ∈ xs, d < M) (hyl : ∀ d ∈ ys, d < M) (hcx : lx ≤ cx) (hcy : ly ≤ cy) (hcxm : cx ≤ maxLen) (hcym : cy ≤ maxLen) (hyt : ly = 1 → 0 < ys.getD 0 0)
    (sx : bx ≠ g ∨ oz + (lx + ly) ≤ ox ∨ ox + lx ≤ oz) (sy : by_ ≠ g ∨ oz + (lx + ly) ≤ oy ∨ oy + ly ≤ oz) (ax : g ≠ bx ∨ oz + (cz - 1) ≠ ox + (cx - 1)) (ay : g ≠ by_ ∨ oz + (cz - 1) ≠ oy + (cy - 1)) :
    Calls Tryz.prog 228 #[.slice (some ⟨g, oz, none⟩) lz cz, .pointer (some ⟨p, 0, none⟩), .slice (some ⟨by_, oy, none⟩) ly cy, .slice (some ⟨bx, ox, none⟩) lx cx] w fun e w' => (ly = 0 ∧ e = .returned (.slice (some ⟨g, oz, none⟩) 0 cz) ∧ w = w') ∨ (0 < ly ∧ MulBk g oz cz (lx + ly) (Pl.val M xs * Pl.val M ys) w e w') := by
  have h1 : (ly : Int) < (lx : Int) := by omega
  rcases Nat.eq_zero_or_pos ly with h0 | h0
  · subst h0
    have HM := Lib.hid (mul_none (.pointer (some ⟨p, 0, none⟩)) _ g oz lz cz lx cy (some ⟨by_, oy, none⟩) w hlt rfl _ (some ⟨bx, ox, none⟩) cx rfl)
    clear hA hX hXA hY hYA hV hfit hcz sx sy ax ay hxl hyl hx hy hyt
    go_enter_defers Tryz.func228, Tryz.ntmps228
    go_wp2_with fail
    refine HM.out.mono ?_; rintro e w2 ⟨rfl, rfl⟩
    go_wp2
    exact ⟨.slice (some ⟨g, oz, none⟩) 0 cz, by simp [results, Tryz.results228, go_sem], Or.inl ⟨trivial, rfl, rfl⟩⟩
  · have HM := Lib.hid (mul_ge (.pointer (some ⟨p, 0, none⟩)) g oz lz cz bx ox cx by_ oy cy lx ly N Nx Ny xs ys w hV hA hfit hcz hczm hx hy h0 (by omega) hlx hly hX hXA hY hYA hxl hyl hcx hcy hcxm hcym hyt sx sy ax ay)
    clear hA hX hXA hY hYA hV hfit hcz sx sy ax ay hxl hyl hx hy hyt
    go_enter_defers Tryz.func228, Tryz.ntmps228
    go_wp2_with fail
    refine HM.out.mono ?_; rintro e w2 hB
    have HB := Lib.hid hB
    obtain ⟨rfl, _⟩ := hB
    go_wp2
    exact ⟨.slice (some ⟨g, oz, none⟩) (Pl.digs M (Pl.val M xs * Pl.val M ys)).length cz, by simp [results, Tryz.results228, go_sem], Or.inr ⟨h0, HB.out⟩⟩
def DivVal (w : World) (p : Nat) (q : Option Nat) (A : Option Addr) (ns bq oq lq bu ou lu U V : Nat) (e : Ending) (w' : World) : Prop :=
  e = .returned (.tuple #[]) ∧ ∃ (us' qs' : List Nat) (q' : Nat) (g c' : Nat), us'.length = lu ∧ qs'.length = lq ∧ (∀ d ∈ us', d < M) ∧ (∀ d ∈ qs', d < M) ∧ Pl.val M us' = U % V ∧ Pl.val M qs' = U / V ∧ WAt w' bu ou us' ∧ WAt w' bq oq qs' ∧ StkAt w' p (some q') (some ⟨g, 0, none⟩) ns c' ∧
    (A = some ⟨g, 0, none⟩ ∨ w.heap.size ≤ g) ∧ (q = some q' ∨ (q = none ∧ w.heap.size ≤ q')) ∧ Chg w w' (DivCh p q A ns bq oq lq bu ou lu)
theorem DivBack.val {w w' : World} {p ns bq oq lq bu ou : Nat} {q : Option Nat} {A : Option Addr} {us vs : List Nat} {e : Ending} (h : DivBack w p q A ns bq oq lq bu ou us vs e w') : DivVal w p q A ns bq oq lq bu ou us.length (Pl.val M us) (Pl.val M vs) e w' := by
  obtain ⟨rfl, us', qs', q', g, c', hK, hl, h1, h2, h3, h4, h5, h6⟩ := h
  obtain ⟨k1, k2⟩ := hK.done
  exact ⟨rfl, us', qs', q', g, c', hK.lu, hl, hK.ult, hK.qlt, k1, k2, h1, h2, h3, h4, h5, h6⟩
theorem take_digs {ws : List Nat} {n : Nat} (h : ws.take n = Pl.digs M (Pl.val M ws)) (hle : n ≤ ws.length) : Pl.val M (ws.drop n) = 0 := by
  have h1 := Pl.val_take_drop M ws n hle
  rw [h, Pl.val_digs M _ M_two] at h1
  have hp : 0 < M ^ n := Nat.pow_pos M_pos
  rcases Nat.eq_zero_or_pos (Pl.val M (ws.drop n)) with e | e
  · exact e
  · have := Nat.mul_pos hp e; omega
theorem all_zero_of_val {l : List Nat} (h : Pl.val M l = 0) : ∀ d ∈ l, d = 0 := by
  induction l with
  | nil => intro d hd; cases hd
  | cons x r ih =>
    simp only [Pl.val] at h
    have hM := M_pos
    have h1 : x = 0 := by omega
    have h2 : Pl.val M r = 0 := by
      rcases Nat.eq_zero_or_pos (Pl.val M r) with e | e
      · exact e
      · have := Nat.mul_pos hM e; omega
    intro d hd
    rcases List.mem_cons.1 hd with rfl | hd
    · exact h1
    · exact ih h2 d hd
theorem digs_ge {V n : Nat} (h : M ^ n ≤ V) : n + 1 ≤ (Pl.digs M V).length := by
  rcases Nat.lt_or_ge (Pl.digs M V).length (n + 1) with h1 | h1
  · have h4 := Pl.val_lt M _ (Pl.digs_lt M V M_two)
    rw [Pl.val_digs _ _ M_two] at h4
    have := Nat.pow_le_pow_right M_pos (show (Pl.digs M V).length ≤ n by omega)
    omega
  · exact h1
set_option maxRecDepth 100000 in
set_option maxHeartbeats 4000000 in
theorem stepSmall_any (p : Nat) (q : Option Nat) (A : Option Addr) (ns c bq oq Nq cq bu ou Nu cu bv ov cv n lu lq : Nat) (qs us vs : List Nat) (depth : Int) (w : World) (hS : StkAt w p q A ns c) (hV15 : w.cell? ⟨15, 0, none⟩ = some (.int .i64 40)) (h : DivIn w A ns bq oq Nq bu ou Nu bv ov qs us vs)
    (hv : vs.length = n) (hu : us.length = lu) (hq : qs.length = lq) (hcu : lu ≤ cu) (hcv : n ≤ cv) (hk : lu ≤ 400) (hn4 : 4 ≤ n) (hn40 : n < 40) (hlq : lq ≤ 1000) (hns : ns ≤ 100000) (hnorm : M ≤ 2 * vs.getD (n - 1) 0) (hVU : Pl.val M vs ≤ Pl.val M us) (hlq2 : lu < lq + n) (hqz : ∀ d ∈ qs, d = 0) :
    Calls Tryz.prog 275 #[.slice (some ⟨bq, oq, none⟩) lq cq, .pointer (some ⟨p, 0, none⟩), .slice (some ⟨bu, ou, none⟩) lu cu, .slice (some ⟨bv, ov, none⟩) n cv, .int .i64 depth] w (DivVal w p q A ns bq oq lq bu ou lu (Pl.val M us) (Pl.val M vs)) := by
  have hNu := normW_any bu ou cu lu us w hu hcu (by omega) h.atu h.ult
  have hNv := normW_any bv ov cv n vs w hv hcv (by omega) h.atv h.vlt
  have hV1 : M ^ (n - 1) ≤ Pl.val M vs := by
    have h1 := val_ge_top M vs (n - 1) (by omega)
    have hy0 : 1 ≤ vs.getD (n - 1) 0 := by rw [M_eq] at hnorm; omega
    exact Nat.le_trans (Nat.le_mul_of_pos_left _ hy0) h1
  have hvl : (Pl.digs M (Pl.val M vs)).length = n := by
    have h1 := digs_ge hV1
    have h2 := Pl.digs_len_le M_two (Pl.val_lt M vs h.vlt)
    omega
  have hul : n ≤ (Pl.digs M (Pl.val M us)).length := by
    have h1 := digs_ge (Nat.le_trans hV1 hVU)
    omega
  rw [hvl] at hNv
  obtain ⟨ln, hln⟩ : ∃ ln, (Pl.digs M (Pl.val M us)).length = ln := ⟨_, rfl⟩
  have hlen := Pl.digs_len_le M_two (Pl.val_lt M us h.ult)
  rw [hu] at hlen
  rw [hln] at hNu hul hlen
  obtain ⟨m, hm⟩ : ∃ m, ln = m + n := ⟨ln - n, by omega⟩
  have hDB : us.take ln = Pl.digs M (Pl.val M us) → Calls Tryz.prog 239 #[.slice (some ⟨bq, oq, none⟩) lq cq, .pointer (some ⟨p, 0, none⟩), .slice (some ⟨bu, ou, none⟩) ln cu, .slice (some ⟨bv, ov, none⟩) n cv] w (DivVal w p q A ns bq oq lq bu ou lu (Pl.val M us) (Pl.val M vs)) := by
    intro htd
    have htl : (us.take ln).length = ln := by rw [List.length_take]; omega
    have hIn : DivIn w A ns bq oq Nq bu ou Nu bv ov qs (us.take ln) vs :=
      { h with fitu := by rw [htl]; have := h.fitu; omega, atu := h.atu.take ln, qu := by rw [htl]; have := h.qu; omega, uv := by rw [htl]; have := h.uv; omega, su := fun e => by rw [htl]; have := h.su e; omega, ult := fun d hd => h.ult d (List.mem_of_mem_take hd) }
    have hdb := divBasic_any p q A ns c bq oq Nq cq bu ou Nu cu bv ov cv n m ln qs (us.take ln) vs w hS hIn hv htl hm (by omega) (by omega) hn4 (by omega) hns hnorm (Or.inr (by omega)) (Pl.val_zeros M _ (fun d hd => hqz d (List.mem_of_mem_drop hd)))
    rw [hq] at hdb
    refine hdb.mono ?_
    intro e w' hB
    obtain ⟨rfl, us', qs', q', g, c', h1, h2, h3, h4, h5, h6, h7, h8, h9, h10, h11, h12⟩ := hB.val
    have hz := take_digs htd (by omega)
    have hvu : Pl.val M (us.take ln) = Pl.val M us := by rw [htd, Pl.val_digs M _ M_two]
    rw [hvu] at h5 h6
    rw [htl] at h1 h12
    refine ⟨rfl, us' ++ us.drop ln, qs', q', g, c', ?_, h2, ?_, h4, ?_, h6, ?_, h8, h9, h10, h11, h12.mono (fun b off _ k => ?_)⟩
    · rw [List.length_append, h1, List.length_drop]; omega
    · intro d hd
      rcases List.mem_append.1 hd with hd | hd
      · exact h3 d hd
      · exact h.ult d (List.mem_of_mem_drop hd)
    · rw [Pl.val_append, hz, Nat.mul_zero, Nat.add_zero]; exact h5
    · refine WAt.join h7 h1 ?_
      refine h12.at (h.atu.drop ln (by omega)) (fun j hj k => ?_)
      rw [List.length_drop, hu] at hj
      obtain ⟨n1, n2⟩ := hS.ne h.arru
      rcases k with k | k | k | k | k
      · exact n1 k
      · exact n2 k
      · have := h.su k.1; have := k.2; omega
      · have := k.2; omega
      · have hqu := h.qu
        rw [hu, hq] at hqu
        rcases hqu with e | e
        · exact e k.1.symm
        · have := k.2; omega
    · rcases k with k | k | k | k | k
      · exact Or.inl k
      · exact Or.inr (Or.inl k)
      · exact Or.inr (Or.inr (Or.inl k))
      · exact Or.inr (Or.inr (Or.inr (Or.inl ⟨k.1, k.2.1, by omega⟩)))
      · exact Or.inr (Or.inr (Or.inr (Or.inr k)))
  have HNU := Lib.hid hNu
  have HNV := Lib.hid hNv
  have HDB := Lib.hid hDB
  have v1 : (n : Int) < 40 := by omega
  have v2 : ((ln : Int) == 0) = false := by rw [beq_eq_false_iff_ne]; omega
  clear hNu hNv hDB h hS hu hv hq hnorm hVU hqz hV1 hvl hln hm
  go_enter_defers Tryz.func275, Tryz.ntmps275
  go_wp2_with fail
  refine HNU.out.mono ?_; rintro e w1 ⟨rfl, _, htd, rfl⟩
  have HD2 := Lib.hid (HDB.out htd)
  clear htd
  go_wp2_with fail
  refine HNV.out.mono ?_; rintro e w1 ⟨rfl, _, htd, rfl⟩
  clear htd
  go_wp2_with fail
  refine HD2.out.mono ?_; rintro e w2 hB
  have HB := Lib.hid hB
  obtain ⟨rfl, _⟩ := hB
  go_wp2
  exact ⟨_, results_none rfl _ _ _, HB.out⟩
theorem LikeKnown_any (s : ByteArray) (w : World) (hs : s.size ≤ 30000) (hT : VTabs w) : Calls Tryz.prog 42 #[.string s] w fun e w' => SomeBool e ∧ Below w.heap.size w w' := by
  go_enter Tryz.func42, Tryz.ntmps42
  go_wp2_with fail
  refine (validString_any s w hs hT).mono ?_; rintro e w1 ⟨⟨b, rfl⟩, hb1⟩
  go_wp2
  go_ret
  exact ⟨someBool_mk _, hb1⟩
def FewE (s : ByteArray) (m : Int) (e : Ending) : Prop := ∃ b, e = .returned (.bool b) ∧ (b = true → s.size ≤ 1500 ∧ Pl.ascii s.data.toList = true ∧ ((Pl.numsOf s.data.toList).length : Int) ≤ m)
theorem FewE.no {s : ByteArray} {m : Int} : FewE s m (.returned (.bool false)) := ⟨false, rfl, fun h => by cases h⟩
theorem short1 (l : Pl.Bytes) : Pl.shortB [l] = decide (l.length ≤ 1500) := by simp [Pl.shortB]
end Go.Proofs.YtgfkdjmoflbmdaaGreatDoor
namespace Go.Proofs.YtgfkdjmoflbmdaaGreatDoor
open Go.ChangeShapes Go.WideShapes Go.ChangeAt Go.RowKit
open Go.Proofs Go.Lib
theorem own : ownKnob Tryz.prog.godebug = none := by kernel_rfl
theorem laid_var {P : Program} {w : World} : ∀ {l : List (String × DataW Unit)} {ps : List MemPlace}, DataW.LaidVars P w l ps → ∀ n d, (n, d) ∈ l →
    ∃ g t cs fuel p, P.globalNamed n = some g ∧ (P.globals[g]?).map (·.type) = some t ∧ w.var? P n = some cs ∧ DataW.trod (fun _ => ()) P w 0 (fun _ => true) false fuel t cs.toList = some (d, p) ∧ ∀ x ∈ MemPlace.row ⟨g, 0, none⟩ cs.size, x ∈ ps
  | [], _, _, _, _, hm => by cases hm
  | (n', d') :: r, ps, h, n, d, hm => by
    obtain ⟨g, t, cs, fuel, p, q, h1, h2, h3, h4, h5, h6⟩ := h
    rcases List.mem_cons.1 hm with hm | hm
    · injection hm with e1 e2
      subst e1; subst e2
      exact ⟨g, t, cs, fuel, p, h1, h2, h3, h4, fun x hx => by rw [h6]; simp [hx]⟩
    · obtain ⟨g', t', cs', f', p', k1, k2, k3, k4, k5⟩ := laid_var h5 n d hm
      exact ⟨g', t', cs', f', p', k1, k2, k3, k4, fun x hx => by rw [h6]; simp [k5 x hx]⟩
theorem row305 (u : TypeId) (h : Tryz.prog.typeName? 3 u = some "*errors.errorString") : u = 305 :=
  typeName_ptr_named (nm := "errors.errorString") (by kernel_rfl) (by kernel_rfl) (by decide) u h
theorem cells320 : Tryz.prog.cellsOf 320 = 1 := by kernel_rfl
theorem cells9 : Tryz.prog.cellsOf 9 = 1 := by kernel_rfl
set_option maxRecDepth 100000 in
theorem laid_err {l : List (String × DataW Unit)} {w : World} {n : String} {text : List UInt8} {g : Nat} (h : laidMet Tryz.prog l w) (hm : (n, (.iface "*errors.errorString" (.ptr (.agg [.lit (.string text)])) : DataW Unit)) ∈ l)
    (hg : Tryz.prog.globalNamed n = some g) (ht : (Tryz.prog.globals[g]?).map (·.type) = some 51) : ∃ a, w.cell? ⟨g, 0, none⟩ = some (.iface 305 (.pointer (some a))) := by
  obtain ⟨ps, hv, _, hrows⟩ := h
  obtain ⟨g', t, cs, fuel, p, h1, h2, h3, h4, h5⟩ := laid_var hv n _ hm
  obtain rfl := Option.some.inj (hg.symm.trans h1)
  obtain rfl := Option.some.inj (ht.symm.trans h2)
  obtain ⟨l0⟩ := cs
  have ok : ∀ u v, l0 = [.iface u v] → Value.okWide Tryz.prog w .any 0 u v := fun u v e => by
    subst e
    exact (hrows g 0 (h5 _ (by simp [MemPlace.row]))).2 u v (by simpa using World.var?_cell hg h3 0)
  obtain ⟨a, s, hcs, _⟩ := errorString_of_trod Tryz.underlying51 row305 Tryz.underlying305 Tryz.underlying320 rfl rfl Tryz.underlying9 cells320 cells9 h4 ok
  refine ⟨a, ?_⟩
  have := World.var?_cell hg h3 0
  rw [this]
  have e : l0 = [.iface 305 (.pointer (some a))] := hcs
  subst e
  rfl
def uRen : Go.Shelf.Ren := ⟨fun n => n, fun | 119 => 109 | 138 => 111 | 139 => 112 | n => n, fun | 3 => 2 | 4 => 3 | n => n⟩
theorem uTypes : U8Types Tryz.prog uRen := { t5 := Tryz.underlying5, t119 := Tryz.underlying109, t138 := Tryz.underlying111, t139 := Tryz.underlying112 }
theorem accept_eq : (Rows.laid_unicode_utf8_acceptRanges : DataW Unit) = acceptData := by kernel_rfl
theorem first_eq : (Rows.laid_unicode_utf8_first : DataW Unit) = firstData := Pinned.utf8First_eq
theorem vtabs_of {l : List (String × DataW Unit)} {w : World} (h : laidMet Tryz.prog l w) (h1 : ("unicode/utf8.first", (Rows.laid_unicode_utf8_first : DataW Unit)) ∈ l) (h2 : ("unicode/utf8.acceptRanges", (Rows.laid_unicode_utf8_acceptRanges : DataW Unit)) ∈ l) : VTabs w := by
  rw [first_eq] at h1
  rw [accept_eq] at h2
  have ht := utf8Tabs_of_readsT uTypes ⟨by kernel_rfl, by kernel_rfl, by kernel_rfl, by kernel_rfl, by kernel_rfl, by kernel_rfl, by kernel_rfl⟩ (Lib.laidMet.reads h h1) (Lib.laidMet.reads h h2)
  obtain ⟨t1, t2⟩ := ht
  refine ⟨fun c hc => ?_, fun i hi => ?_⟩
  · have hv := t1 c hc
    have hr : 0 ≤ firstT c ∧ firstT c < 256 := by
      rcases firstT_cases c with h | h | h | h | h | h | h | h | h <;> rw [h] <;> omega
    exact ⟨firstT c, by omega, hv⟩
  · obtain ⟨v1, v2⟩ := t2 i hi
    refine ⟨accLo i, accHi i, ?_, ?_⟩
    · rw [Nat.mul_comm]; exact v1
    · rw [Nat.mul_comm]; exact v2
set_option maxRecDepth 100000 in
theorem laid_i64 {l : List (String × DataW Unit)} {w : World} {n : String} {k : Int} {g : Nat} (h : laidMet Tryz.prog l w) (hm : (n, (.lit (.int .i64 k) : DataW Unit)) ∈ l)
    (hg : Tryz.prog.globalNamed n = some g) (ht : (Tryz.prog.globals[g]?).map (·.type) = some 3) : w.cell? ⟨g, 0, none⟩ = some (.int .i64 k) := by
  obtain ⟨g', t, cs, fuel, p, h1, h2, h3, h4⟩ := Lib.laidMet.reads h hm
  obtain rfl := Option.some.inj (hg.symm.trans h1)
  obtain rfl := Option.some.inj (ht.symm.trans h2)
  obtain ⟨l0⟩ := cs
  have hc : l0 = [.int .i64 k] := by
    cases fuel with
    | zero => simp [DataW.trod] at h4
    | succ m =>
      unfold DataW.trod at h4
      rw [Tryz.underlying3] at h4
      simp only at h4
      split at h4 <;> simp_all
  subst hc
  exact World.var?_cell hg h3 0
theorem bigvars_of {l : List (String × DataW Unit)} {w : World} (h : laidMet Tryz.prog l w) (h1 : ("pub-seniority/pub/bigall.leafSize", (Rows.laid_pub_seniority_pub_bigall_leafSize : DataW Unit)) ∈ l) (h2 : ("pub-seniority/pub/bigall.divRecursiveThreshold", (Rows.laid_pub_seniority_pub_bigall_divRecursiveThreshold : DataW Unit)) ∈ l)
    (h3 : ("pub-seniority/pub/bigall.karatsubaThreshold", (Rows.laid_pub_seniority_pub_bigall_karatsubaThreshold : DataW Unit)) ∈ l) (h4 : ("pub-seniority/pub/bigall.basicSqrThreshold", (Rows.laid_pub_seniority_pub_bigall_basicSqrThreshold : DataW Unit)) ∈ l) (h5 : ("pub-seniority/pub/bigall.karatsubaSqrThreshold", (Rows.laid_pub_seniority_pub_bigall_karatsubaSqrThreshold : DataW Unit)) ∈ l) : BigVars w :=
  ⟨laid_i64 h h1 (by kernel_rfl) (by kernel_rfl), laid_i64 h h4 (by kernel_rfl) (by kernel_rfl), laid_i64 h h5 (by kernel_rfl) (by kernel_rfl), laid_i64 h h2 (by kernel_rfl) (by kernel_rfl), laid_i64 h h3 (by kernel_rfl) (by kernel_rfl)⟩
noncomputable def errObj (l : List UInt8) : Obj := .cells #[.string ⟨l.toArray⟩] 320
noncomputable def laidWorld (os : Os) : World :=
  let N := (World.settled Tryz.prog os).heap.size
  let w0 := World.holding Tryz.prog os ⟨#[errObj [69, 79, 70], errObj [110, 117, 109, 98, 101, 114, 32, 104, 97, 115, 32, 110, 111, 32, 100, 105, 103, 105, 116, 115],
    errObj [39, 95, 39, 32, 109, 117, 115, 116, 32, 115, 101, 112, 97, 114, 97, 116, 101, 32, 115, 117, 99, 99, 101, 115, 115, 105, 118, 101, 32, 100, 105, 103, 105, 116, 115], errObj [105, 110, 118, 97, 108, 105, 100, 32, 118, 101, 114, 115, 105, 111, 110],
    errObj [118, 101, 114, 115, 105, 111, 110, 32, 105, 115, 32, 110, 111, 116, 32, 111, 102, 32, 116, 104, 101, 32, 115, 97, 109, 101, 32, 101, 99, 111, 115, 121, 115, 116, 101, 109]], #[], []⟩
  let put (h : Array Obj) (g : Nat) (cs : Array Value) : Array Obj := h.modify g fun
    | .cells _ t frozen => .cells cs t frozen
    | o => o
  let err (k : Nat) : Array Value := #[.iface 305 (.pointer (some ⟨N + k, 0, none⟩))]
  let h := put w0.heap 2 (Lib.firstTab.map fun z => Value.int .u8 z).toArray
  let h := put h 3 ((List.range 16).flatMap fun i => [Value.int .u8 (accLo i), Value.int .u8 (accHi i)]).toArray
  let h := put h 4 (err 0)
  let h := put h 8 (err 1)
  let h := put h 7 (err 2)
  let h := put h 1 (err 3)
  let h := put h 0 (err 4)
  let h := put h 10 #[.int .i64 8]
  let h := put h 15 #[.int .i64 40]
  let h := put h 16 #[.int .i64 40]
  let h := put h 13 #[.int .i64 12]
  let h := put h 14 #[.int .i64 80]
  let h := put h 11 #[.int .u8 0, .int .u8 1, .int .u8 28, .int .u8 2, .int .u8 29, .int .u8 14, .int .u8 24, .int .u8 3, .int .u8 30, .int .u8 22, .int .u8 20, .int .u8 15, .int .u8 25, .int .u8 17, .int .u8 4, .int .u8 8, .int .u8 31, .int .u8 27, .int .u8 13, .int .u8 23, .int .u8 21, .int .u8 19, .int .u8 16, .int .u8 7, .int .u8 26, .int .u8 12, .int .u8 18, .int .u8 6, .int .u8 11, .int .u8 5, .int .u8 10, .int .u8 9]
  let h := put h 12 #[.int .u8 0, .int .u8 1, .int .u8 56, .int .u8 2, .int .u8 57, .int .u8 49, .int .u8 28, .int .u8 3, .int .u8 61, .int .u8 58, .int .u8 42, .int .u8 50, .int .u8 38, .int .u8 29, .int .u8 17, .int .u8 4, .int .u8 62, .int .u8 47, .int .u8 59, .int .u8 36, .int .u8 45, .int .u8 43, .int .u8 51, .int .u8 22, .int .u8 53, .int .u8 39, .int .u8 33, .int .u8 30, .int .u8 24, .int .u8 18, .int .u8 12, .int .u8 5, .int .u8 63, .int .u8 55, .int .u8 48, .int .u8 27, .int .u8 60, .int .u8 41, .int .u8 37, .int .u8 16, .int .u8 46, .int .u8 35, .int .u8 44, .int .u8 21, .int .u8 52, .int .u8 32, .int .u8 23, .int .u8 11, .int .u8 54, .int .u8 26, .int .u8 40, .int .u8 15, .int .u8 34, .int .u8 20, .int .u8 31, .int .u8 10, .int .u8 25, .int .u8 14, .int .u8 19, .int .u8 9, .int .u8 13, .int .u8 8, .int .u8 7, .int .u8 6]
  { w0 with heap := h }
theorem laid_met (os : Os) (args : Array Value) : laidMet Tryz.prog Rows.fnSemverTextsRow.laid ((laidWorld os).forCall (fun _ _ => 0) ⟨#[], args, []⟩).memory := by
  have h := (LaidIn.of_run (P := Tryz.prog) (w := ((laidWorld os).forCall (fun _ _ => 0) ⟨#[], args, []⟩).memory) (l := [("math/bits.deBruijn32tab", Rows.laid_math_bits_deBruijn32tab), ("math/bits.deBruijn64tab", Rows.laid_math_bits_deBruijn64tab), ("unicode/utf8.acceptRanges", Rows.laid_unicode_utf8_acceptRanges), ("io.EOF", Rows.laid_io_EOF), ("pub-seniority/pub/bigall.errNoDigits", Rows.laid_pub_seniority_pub_bigall_errNoDigits), ("pub-seniority/pub/bigall.errInvalSep", Rows.laid_pub_seniority_pub_bigall_errInvalSep), ("pub-seniority/pub/bigall.leafSize", Rows.laid_pub_seniority_pub_bigall_leafSize), ("pub-seniority/pub/bigall.divRecursiveThreshold", Rows.laid_pub_seniority_pub_bigall_divRecursiveThreshold), ("pub-seniority/pub/bigall.karatsubaThreshold", Rows.laid_pub_seniority_pub_bigall_karatsubaThreshold), ("pub-seniority/pub/bigall.basicSqrThreshold", Rows.laid_pub_seniority_pub_bigall_basicSqrThreshold), ("pub-seniority/pub/bigall.karatsubaSqrThreshold", Rows.laid_pub_seniority_pub_bigall_karatsubaSqrThreshold), ("pub-seniority/pub/scalibr/semantic.ErrInvalidVersion", Rows.laid_pub_seniority_pub_scalibr_semantic_ErrInvalidVersion), ("pub-seniority/pub/scalibr/semantic.ErrNotSameEcosystem", Rows.laid_pub_seniority_pub_scalibr_semantic_ErrNotSameEcosystem), ("unicode/utf8.first", Rows.laid_unicode_utf8_first)])
    [0, 1, 2, 3, 4, 7, 8, 10, 11, 12, 13, 14, 15, 16, (World.settled Tryz.prog default).heap.size, (World.settled Tryz.prog default).heap.size + 1, (World.settled Tryz.prog default).heap.size + 2, (World.settled Tryz.prog default).heap.size + 3, (World.settled Tryz.prog default).heap.size + 4] 8 (by kernel_rfl) (by kernel_rfl) (by kernel_rfl) (by kernel_rfl)).met
  exact h
end Go.Proofs.YtgfkdjmoflbmdaaGreatDoor
