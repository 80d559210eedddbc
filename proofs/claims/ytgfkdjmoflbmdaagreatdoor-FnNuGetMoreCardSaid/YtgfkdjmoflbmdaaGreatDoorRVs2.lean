/- Contract: unicode/utf8.ValidString: it comes back (with some answer). -/
import Derived.Test.YtgfkdjmoflbmdaaGreatDoorRWnxWq
import Derived.Deep.RegionHeld3
import Derived.Deep.DeepCutAuto
import Derived.Deep.CutBlock
import Derived.Handy
namespace Go.Proofs.YtgfkdjmoflbmdaaGreatDoor
open Go.RowKit
open Go.Proofs
def szOf : Value → Nat
  | .string t => t.size
  | _ => 0
theorem szOf_s (t : ByteArray) : szOf (.string t) = t.size := rfl
def SomeBool (e : Ending) : Prop := ∃ b, e = .returned (.bool b)
theorem someBool_mk (b : Bool) : SomeBool (.returned (.bool b)) := ⟨b, rfl⟩
def VTabs (w : World) : Prop :=
  (∀ c : Nat, c < 256 → ∃ v : Nat, v < 256 ∧ w.cell? ⟨2, c, none⟩ = some (.int .u8 (v : Int))) ∧
  (∀ i : Nat, i < 16 → ∃ lo hi : Nat, w.cell? ⟨3, i * 2, none⟩ = some (.int .u8 (lo : Int)) ∧ w.cell? ⟨3, i * 2 + 1, none⟩ = some (.int .u8 (hi : Int)))
theorem VTabs.below {w w' : World} (h : VTabs w) (hb : Below w.heap.size w w') : VTabs w' := by
  refine ⟨fun c hc => ?_, fun i hi => ?_⟩
  · obtain ⟨v, hv, hx⟩ := h.1 c hc
    exact ⟨v, hv, (hb.cell (World.block_lt_of_cell? w _ hx)).trans hx⟩
  · obtain ⟨lo, hh, hx, hy⟩ := h.2 i hi
    exact ⟨lo, hh, (hb.cell (World.block_lt_of_cell? w _ hx)).trans hx, (hb.cell (World.block_lt_of_cell? w _ hy)).trans hy⟩
set_option maxRecDepth 100000 in
theorem and_seven : ∀ X : Fin 256, 0 ≤ bits .and .u8 ((X.val : Nat) : Int) 7 ∧ bits .and .u8 ((X.val : Nat) : Int) 7 < 8 := by decide
theorem word_quiet {t : ByteArray} {A : Int} (h : ∀ W : World, Calls Tryz.prog 102 #[.string t] W fun e w' => e = .returned (.int .u64 A) ∧ ∃ q, w' = W.drewN q) (w : World) (n : Nat) :
    Calls Tryz.prog 102 #[.string t] (w.drewN n) fun e w'' => e = .returned (.int .u64 A) ∧ ∃ m, w'' = w.drewN m := by
  refine (h _).mono ?_
  rintro e w' ⟨rfl, q, rfl⟩
  exact ⟨rfl, n + q, by rw [World.drewN_drewN]⟩
set_option maxRecDepth 100000 in
set_option maxHeartbeats 8000000 in
theorem validString_any (s : ByteArray) (w : World) (hs : s.size ≤ 30000) (hT : VTabs w) :
    Calls Tryz.prog 81 #[.string s] w fun e w' => SomeBool e ∧ Below w.heap.size w w' := by
  go_enter Tryz.func81, Tryz.ntmps81
  go_wp2
  go_loopw [0] (fun s0 wr => ∃ t : ByteArray, s0 = .string t ∧ t.size ≤ 30000 ∧ Below w.heap.size w wr) (fun s0 _ => szOf s0)
  case atStart => exact ⟨s, rfl, hs, Below.refl _ _⟩
  case round =>
    obtain ⟨t, rfl, hts, hbel⟩ := hrel
    by_cases h0 : 0 < t.size
    · have h0z : (0 : Int) < (t.size : Int) := by omega
      obtain ⟨x0, hx0⟩ : ∃ x0, t[0] = x0 := ⟨_, rfl⟩
      have hx0lt : x0.toNat < 256 := x0.toNat_lt
      by_cases hasc : x0.toNat < 128
      · have hascz : (x0.toNat : Int) < 128 := by omega
        obtain ⟨t1, ht1⟩ : ∃ t1, t.extract 1 t.size = t1 := ⟨_, rfl⟩
        have z1 : t1.size + 1 = t.size := by rw [← ht1, ByteArray.size_extract]; omega
        by_cases c8 : 8 < t1.size
        · have c8z : (8 : Int) < (t1.size : Int) := by omega
          obtain ⟨A1, cW1⟩ := word_any t1 (by omega)
          have CW1 := Lib.hid cW1
          clear cW1
          cases hz : (bits .and .u64 A1 9259542123273814144 == 0) with
          | false =>
            go_wp2_with (go_at_call 102; refine (CW1.out _).mono ?_; rintro e W1 ⟨rfl, q1, rfl⟩)
            go_roundw
            case rel => exact ⟨t1, rfl, by omega, below_drewN hbel _⟩
            case measure => simp only [szOf_s]; omega
          | true =>
            obtain ⟨t2, ht2⟩ : ∃ t2, t1.extract 8 t1.size = t2 := ⟨_, rfl⟩
            have z2 : t2.size + 8 = t1.size := by rw [← ht2, ByteArray.size_extract]; omega
            by_cases c16 : 16 < t2.size
            · have c16z : (16 : Int) < (t2.size : Int) := by omega
              have s8z : (8 : Int) ≤ (t2.size : Int) := by omega
              obtain ⟨t2b, ht2b⟩ : ∃ t2b, t2.extract 8 t2.size = t2b := ⟨_, rfl⟩
              have z2b : t2b.size + 8 = t2.size := by rw [← ht2b, ByteArray.size_extract]; omega
              obtain ⟨A2, cW2⟩ := word_any t2 (by omega)
              have CW2 := Lib.hid cW2
              clear cW2
              obtain ⟨A3, cW3⟩ := word_any t2b (by omega)
              have CW3 := Lib.hid cW3
              clear cW3
              cases hz2 : (bits .and .u64 (bits .or .u64 A2 A3) 9259542123273814144 == 0) with
              | false =>
                go_wp2_with (go_at_call 102; refine (CW1.out _).mono ?_; rintro e W1 ⟨rfl, q1, rfl⟩)
                have hb1 : Below w.heap.size w (wr.drewN q1) := below_drewN hbel _
                generalize wr.drewN q1 = wq at hb1 ⊢
                go_quiet (first | (go_at_call_of 102 (Value.string t2); exact word_quiet CW2.out _ _) | (go_at_call_of 102 (Value.string t2b); exact word_quiet CW3.out _ _))
                go_wp2
                go_roundw
                case rel => exact ⟨t2, rfl, by omega, below_drewN hb1 _⟩
                case measure => simp only [szOf_s]; omega
              | true =>
                obtain ⟨t3, ht3⟩ : ∃ t3, t2.extract 16 t2.size = t3 := ⟨_, rfl⟩
                have z3 : t3.size + 16 = t2.size := by rw [← ht3, ByteArray.size_extract]; omega
                go_wp2_with (go_at_call 102; refine (CW1.out _).mono ?_; rintro e W1 ⟨rfl, q1, rfl⟩)
                have hb1 : Below w.heap.size w (wr.drewN q1) := below_drewN hbel _
                generalize wr.drewN q1 = wq at hb1 ⊢
                go_quiet (first | (go_at_call_of 102 (Value.string t2); exact word_quiet CW2.out _ _) | (go_at_call_of 102 (Value.string t2b); exact word_quiet CW3.out _ _))
                have hb2 : Below w.heap.size w (wq.drewN nq) := below_drewN hb1 _
                generalize wq.drewN nq = wr2 at hb2 ⊢
                go_wp2
                go_loopw [0] (fun s0 wr => ∃ u : ByteArray, s0 = .string u ∧ u.size ≤ t3.size ∧ Below w.heap.size w wr) (fun s0 _ => szOf s0)
                case atStart => exact ⟨t3, rfl, Nat.le_refl _, hb2⟩
                case round =>
                  obtain ⟨u, rfl, hut, hbu⟩ := hrel
                  by_cases c32 : 32 < u.size
                  · have c32z : (32 : Int) < (u.size : Int) := by omega
                    have s8u : (8 : Int) ≤ (u.size : Int) := by omega
                    have s16u : (16 : Int) ≤ (u.size : Int) := by omega
                    have s24u : (24 : Int) ≤ (u.size : Int) := by omega
                    obtain ⟨ub, hub⟩ : ∃ ub, u.extract 8 u.size = ub := ⟨_, rfl⟩
                    have zub : ub.size + 8 = u.size := by rw [← hub, ByteArray.size_extract]; omega
                    obtain ⟨uc, huc⟩ : ∃ uc, u.extract 16 u.size = uc := ⟨_, rfl⟩
                    have zuc : uc.size + 16 = u.size := by rw [← huc, ByteArray.size_extract]; omega
                    obtain ⟨ud, hud⟩ : ∃ ud, u.extract 24 u.size = ud := ⟨_, rfl⟩
                    have zud : ud.size + 24 = u.size := by rw [← hud, ByteArray.size_extract]; omega
                    obtain ⟨B0, cB0⟩ := word_any u (by omega)
                    have CB0 := Lib.hid cB0
                    clear cB0
                    obtain ⟨B1, cB1⟩ := word_any ub (by omega)
                    have CB1 := Lib.hid cB1
                    clear cB1
                    obtain ⟨B2, cB2⟩ := word_any uc (by omega)
                    have CB2 := Lib.hid cB2
                    clear cB2
                    obtain ⟨B3, cB3⟩ := word_any ud (by omega)
                    have CB3 := Lib.hid cB3
                    clear cB3
                    cases hz3 : (bits .and .u64 (bits .or .u64 (bits .or .u64 B0 B1) (bits .or .u64 B2 B3)) 9259542123273814144 == 0) with
                    | false =>
                      go_wp2_with fail
                      go_quiet (first | (go_at_call_of 102 (Value.string u); exact word_quiet CB0.out _ _) | (go_at_call_of 102 (Value.string ub); exact word_quiet CB1.out _ _) | (go_at_call_of 102 (Value.string uc); exact word_quiet CB2.out _ _) | (go_at_call_of 102 (Value.string ud); exact word_quiet CB3.out _ _))
                      go_wp2
                      go_roundw
                      case rel => exact ⟨u, rfl, by omega, below_drewN hbu _⟩
                      case measure => simp only [szOf_s]; omega
                    | true =>
                      obtain ⟨u2, hu2⟩ : ∃ u2, u.extract 32 u.size = u2 := ⟨_, rfl⟩
                      have zu2 : u2.size + 32 = u.size := by rw [← hu2, ByteArray.size_extract]; omega
                      go_wp2_with fail
                      go_quiet (first | (go_at_call_of 102 (Value.string u); exact word_quiet CB0.out _ _) | (go_at_call_of 102 (Value.string ub); exact word_quiet CB1.out _ _) | (go_at_call_of 102 (Value.string uc); exact word_quiet CB2.out _ _) | (go_at_call_of 102 (Value.string ud); exact word_quiet CB3.out _ _))
                      go_wp2
                      go_roundw
                      case rel => exact ⟨u2, rfl, by omega, below_drewN hbu _⟩
                      case measure => simp only [szOf_s]; omega
                  · have c32z : (u.size : Int) ≤ (32 : Int) := by omega
                    have c32b : decide ((32 : Int) < (u.size : Int)) = false := decide_eq_false (by omega)
                    go_wp2_with fail
                    go_quiet (fail)
                    go_wp2
                    go_roundw
                    case rel => exact ⟨u, rfl, by omega, below_drewN hbu _⟩
                    case measure => simp only [szOf_s]; omega
            · have c16z : (t2.size : Int) ≤ (16 : Int) := by omega
              have c16b : decide ((16 : Int) < (t2.size : Int)) = false := decide_eq_false (by omega)
              go_wp2_with (go_at_call 102; refine (CW1.out _).mono ?_; rintro e W1 ⟨rfl, q1, rfl⟩)
              have hb1 : Below w.heap.size w (wr.drewN q1) := below_drewN hbel _
              generalize wr.drewN q1 = wq at hb1 ⊢
              go_quiet (fail)
              go_wp2
              go_roundw
              case rel => exact ⟨t2, rfl, by omega, below_drewN hb1 _⟩
              case measure => simp only [szOf_s]; omega
        · have c8z : (t1.size : Int) ≤ 8 := by omega
          go_wp2
          go_roundw
          case rel => exact ⟨t1, rfl, by omega, hbel⟩
          case measure => simp only [szOf_s]; omega
      · have hascz : (128 : Int) ≤ (x0.toNat : Int) := by omega
        obtain ⟨v, hv, hcF⟩ := (hT.below hbel).1 x0.toNat hx0lt
        obtain ⟨lo, hi, hcA, hcB⟩ := (hT.below hbel).2 (v / 16) (by omega)
        obtain ⟨l1, l2, l3, l4⟩ := cell_lts hcF
        obtain ⟨m1, m2, m3, m4⟩ := cell_lts hcA
        obtain ⟨m, hm⟩ : ∃ m, bits .and .u8 (v : Int) 7 = m := ⟨_, rfl⟩
        obtain ⟨hm0, hm8⟩ : 0 ≤ m ∧ m < 8 := by rw [← hm]; exact and_seven ⟨v, hv⟩
        have HM := Lib.hid hm
        by_cases hm2 : m = 2
        · subst hm2
          as_aux_lemma =>
            go_wp2_with fail
            by_cases c2 : t.size < 2
            · have c2z : (t.size : Int) < 2 := by omega
              go_quiet (fail)
              go_wp2
              go_ret
              exact ⟨someBool_mk _, below_drewN (hbel.alloc hbel.size _) _⟩
            · have c2z : (2 : Int) ≤ (t.size : Int) := by omega
              have e1 : 1 < t.size := by omega
              have f1 : (1 : Int) < (t.size : Int) := by omega
              obtain ⟨x1, hx1⟩ : ∃ x1, t[1] = x1 := ⟨_, rfl⟩
              by_cases a1 : (x1.toNat : Int) < (lo : Int)
              · go_quiet (fail)
                go_wp2
                go_ret
                exact ⟨someBool_mk _, below_drewN (hbel.alloc hbel.size _) _⟩
              · have a1n : (lo : Int) ≤ (x1.toNat : Int) := by omega
                by_cases a2 : (hi : Int) < (x1.toNat : Int)
                · go_quiet (fail)
                  go_wp2
                  go_ret
                  exact ⟨someBool_mk _, below_drewN (hbel.alloc hbel.size _) _⟩
                · have a2n : (x1.toNat : Int) ≤ (hi : Int) := by omega
                  go_quiet (fail)
                  go_wp2
                  go_roundw
                  case rel => exact ⟨t.extract 2 t.size, rfl, by rw [ByteArray.size_extract]; omega, below_drewN (hbel.alloc hbel.size _) _⟩
                  case measure => simp only [szOf_s, ByteArray.size_extract]; omega
        · have n2 : (m == 2) = false := by simpa using hm2
          by_cases hm3 : m = 3
          · subst hm3
            as_aux_lemma =>
              go_wp2_with fail
              by_cases c2 : t.size < 3
              · have c2z : (t.size : Int) < 3 := by omega
                go_quiet (fail)
                go_wp2
                go_ret
                exact ⟨someBool_mk _, below_drewN (hbel.alloc hbel.size _) _⟩
              · have c2z : (3 : Int) ≤ (t.size : Int) := by omega
                have e1 : 1 < t.size := by omega
                have f1 : (1 : Int) < (t.size : Int) := by omega
                obtain ⟨x1, hx1⟩ : ∃ x1, t[1] = x1 := ⟨_, rfl⟩
                have e2 : 2 < t.size := by omega
                have f2 : (2 : Int) < (t.size : Int) := by omega
                obtain ⟨x2, hx2⟩ : ∃ x2, t[2] = x2 := ⟨_, rfl⟩
                by_cases a1 : (x1.toNat : Int) < (lo : Int)
                · go_quiet (fail)
                  go_wp2
                  go_ret
                  exact ⟨someBool_mk _, below_drewN (hbel.alloc hbel.size _) _⟩
                · have a1n : (lo : Int) ≤ (x1.toNat : Int) := by omega
                  by_cases a2 : (hi : Int) < (x1.toNat : Int)
                  · go_quiet (fail)
                    go_wp2
                    go_ret
                    exact ⟨someBool_mk _, below_drewN (hbel.alloc hbel.size _) _⟩
                  · have a2n : (x1.toNat : Int) ≤ (hi : Int) := by omega
                    by_cases b1 : (x2.toNat : Int) < 128
                    · go_quiet (fail)
                      go_wp2
                      go_ret
                      exact ⟨someBool_mk _, below_drewN (hbel.alloc hbel.size _) _⟩
                    · have b1n : (128 : Int) ≤ (x2.toNat : Int) := by omega
                      by_cases b2 : (191 : Int) < (x2.toNat : Int)
                      · go_quiet (fail)
                        go_wp2
                        go_ret
                        exact ⟨someBool_mk _, below_drewN (hbel.alloc hbel.size _) _⟩
                      · have b2n : (x2.toNat : Int) ≤ 191 := by omega
                        go_quiet (fail)
                        go_wp2
                        go_roundw
                        case rel => exact ⟨t.extract 3 t.size, rfl, by rw [ByteArray.size_extract]; omega, below_drewN (hbel.alloc hbel.size _) _⟩
                        case measure => simp only [szOf_s, ByteArray.size_extract]; omega
          · have n3 : (m == 3) = false := by simpa using hm3
            by_cases hm4 : m = 4
            · subst hm4
              as_aux_lemma =>
                go_wp2_with fail
                by_cases c2 : t.size < 4
                · have c2z : (t.size : Int) < 4 := by omega
                  go_quiet (fail)
                  go_wp2
                  go_ret
                  exact ⟨someBool_mk _, below_drewN (hbel.alloc hbel.size _) _⟩
                · have c2z : (4 : Int) ≤ (t.size : Int) := by omega
                  have e1 : 1 < t.size := by omega
                  have f1 : (1 : Int) < (t.size : Int) := by omega
                  obtain ⟨x1, hx1⟩ : ∃ x1, t[1] = x1 := ⟨_, rfl⟩
                  have e2 : 2 < t.size := by omega
                  have f2 : (2 : Int) < (t.size : Int) := by omega
                  obtain ⟨x2, hx2⟩ : ∃ x2, t[2] = x2 := ⟨_, rfl⟩
                  have e3 : 3 < t.size := by omega
                  have f3 : (3 : Int) < (t.size : Int) := by omega
                  obtain ⟨x3, hx3⟩ : ∃ x3, t[3] = x3 := ⟨_, rfl⟩
                  by_cases a1 : (x1.toNat : Int) < (lo : Int)
                  · go_quiet (fail)
                    go_wp2
                    go_ret
                    exact ⟨someBool_mk _, below_drewN (hbel.alloc hbel.size _) _⟩
                  · have a1n : (lo : Int) ≤ (x1.toNat : Int) := by omega
                    by_cases a2 : (hi : Int) < (x1.toNat : Int)
                    · go_quiet (fail)
                      go_wp2
                      go_ret
                      exact ⟨someBool_mk _, below_drewN (hbel.alloc hbel.size _) _⟩
                    · have a2n : (x1.toNat : Int) ≤ (hi : Int) := by omega
                      by_cases b1 : (x2.toNat : Int) < 128
                      · go_quiet (fail)
                        go_wp2
                        go_ret
                        exact ⟨someBool_mk _, below_drewN (hbel.alloc hbel.size _) _⟩
                      · have b1n : (128 : Int) ≤ (x2.toNat : Int) := by omega
                        by_cases b2 : (191 : Int) < (x2.toNat : Int)
                        · go_quiet (fail)
                          go_wp2
                          go_ret
                          exact ⟨someBool_mk _, below_drewN (hbel.alloc hbel.size _) _⟩
                        · have b2n : (x2.toNat : Int) ≤ 191 := by omega
                          by_cases d1 : (x3.toNat : Int) < 128
                          · go_quiet (fail)
                            go_wp2
                            go_ret
                            exact ⟨someBool_mk _, below_drewN (hbel.alloc hbel.size _) _⟩
                          · have d1n : (128 : Int) ≤ (x3.toNat : Int) := by omega
                            by_cases d2 : (191 : Int) < (x3.toNat : Int)
                            · go_quiet (fail)
                              go_wp2
                              go_ret
                              exact ⟨someBool_mk _, below_drewN (hbel.alloc hbel.size _) _⟩
                            · have d2n : (x3.toNat : Int) ≤ 191 := by omega
                              go_quiet (fail)
                              go_wp2
                              go_roundw
                              case rel => exact ⟨t.extract 4 t.size, rfl, by rw [ByteArray.size_extract]; omega, below_drewN (hbel.alloc hbel.size _) _⟩
                              case measure => simp only [szOf_s, ByteArray.size_extract]; omega
            · have n4 : (m == 4) = false := by simpa using hm4
              go_wp2
              go_ret
              exact ⟨someBool_mk _, hbel.alloc hbel.size _⟩
    · go_wp2
      go_ret
      exact ⟨someBool_mk _, hbel⟩
end Go.Proofs.YtgfkdjmoflbmdaaGreatDoor
