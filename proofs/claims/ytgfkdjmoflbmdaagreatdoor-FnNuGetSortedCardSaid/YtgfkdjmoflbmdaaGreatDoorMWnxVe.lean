/- Contracts: words: Add, mulAddWWW_g. PLAIN: a number's words multiplied by a word, a word added. Imports no program. Contracts: mulAddVWW. Contracts: nat.make, nat.norm, mulAddVWW, setWord, mulAddWW. Contracts: setWord, mulAddWW. Contracts: strings.Reader. Contracts: maxPow, pow (at base 10). Errors compared. -/
import Derived.Test.YtgfkdjmoflbmdaaGreatDoorMSh
import Derived.Test.YtgfkdjmoflbmdaaGreatDoorMPl1xPl2
import Derived.Laws.Externs
import Derived.Test.YtgfkdjmoflbmdaaGreatDoorMWbxWf
import Derived.Deep.DeepMust
import Derived.Handy
import Derived.Deep.RegionHeld3
import Derived.Deep.DeepCutAuto
import Derived.Deep.CutBlock
import Derived.LaidEql
namespace Go.Proofs.YtgfkdjmoflbmdaaGreatDoor
open Go.RowKit
open Go.Proofs

theorem add64_0 (x y : Int) (hx : 0 ≤ x) (hy : 0 ≤ y) (w : World) : (callFunc 279 #[.int .u64 x, .int .u64 y, .int .u64 0]).run Tryz.prog w =
    .ok (.value (.tuple #[.int .u64 ((x + y) % 18446744073709551616), .int .u64 ((x + y) / 18446744073709551616)])) w := by
  rw [run_callFunc_extern (f := 279) (fn := Tryz.f279) (by kernel_rfl) (by kernel_rfl) (by kernel_rfl) (by kernel_rfl) (e := add64Entry) (by kernel_rfl), run_add64 x y 0 hx hy (Int.le_refl 0) (by decide)]
  simp [Result.andThen]

theorem Add_any (x y : Nat) (w : World) :
    Calls Tryz.prog 244 #[.int .u64 x, .int .u64 y, .int .u64 0] w fun e w' => e = .returned (.tuple #[.int .u64 (((x + y) % 18446744073709551616 : Nat) : Int), .int .u64 (((x + y) / 18446744073709551616 : Nat) : Int)]) ∧ w' = w := by
  have hx : (0 : Int) ≤ (x : Int) := by omega
  have hy : (0 : Int) ≤ (y : Int) := by omega
  go_enter Tryz.func244, Tryz.ntmps244
  go_wp2_with (first | simp only [add64_0 (x : Int) (y : Int) hx hy])
  refine bodyPost_ret (v := .tuple #[.int .u64 ((x + y : Int) % 18446744073709551616), .int .u64 ((x + y : Int) / 18446744073709551616)]) (by simp [results, Tryz.results244, go_sem]) rfl ⟨?_, rfl⟩
  congr 4

theorem mul_word (x y c : Nat) (hx : x < 18446744073709551616) (hy : y < 18446744073709551616) (hc : c < 18446744073709551616) :
    IntKind.u64.wrap ((x : Int) * (y : Int) / 18446744073709551616 + ((x : Int) * (y : Int) % 18446744073709551616 + (c : Int)) / 18446744073709551616) = (((x * y + c) / 18446744073709551616 : Nat) : Int) ∧
    ((x : Int) * (y : Int) + (c : Int)) % 18446744073709551616 = (((x * y + c) % 18446744073709551616 : Nat) : Int) ∧ (x * y + c) / 18446744073709551616 < 18446744073709551616 := by
  have hp : x * y ≤ 18446744073709551615 * 18446744073709551615 := Nat.mul_le_mul (by omega) (by omega)
  rw [← Int.natCast_mul]
  obtain ⟨p, hpe⟩ : ∃ p, x * y = p := ⟨_, rfl⟩
  rw [hpe] at hp ⊢
  rw [IntKind.wrap_u64]
  omega

theorem mulAddWWW_any (x y c : Nat) (hx : x < 18446744073709551616) (hy : y < 18446744073709551616) (hc : c < 18446744073709551616) (w : World) :
    Calls Tryz.prog 217 #[.int .u64 x, .int .u64 y, .int .u64 c] w fun e w' => e = .returned (.tuple #[.int .u64 (((x * y + c) / 18446744073709551616 : Nat) : Int), .int .u64 (((x * y + c) % 18446744073709551616 : Nat) : Int)]) ∧ w = w' := by
  go_enter Tryz.func217, Tryz.ntmps217
  go_wp2_with (first | (go_at_call 229; refine (Tryz.bits_Mul x y hx hy _).mono ?_; rintro e w1 ⟨rfl, rfl⟩) | (go_at_call 244; refine (Add_any _ _ _).mono ?_; rintro e w1 ⟨rfl, rfl⟩))
  obtain ⟨h1, h2, _⟩ := mul_word x y c hx hy hc
  refine bodyPost_ret (v := .tuple #[.int .u64 (IntKind.u64.wrap ((x : Int) * (y : Int) / 18446744073709551616 + ((x : Int) * (y : Int) % 18446744073709551616 + (c : Int)) / 18446744073709551616)), .int .u64 (((x : Int) * (y : Int) + (c : Int)) % 18446744073709551616)]) (by simp [results, Tryz.results217, go_sem]) rfl ⟨?_, rfl⟩
  rw [h1, h2]
end Go.Proofs.YtgfkdjmoflbmdaaGreatDoor

namespace Go.Proofs.YtgfkdjmoflbmdaaGreatDoor.Pl

/-- words times y, and c: the words and what is carried out -/
def mulV (b : Nat) : List Nat → Nat → Nat → List Nat × Nat
  | [], _, c => ([], c)
  | x :: r, y, c => ((x * y + c) % b :: (mulV b r y ((x * y + c) / b)).1, (mulV b r y ((x * y + c) / b)).2)
theorem mulV_nil (b y c : Nat) : mulV b [] y c = ([], c) := rfl
theorem mulV_cons (b x : Nat) (r : List Nat) (y c : Nat) : mulV b (x :: r) y c = ((x * y + c) % b :: (mulV b r y ((x * y + c) / b)).1, (mulV b r y ((x * y + c) / b)).2) := rfl
theorem mulV_len (b : Nat) : ∀ (l : List Nat) (y c : Nat), (mulV b l y c).1.length = l.length
  | [], _, _ => rfl
  | x :: r, y, c => by rw [mulV_cons]; simp [mulV_len b r]
theorem mulV_lt (b : Nat) (hb : 0 < b) : ∀ (l : List Nat) (y c : Nat), ∀ d ∈ (mulV b l y c).1, d < b
  | [], _, _, d, h => by simp [mulV] at h
  | x :: r, y, c, d, h => by
    rw [mulV_cons] at h
    rcases List.mem_cons.1 h with rfl | h
    · exact Nat.mod_lt _ hb
    · exact mulV_lt b hb r y _ d h
theorem carry_lt {b x y c : Nat} (hx : x < b) (hy : y < b) (hc : c < b) : (x * y + c) / b < b := by
  rw [Nat.div_lt_iff_lt_mul (by omega)]
  have h1 : x * y ≤ (b - 1) * (b - 1) := Nat.mul_le_mul (by omega) (by omega)
  have h2 : (b - 1) * (b - 1) + (b - 1) = (b - 1) * b := by
    obtain ⟨k, rfl⟩ : ∃ k, b = k + 1 := ⟨b - 1, by omega⟩
    simp only [Nat.add_sub_cancel]
    rw [Nat.mul_add, Nat.mul_one]
  have h3 : (b - 1) * b + b = b * b := by
    obtain ⟨k, rfl⟩ : ∃ k, b = k + 1 := ⟨b - 1, by omega⟩
    simp only [Nat.add_sub_cancel]
    rw [Nat.add_mul, Nat.one_mul]
  omega
theorem mulV_carry (b : Nat) : ∀ (l : List Nat) (y c : Nat), (∀ d ∈ l, d < b) → y < b → c < b → (mulV b l y c).2 < b
  | [], _, _, _, _, hc => hc
  | x :: r, y, c, hl, hy, hc => by
    rw [mulV_cons]
    exact mulV_carry b r y _ (fun d hd => hl d (List.mem_cons_of_mem _ hd)) hy (carry_lt (hl x (by simp)) hy hc)
theorem mulV_val (b : Nat) (hb : 0 < b) : ∀ (l : List Nat) (y c : Nat), val b (mulV b l y c).1 + b ^ l.length * (mulV b l y c).2 = val b l * y + c
  | [], y, c => by simp [mulV, val]
  | x :: r, y, c => by
    have ih := mulV_val b hb r y ((x * y + c) / b)
    rw [mulV_cons]
    simp only [val, List.length_cons, Nat.pow_succ]
    have e1 : (x * y + c) % b + b * ((x * y + c) / b) = x * y + c := Nat.mod_add_div _ _
    have e2 : b ^ r.length * b * (mulV b r y ((x * y + c) / b)).2 = b * (b ^ r.length * (mulV b r y ((x * y + c) / b)).2) := by
      rw [Nat.mul_comm (b ^ r.length) b, Nat.mul_assoc]
    rw [e2]
    have e3 : b * val b (mulV b r y ((x * y + c) / b)).1 + b * (b ^ r.length * (mulV b r y ((x * y + c) / b)).2) = b * (val b r * y) + b * ((x * y + c) / b) := by
      rw [← Nat.mul_add, ih, Nat.mul_add]
    have e4 : (x + b * val b r) * y = x * y + b * (val b r * y) := by rw [Nat.add_mul, Nat.mul_assoc]
    rw [e4]
    omega

/-- the words without zeros on top -/
theorem take_zeros (b : Nat) : ∀ (l : List Nat) (i : Nat), i ≤ l.length → (∀ d ∈ l.drop i, d = 0) → val b (l.take i) = val b l
  | [], i, _, _ => by simp
  | x :: r, 0, _, h => by
    have h0 : ∀ (m : List Nat), (∀ d ∈ m, d = 0) → val b m = 0 := by
      intro m
      induction m with
      | nil => intro _; rfl
      | cons a m ih => intro hm; simp [val, hm a (by simp), ih (fun d hd => hm d (List.mem_cons_of_mem _ hd))]
    rw [List.drop_zero] at h
    rw [h0 (x :: r) h]; rfl
  | x :: r, i + 1, hi, h => by
    have ih := take_zeros b r i (by simpa using hi) (by simpa using h)
    simp [val, ih]
theorem norm_digs (b : Nat) (hb : 2 ≤ b) (l : List Nat) (hl : ∀ d ∈ l, d < b) (i : Nat) (hi : i ≤ l.length) (hz : ∀ d ∈ l.drop i, d = 0) (ht : i = 0 ∨ l[i - 1]? ≠ some 0) : l.take i = digs b (val b l) := by
  have hn : Normd (l.take i) := by
    unfold Normd
    rcases Nat.eq_zero_or_pos i with rfl | h0
    · simp
    · rw [List.getLast?_eq_getElem?, List.length_take, Nat.min_eq_left hi, List.getElem?_take, if_pos (by omega)]
      exact ht.resolve_left (by omega)
  rw [← take_zeros b l i hi hz]
  exact (digs_val b hb _ (fun d hd => hl d (List.mem_of_mem_take hd)) hn).symm
/-- a word more on top -/
theorem mulAdd_val (b : Nat) (hb : 0 < b) (l : List Nat) (y c : Nat) : val b ((mulV b l y c).1 ++ [(mulV b l y c).2]) = val b l * y + c := by
  rw [val_append, mulV_len, ← mulV_val b hb l y c]
  simp [val]
end Go.Proofs.YtgfkdjmoflbmdaaGreatDoor.Pl

namespace Go.Proofs.YtgfkdjmoflbmdaaGreatDoor
open Go.RowKit
open Go.Proofs

/-- the base of the words -/
def M : Nat := 18446744073709551616
theorem M_eq : M = 18446744073709551616 := rfl
theorem M_two : 2 ≤ M := by rw [M_eq]; omega
def WC (l : List Nat) : List Value := l.map fun (d : Nat) => Value.int .u64 (d : Int)
theorem WC_len (l : List Nat) : (WC l).length = l.length := by simp [WC]
theorem WC_get (l : List Nat) (j : Nat) (h : j < l.length) : (WC l)[j]? = some (Value.int .u64 ((l[j] : Nat) : Int)) := by simp [WC, h]
theorem WC_append (a b : List Nat) : WC (a ++ b) = WC a ++ WC b := by simp [WC]
theorem WC_take (l : List Nat) (i : Nat) : (WC l).take i = WC (l.take i) := by simp [WC, List.map_take]
theorem mulAddWWW_M (x y c : Nat) (hx : x < M) (hy : y < M) (hc : c < M) (w : World) :
    Calls Tryz.prog 217 #[.int .u64 x, .int .u64 y, .int .u64 c] w fun e w' => e = .returned (.tuple #[.int .u64 (((x * y + c) / M : Nat) : Int), .int .u64 (((x * y + c) % M : Nat) : Int)]) ∧ w = w' := by
  rw [M_eq] at *
  exact mulAddWWW_any x y c hx hy hc w
theorem set_mid (a : List Value) (t : List Value) (k : Nat) (hk : k < t.length) (ha : a.length = k) (u : Value) : (a ++ t.drop k).toArray.setIfInBounds k u = ((a ++ [u]) ++ t.drop (k + 1)).toArray := by
  subst ha
  have hd := List.drop_eq_getElem_cons hk
  simp
  rw [hd]; rfl
theorem grown_set (w : World) (g k : Nat) (u : Value) : w.grownBy (w.setCell ⟨g, k, none⟩ u) (some g) :=
  ⟨rfl, rfl, rfl, by simp, fun j _ hj => heap_setCell_other w ⟨g, k, none⟩ j u (fun e => hj (by simp [e]))⟩

set_option maxRecDepth 100000 in
set_option maxHeartbeats 1000000 in
theorem mulVec_any (g capz bx ox cx : Nat) (xs : List Nat) (tail : List Value) (y c : Nat) (w : World) (hl : xs.length ≤ 1000000) (hB : Blk w g 179 tail.toArray) (htl : xs.length ≤ tail.length)
    (hX : ∀ (k : Nat) (h : k < xs.length), w.cell? ⟨bx, ox + k, none⟩ = some (.int .u64 ((xs[k] : Nat) : Int))) (hsep : bx ≠ g ∨ ox = 0) (hlt : ∀ d ∈ xs, d < M) (hy : y < M) (hc : c < M) :
    Calls Tryz.prog 204 #[.slice (some ⟨g, 0, none⟩) xs.length capz, .slice (some ⟨bx, ox, none⟩) xs.length cx, .int .u64 y, .int .u64 c] w fun e w' =>
      e = .returned (.int .u64 ((Pl.mulV M xs y c).2 : Nat)) ∧ Blk w' g 179 (WC (Pl.mulV M xs y c).1 ++ tail.drop xs.length).toArray ∧ w.grownBy w' (some g) := by
  have HLT := Lib.hid hlt
  have HX := Lib.hid hX
  clear hlt hX
  obtain ⟨R, hR⟩ : ∃ R, Pl.mulV M xs y c = R := ⟨_, rfl⟩
  rw [hR]
  have HR := Lib.hid hR
  have hrl := Pl.mulV_len M xs y c
  rw [hR] at hrl
  clear hR
  go_enter Tryz.func204, Tryz.ntmps204
  go_wp2
  go_loopw [8, 19] (fun cv iv wr => ∃ (k cc : Nat) (done : List Nat), k ≤ xs.length ∧ iv = .int .i64 (k : Int) ∧ cv = .int .u64 (cc : Int) ∧ cc < M ∧ done.length = k ∧ Blk wr g 179 (WC done ++ tail.drop k).toArray ∧
    (∀ (j : Nat) (h : j < xs.length), k ≤ j → wr.cell? ⟨bx, ox + j, none⟩ = some (.int .u64 ((xs[j] : Nat) : Int))) ∧
    done ++ (Pl.mulV M (xs.drop k) y cc).1 = R.1 ∧ (Pl.mulV M (xs.drop k) y cc).2 = R.2 ∧ w.grownBy wr (some g)) (fun _ iv _ => xs.length - (intOf iv).toNat)
  case atStart => exact ⟨0, c, [], Nat.zero_le _, rfl, rfl, hc, rfl, by simpa [WC] using hB, fun j h _ => HX.out j h, by rw [← HR.out]; simp, by rw [← HR.out]; simp, World.grownBy.refl _ _⟩
  case round =>
    obtain ⟨k, cc, done, hk, rfl, rfl, hcc, hdn, hblk, hcells, h1, h2, hgr⟩ := hrel
    have HCE := Lib.hid hcells
    have H1 := Lib.hid h1
    have H2 := Lib.hid h2
    have HDN := Lib.hid hdn
    clear hcells h1 h2 hdn
    by_cases hkl : k < xs.length
    · have hcell := HCE.out k hkl (Nat.le_refl _)
      have hxlt := HLT.out xs[k] (List.getElem_mem hkl)
      have hdrop : xs.drop k = xs[k] :: xs.drop (k + 1) := List.drop_eq_getElem_cons hkl
      have HDR := Lib.hid hdrop
      obtain ⟨x, hx⟩ : ∃ x, xs[k] = x := ⟨_, rfl⟩
      rw [hx] at hcell hxlt HDR
      clear hdrop hx
      have hcl := Pl.carry_lt hxlt hy hcc
      have HCL := Lib.hid hcl
      have hz : ∃ u, wr.cell? ⟨g, k, none⟩ = some u := by
        rw [hblk.cell k]
        refine ⟨_, Array.getElem?_eq_getElem (h := ?_)⟩
        have := HDN.out
        simp [WC, this]; omega
      obtain ⟨u, hz⟩ := hz
      have hzf := hblk.frozen k
      clear hcl
      go_wp2_with (go_at_call 217; refine (mulAddWWW_M x y cc hxlt hy hcc _).mono ?_; rintro e w1 ⟨rfl, rfl⟩)
      go_roundw
      case rel =>
        have e1 := H1.out
        have e2 := H2.out
        rw [HDR.out, Pl.mulV_cons] at e1 e2
        have hset := hblk.set_ k (.int .u64 (((x * y + cc) % M : Nat) : Int))
        rw [set_mid (WC done) tail k (by omega) (by rw [WC_len]; exact HDN.out) _] at hset
        refine ⟨k + 1, (x * y + cc) / M, done ++ [(x * y + cc) % M], by omega, by go_num, rfl, HCL.out, by simp [HDN.out], by rw [WC_append]; exact hset, ?_, by simpa using e1, e2, ?_⟩
        · intro j hj hkj
          have := HCE.out j hj (by omega)
          rw [World.cell?_setCell_other]
          · exact this
          · intro e
            injection e with e1 e2
            rcases hsep with h | h
            · exact h e1.symm
            · omega
        · exact hgr.trans (grown_set _ _ _ _)
      case measure => simp [intOf]; omega
    · obtain rfl : k = xs.length := by omega
      go_wp2
      go_ret
      have e1 := H1.out
      have e2 := H2.out
      rw [List.drop_length, Pl.mulV_nil] at e1 e2
      simp only [List.append_nil] at e1
      subst e1
      refine ⟨ret_int (by rw [← e2]), hblk, hgr⟩
end Go.Proofs.YtgfkdjmoflbmdaaGreatDoor

namespace Go.Proofs.YtgfkdjmoflbmdaaGreatDoor
open Go.RowKit
open Go.Proofs

theorem mulAddVWW_any (g capz bx ox cx : Nat) (xs : List Nat) (tail : List Value) (y c : Nat) (w : World) (hl : xs.length ≤ 1000000) (hB : Blk w g 179 tail.toArray) (htl : xs.length ≤ tail.length)
    (hX : ∀ (k : Nat) (h : k < xs.length), w.cell? ⟨bx, ox + k, none⟩ = some (.int .u64 ((xs[k] : Nat) : Int))) (hsep : bx ≠ g ∨ ox = 0) (hlt : ∀ d ∈ xs, d < M) (hy : y < M) (hc : c < M) :
    Calls Tryz.prog 190 #[.slice (some ⟨g, 0, none⟩) xs.length capz, .slice (some ⟨bx, ox, none⟩) xs.length cx, .int .u64 y, .int .u64 c] w fun e w' =>
      e = .returned (.int .u64 ((Pl.mulV M xs y c).2 : Nat)) ∧ Blk w' g 179 (WC (Pl.mulV M xs y c).1 ++ tail.drop xs.length).toArray ∧ w.grownBy w' (some g) := by
  have HC := Lib.hid (mulVec_any g capz bx ox cx xs tail y c w hl hB htl hX hsep hlt hy hc)
  go_enter Tryz.func190, Tryz.ntmps190
  go_wp2_with fail
  refine HC.out.mono ?_; rintro e w1 ⟨rfl, hb, hg⟩
  go_wp2
  go_ret
  exact ⟨rfl, hb, hg⟩

theorem info179 : (Tryz.prog.info? 179).map (fun i => (i.zero, i.size, i.bytes)) = some (some (.int .u64 0), 1, 8) := by kernel_rfl

theorem norm_any (A : Option Addr) (n cap : Nat) (ws : List Nat) (w : World) (hn : ws.length = n) (hnc : n ≤ cap) (hl : n ≤ 1000000) (hr : Rd w 1 A n (WC ws)) (hlt : ∀ d ∈ ws, d < M) :
    Calls Tryz.prog 170 #[.slice A n cap] w fun e w' => e = .returned (.slice A (Pl.digs M (Pl.val M ws)).length cap) ∧ (Pl.digs M (Pl.val M ws)).length ≤ n ∧ ws.take (Pl.digs M (Pl.val M ws)).length = Pl.digs M (Pl.val M ws) ∧ w = w' := by
  have HLT := Lib.hid hlt
  clear hlt
  go_enter Tryz.func170, Tryz.ntmps170
  go_wp2
  go_loop [3] (fun iv => ∃ k : Nat, k ≤ n ∧ iv = .int .i64 (k : Int) ∧ (∀ d ∈ ws.drop k, d = 0)) (fun iv => (intOf iv).toNat)
  case atStart => exact ⟨n, Nat.le_refl _, rfl, by rw [← hn, List.drop_length]; simp⟩
  case round =>
    obtain ⟨k, hk, rfl, hz⟩ := hrel
    have HZ := Lib.hid hz
    clear hz
    by_cases h0 : 0 < k
    · obtain ⟨j, rfl⟩ : ∃ j, k = j + 1 := ⟨k - 1, by omega⟩
      obtain ⟨b, o, rfl, hc⟩ := hr.2 (by omega)
      have hjl : j < ws.length := by omega
      have hcell := hc j _ (WC_get ws j hjl)
      obtain ⟨d, hd⟩ : ∃ d, ws[j] = d := ⟨_, rfl⟩
      rw [hd] at hcell
      have HD := Lib.hid hd
      clear hd
      by_cases hd0 : d = 0
      · subst hd0
        go_wp2
        go_round
        case rel =>
          refine ⟨j, by omega, by go_num, ?_⟩
          intro d hd
          rw [List.drop_eq_getElem_cons hjl] at hd
          rcases List.mem_cons.1 hd with h | h
          · rw [h, HD.out]
          · exact HZ.out d h
        case measure => simp [intOf]
      · have hd1 : ((d : Int) == 0) = false := by rw [beq_eq_false_iff_ne]; omega
        have hw := Pl.norm_digs M M_two ws HLT.out (j + 1) (by omega) HZ.out (Or.inr (by
          rw [Nat.add_sub_cancel, List.getElem?_eq_getElem hjl, HD.out]
          intro e
          exact hd0 (by simpa using e)))
        have hwl : (Pl.digs M (Pl.val M ws)).length = j + 1 := by rw [← hw, List.length_take]; omega
        have HW := Lib.hid hw
        have HWL := Lib.hid hwl
        clear hw hwl
        go_wp2
        go_ret
        rw [HWL.out]
        exact ⟨rfl, by omega, HW.out, rfl⟩
    · obtain rfl : k = 0 := by omega
      have hw := Pl.norm_digs M M_two ws HLT.out 0 (by omega) HZ.out (Or.inl rfl)
      have hwl : (Pl.digs M (Pl.val M ws)).length = 0 := by rw [← hw]; rfl
      have HW := Lib.hid hw
      have HWL := Lib.hid hwl
      clear hw hwl
      go_wp2
      go_ret
      rw [HWL.out]
      exact ⟨rfl, by omega, HW.out, rfl⟩

theorem mk_row (m c : Nat) (hmc : m ≤ c) (hc : c ≤ 2000000) (w : World) : (Instr.makeSlice 126 (.int .i64 (m : Int)) (.int .i64 (c : Int))).run Tryz.prog w = .ok (.slice (some ⟨w.heap.size, 0, none⟩) m c) (w.alloc (.cells (madeCells #[.int .u64 0] c) 179)) := by
  obtain ⟨i0, hi, hz0, hz1, hz2⟩ := info_parts info179
  have hr := run_make (P := Tryz.prog) w 126 179 i0 _ Tryz.underlying126 hi hz0 .i64 .i64 m c (by omega) (by omega) (by rw [hz2]; omega) (by omega)
  simp only [Int.toNat_natCast, hz1, Nat.mul_one] at hr
  exact hr
/-- what nat.make hands back -/
def MadeAt (base m : Nat) (A : Option Addr) (w : World) (e : Ending) (w' : World) : Prop :=
  ∃ g cap' tail, e = .returned (.slice (some ⟨g, 0, none⟩) m cap') ∧ base ≤ g ∧ Blk w' g 179 tail ∧ tail.size = cap' ∧ m ≤ cap' ∧ cap' ≤ maxLen ∧ Below w.heap.size w w' ∧
      ((A = some ⟨g, 0, none⟩ ∧ w' = w) ∨ w.heap.size ≤ g)
set_option maxRecDepth 100000 in
theorem make_any (base n cap m : Nat) (A : Option Addr) (xs : List Value) (w : World) (hown : w.ownsRow base 179 1 (.slice A n cap) n xs) (hm : 1 ≤ m) (hml : m ≤ 1000000) (hb : base ≤ w.heap.size) :
    Calls Tryz.prog 168 #[.slice A n cap, .int .i64 m] w (MadeAt base m A w) := by
  obtain ⟨i0, hi, hz0, hz1, hz2⟩ := info_parts info179
  by_cases hfit : m ≤ cap
  · rcases hown.2 with ⟨h1, h2⟩ | ⟨g, cap', cur, h1, h2, h3, h4, h5, h6, h7⟩
    · injection h1 with _ _ h1
      omega
    · injection h1 with h1 _ h1'
      subst h1
      subst h1'
      have hfz : (m : Int) ≤ (cap : Int) := by omega
      go_enter Tryz.func168, Tryz.ntmps168
      go_wp2
      go_ret
      exact ⟨g, cap, cur, rfl, h2, h3, by omega, hfit, h5, Below.refl _ _, Or.inl ⟨rfl, rfl⟩⟩
  · have hfz : ¬ (m : Int) ≤ (cap : Int) := by omega
    by_cases h1 : m = 1
    · subst h1
      go_enter Tryz.func168, Tryz.ntmps168
      have hmk : ∀ w, (Instr.makeSlice 126 (.int .i64 1) (.int .i64 1)).run Tryz.prog w = .ok (.slice (some ⟨w.heap.size, 0, none⟩) 1 1) (w.alloc (.cells (madeCells #[.int .u64 0] 1) 179)) := fun w => mk_row 1 1 (by omega) (by omega) w
      go_wp2
      go_ret
      exact ⟨w.heap.size, 1, _, rfl, hb, Blk.new _ _ _, size_madeCells _ _, Nat.le_refl _, by unfold maxLen; omega, (Below.refl _ _).alloc (Nat.le_refl _) _, Or.inr (Nat.le_refl _)⟩
    · have h1z : ((m : Int) == 1) = false := by rw [beq_eq_false_iff_ne]; omega
      go_enter Tryz.func168, Tryz.ntmps168
      have hmk : ∀ w, (Instr.makeSlice 126 (.int .i64 (m : Int)) (.int .i64 ((m : Int) + 4))).run Tryz.prog w = .ok (.slice (some ⟨w.heap.size, 0, none⟩) m (m + 4)) (w.alloc (.cells (madeCells #[.int .u64 0] (m + 4)) 179)) := fun w => by
        have := mk_row m (m + 4) (by omega) (by omega) w
        simpa using this
      go_wp2
      go_ret
      exact ⟨w.heap.size, m + 4, _, rfl, hb, Blk.new _ _ _, size_madeCells _ _, by omega, by unfold maxLen; omega, (Below.refl _ _).alloc (Nat.le_refl _) _, Or.inr (Nat.le_refl _)⟩
end Go.Proofs.YtgfkdjmoflbmdaaGreatDoor

namespace Go.Proofs.YtgfkdjmoflbmdaaGreatDoor
open Go.RowKit
open Go.Proofs

/-- v is a number's words, in a block of its own from base on -/
def NatAt (w : World) (base : Nat) (v : Value) (N : Nat) : Prop := w.ownsRow base 179 1 v (Pl.digs M N).length (WC (Pl.digs M N))
theorem digs_one {r : Nat} (h0 : r ≠ 0) (h : r < M) : Pl.digs M r = [r] := by
  rw [Pl.digs_pos M r M_two h0, Nat.mod_eq_of_lt h, Nat.div_eq_of_lt h, Pl.digs_zero]
/-- what comes back: a number's words; what was below base is as it was -/
def NatBack (base : Nat) (N : Nat) (w : World) (e : Ending) (w' : World) : Prop := ∃ v, e = .returned v ∧ NatAt w' base v N ∧ Below base w w'
theorem own_of_blk {w : World} {base g n cap : Nat} {ws : List Nat} {tl : List Value} (h : Blk w g 179 (WC ws ++ tl).toArray) (hb : base ≤ g) (hn : n ≤ ws.length) (hc : ws.length + tl.length = cap) (hm : cap ≤ maxLen) :
    w.ownsRow base 179 1 (.slice (some ⟨g, 0, none⟩) n cap) n (WC (ws.take n)) := by
  refine ⟨by simp [WC, hn], .inr ⟨g, cap, (WC ws ++ tl).toArray, rfl, hb, h, by omega, hm, by simp [WC_len, hc], ?_⟩⟩
  rw [Nat.mul_one, ← WC_take]
  simp [WC_len, List.take_append_of_le_length, hn]

set_option maxRecDepth 100000 in
theorem setWord_any (base cap : Nat) (A : Option Addr) (xs : List Value) (r : Nat) (w : World) (hown : w.ownsRow base 179 1 (.slice A 0 cap) 0 xs) (hr : r < M) (hb : base ≤ w.heap.size) :
    Calls Tryz.prog 189 #[.slice A 0 cap, .int .u64 r] w (NatBack base r w) := by
  by_cases h0 : r = 0
  · subst h0
    have hx : xs = [] := List.eq_nil_of_length_eq_zero (by have := hown.1; omega)
    subst hx
    go_enter Tryz.func189, Tryz.ntmps189
    go_wp2
    go_ret
    refine ⟨_, rfl, ?_, Below.refl _ _⟩
    unfold NatAt
    rw [Pl.digs_zero]
    exact hown
  · have h1 : ((r : Int) == 0) = false := by rw [beq_eq_false_iff_ne]; omega
    go_enter Tryz.func189, Tryz.ntmps189
    go_wp2_with fail
    refine (make_any base 0 cap 1 A xs _ hown (by omega) (by omega) hb).mono ?_; rintro e w1 ⟨g, cap', tail, rfl, hg, hblk, htl, hcap, hmax, hbel, hor⟩
    have hz : ∃ u, w1.cell? ⟨g, 0, none⟩ = some u := by
      rw [hblk.cell 0]
      exact ⟨_, Array.getElem?_eq_getElem (h := by omega)⟩
    obtain ⟨u, hz⟩ := hz
    have hzf := hblk.frozen 0
    clear hor
    have hc1 : (1 : Int) ≤ (cap' : Int) := by omega
    go_wp2
    go_ret
    have hset := hblk.set_ 0 (.int .u64 (r : Int))
    have he : tail.setIfInBounds 0 (.int .u64 (r : Int)) = (WC [r] ++ tail.toList.drop 1).toArray := by
      have := set_mid [] tail.toList 0 (by simp; omega) rfl (.int .u64 (r : Int))
      simpa [WC] using this
    rw [he] at hset
    refine ⟨_, rfl, ?_, ?_⟩
    · unfold NatAt
      rw [digs_one h0 hr]
      exact own_of_blk (ws := [r]) (n := 1) hset hg (by simp) (by simp; omega) hmax
    · exact (hbel.mono hb).setCell hg _

set_option maxRecDepth 100000 in
set_option maxHeartbeats 1000000 in
theorem mulAddWW_any (base : Nat) (v : Value) (N y r : Nat) (w : World) (hN : NatAt w base v N) (hl : (Pl.digs M N).length ≤ 900000) (hy0 : 0 < y) (hy : y < M) (hr : r < M) (hb : base ≤ w.heap.size) :
    Calls Tryz.prog 173 #[v, v, .int .u64 y, .int .u64 r] w (NatBack base (N * y + r) w) := by
  have hlt := Pl.digs_lt M N M_two
  have hval := Pl.val_digs M N M_two
  unfold NatAt at hN
  obtain ⟨ds, hds⟩ : ∃ ds, Pl.digs M N = ds := ⟨_, rfl⟩
  rw [hds] at hN hl hlt hval
  have HLT := Lib.hid hlt
  have HVAL := Lib.hid hval
  have HDS := Lib.hid hds
  clear hlt hval hds
  obtain ⟨A, cap, rfl⟩ := own_form hN
  have hyz : ((y : Int) == 0) = false := by rw [beq_eq_false_iff_ne]; omega
  by_cases h0 : ds.length = 0
  · obtain rfl : ds = [] := List.eq_nil_of_length_eq_zero h0
    have hN0 : N = 0 := by rw [← HVAL.out]; rfl
    subst hN0
    rw [Nat.zero_mul, Nat.zero_add]
    clear h0
    simp only [List.length_nil] at hN ⊢
    have HC := Lib.hid (setWord_any base cap A _ r w hN hr hb)
    go_enter Tryz.func173, Tryz.ntmps173
    go_wp2_with fail
    refine HC.out.mono ?_; rintro e w1 ⟨v', rfl, h1, h2⟩
    go_wp2
    go_ret
    exact ⟨v', rfl, h1, h2⟩
  · obtain ⟨gx, capx, hv, hgx, hglt⟩ := hN.form (by omega)
    injection hv with hA _ hcx
    subst hA
    subst hcx
    have hlz : ((ds.length : Int) == 0) = false := by rw [beq_eq_false_iff_ne]; omega
    go_enter Tryz.func173, Tryz.ntmps173
    go_wp2_with fail
    refine (make_any base ds.length cap (ds.length + 1) (some ⟨gx, 0, none⟩) _ _ hN (by omega) (by omega) hb).mono ?_; rintro e w1 ⟨g, cap', tail, rfl, hg, hblk, htl, hcap, hmax, hbel, hor⟩
    have hX : ∀ (k : Nat) (h : k < ds.length), w1.cell? ⟨gx, 0 + k, none⟩ = some (.int .u64 ((ds[k] : Nat) : Int)) := by
      intro k hk
      rw [Nat.zero_add, hbel.cell (p := ⟨gx, k, none⟩) hglt, hN.cellAt k (by omega), WC_get ds k hk]
    have hB : Blk w1 g 179 tail.toList.toArray := by simpa using hblk
    have HC := Lib.hid (mulAddVWW_any g cap' gx 0 cap ds tail.toList y r w1 (by omega) hB (by simp; omega) hX (Or.inr rfl) HLT.out hy hr)
    obtain ⟨R, hR⟩ : ∃ R, Pl.mulV M ds y r = R := ⟨_, rfl⟩
    have hRl : R.1.length = ds.length := by rw [← hR]; exact Pl.mulV_len M ds y r
    have hRlt : ∀ d ∈ R.1 ++ [R.2], d < M := by
      intro d hd
      rw [← hR] at hd
      rcases List.mem_append.1 hd with h | h
      · exact Pl.mulV_lt M (by rw [M_eq]; omega) ds y r d h
      · rw [List.mem_singleton] at h
        rw [h]
        exact Pl.mulV_carry M ds y r HLT.out hy hr
    have hRv : Pl.val M (R.1 ++ [R.2]) = N * y + r := by rw [← hR, Pl.mulAdd_val M (by rw [M_eq]; omega), HVAL.out]
    rw [hR] at HC
    have HRLT := Lib.hid hRlt
    have HRV := Lib.hid hRv
    clear hR hRlt hRv hX
    have hcz : (ds.length : Int) ≤ (cap' : Int) := by omega
    clear hor
    go_wp2_with fail
    refine HC.out.mono ?_; rintro e w2 ⟨rfl, hb2, hg2⟩
    have hz : ∃ u, w2.cell? ⟨g, ds.length, none⟩ = some u := by
      rw [hb2.cell]
      refine ⟨_, Array.getElem?_eq_getElem (h := ?_)⟩
      simp [WC_len]; omega
    obtain ⟨u, hz⟩ := hz
    have hzf := hb2.frozen ds.length
    go_wp2_with fail
    have hset := hb2.set_ ds.length (.int .u64 (R.2 : Int))
    rw [set_mid (WC R.1) tail.toList ds.length (by simp; omega) (by rw [WC_len]; exact hRl), show WC R.1 ++ [.int .u64 (R.2 : Int)] = WC (R.1 ++ [R.2]) from by simp [WC]] at hset
    have hown3 := own_of_blk (n := ds.length + 1) (cap := cap') hset hg (by simp; omega) (by simp; omega) hmax
    rw [List.take_of_length_le (by simp; omega)] at hown3
    refine (norm_any _ (ds.length + 1) cap' (R.1 ++ [R.2]) _ (by simp; omega) (by omega) (by omega) (Rd.of_own hown3) HRLT.out).mono ?_; rintro e w3 ⟨rfl, hle, htake, rfl⟩
    go_wp2
    go_ret
    rw [HRV.out] at hle htake ⊢
    refine ⟨_, rfl, ?_, ?_⟩
    · have := own_of_blk (n := (Pl.digs M (N * y + r)).length) (cap := cap') hset hg (by simp; omega) (by simp; omega) hmax
      rw [htake] at this
      exact this
    · exact ((hbel.mono hb).grown hg2 (Nat.le_trans hb hbel.size) (fun k hk => by injection hk with hk; omega)).setCell hg _
end Go.Proofs.YtgfkdjmoflbmdaaGreatDoor

namespace Go.Proofs.YtgfkdjmoflbmdaaGreatDoor
open Go.RowKit
open Go.Proofs

/-- a reader over s, i bytes read -/
def RdrAt (w : World) (g : Nat) (s : ByteArray) (i : Nat) : Prop := Blk w g 170 #[.string s, .int .i64 (i : Int), .int .i64 (-1)]

theorem RdrAt.touch {w : World} {g i : Nat} {s : ByteArray} (h : RdrAt w g s i) : RdrAt (w.setCell ⟨g, 2, none⟩ (.int .i64 (-1))) g s i := by
  have := Blk.set_ h 2 (.int .i64 (-1))
  simpa [RdrAt] using this
theorem RdrAt.move {w : World} {g i : Nat} {s : ByteArray} (h : RdrAt w g s i) (j : Nat) : RdrAt (w.setCell ⟨g, 1, none⟩ (.int .i64 (j : Int))) g s j := by
  have := Blk.set_ h 1 (.int .i64 (j : Int))
  simpa [RdrAt] using this
theorem RdrAt.drewN {w : World} {g i : Nat} {s : ByteArray} (h : RdrAt w g s i) (n : Nat) : RdrAt (w.drewN n) g s i := h
theorem grown_drewN (w : World) (n : Nat) (row : Option Nat) : w.grownBy (w.drewN n) row := ⟨rfl, rfl, rfl, Nat.le_refl _, fun _ _ _ => rfl⟩
theorem NewReader_any (s : ByteArray) (w : World) :
    Calls Tryz.prog 130 #[.string s] w fun e w' => e = .returned (.pointer (some ⟨w.heap.size, 0, none⟩)) ∧ w' = w.alloc (.cells #[.string s, .int .i64 0, .int .i64 (-1)] 170) := by
  go_enter Tryz.func130, Tryz.ntmps130
  go_wp2
  go_ret
  exact ⟨rfl, rfl⟩

theorem ReadByte_hit (g : Nat) (s : ByteArray) (i : Nat) (w : World) (hR : RdrAt w g s i) (hi : i < s.size) (hs : s.size ≤ 30000) :
    Calls Tryz.prog 322 #[.pointer (some ⟨g, 0, none⟩)] w fun e w' => e = .returned (.tuple #[.int .u8 (s[i].toNat : Int), .nilIface]) ∧ RdrAt w' g s (i + 1) ∧ w.grownBy w' (some g) := by
  have c0 := hR.cell 0
  have c1 := hR.cell 1
  have c2 := hR.cell 2
  have f0 := hR.frozen 0
  have f1 := hR.frozen 1
  have f2 := hR.frozen 2
  simp at c0 c1 c2
  have hiz : (i : Int) < (s.size : Int) := by omega
  go_enter Tryz.func322, Tryz.ntmps322
  go_wp2_with fail
  go_quiet (fail)
  generalize hnq : nq = n1
  go_wp2_with fail
  go_quiet (fail)
  go_wp2
  refine bodyPost_ret (v := .tuple #[.int .u8 (s[i].toNat : Int), .nilIface]) (by simp [results, Tryz.results322, go_sem]) rfl ⟨rfl, ?_, ?_⟩
  · have h1 := (hR.touch.drewN (n1 + nq)).move (i + 1)
    simpa using h1
  · exact ((grown_set _ _ _ _).trans (grown_drewN _ _ _)).trans (grown_set _ _ _ _)

theorem ReadByte_end (g : Nat) (s : ByteArray) (i : Nat) (w : World) (EV : Value) (hE : w.cell? ⟨4, 0, none⟩ = some EV) (hR : RdrAt w g s i) (hi : s.size ≤ i) (_hs : s.size ≤ 30000) (_hi2 : i ≤ 30000) (hg4 : g ≠ 4) :
    Calls Tryz.prog 322 #[.pointer (some ⟨g, 0, none⟩)] w fun e w' => e = .returned (.tuple #[.int .u8 0, EV]) ∧ RdrAt w' g s i ∧ w.grownBy w' (some g) := by
  have c0 := hR.cell 0
  have c1 := hR.cell 1
  have c2 := hR.cell 2
  have f0 := hR.frozen 0
  have f1 := hR.frozen 1
  have f2 := hR.frozen 2
  simp at c0 c1 c2
  have hiz : (s.size : Int) ≤ (i : Int) := by omega
  have hE2 : (w.setCell ⟨g, 2, none⟩ (.int .i64 (-1))).cell? ⟨4, 0, none⟩ = some EV := by
    rw [World.cell?_setCell_other _ _ _ _ (by intro e; injection e with e; exact hg4 e)]
    exact hE
  go_enter Tryz.func322, Tryz.ntmps322
  go_wp2_with fail
  go_quiet (fail)
  generalize hnq : nq = n1
  go_wp2_with fail
  go_quiet (fail)
  go_wp2
  refine bodyPost_ret (v := .tuple #[.int .u8 0, EV]) (by simp [results, Tryz.results322, go_sem]) rfl ⟨rfl, ?_, ?_⟩
  · exact (hR.touch.drewN _).drewN _
  · exact ((grown_set _ _ _ _).trans (grown_drewN _ _ _)).trans (grown_drewN _ _ _)

theorem UnreadByte_any (g : Nat) (s : ByteArray) (i : Nat) (w : World) (hR : RdrAt w g s (i + 1)) (hi : i ≤ 30000) :
    Calls Tryz.prog 323 #[.pointer (some ⟨g, 0, none⟩)] w fun e w' => e = .returned .nilIface ∧ RdrAt w' g s i ∧ w.grownBy w' (some g) := by
  have c0 := hR.cell 0
  have c1 := hR.cell 1
  have c2 := hR.cell 2
  have f0 := hR.frozen 0
  have f1 := hR.frozen 1
  have f2 := hR.frozen 2
  simp at c0 c1 c2
  go_enter Tryz.func323, Tryz.ntmps323
  go_wp2
  go_ret
  refine ⟨rfl, ?_, ?_⟩
  · exact hR.touch.move i
  · exact (grown_set _ _ _ _).trans (grown_set _ _ _ _)
end Go.Proofs.YtgfkdjmoflbmdaaGreatDoor

namespace Go.Proofs.YtgfkdjmoflbmdaaGreatDoor
open Go.RowKit
open Go.Proofs

theorem w_nat (k : IntKind) {a b : Int} (h : a = b) : Value.int k a = Value.int k b := by rw [h]
theorem ten_le {k : Nat} (h : k ≤ 18) : 10 ^ k ≤ 1000000000000000000 := Nat.le_trans (Nat.pow_le_pow_right (by omega) h) (by decide)
theorem ten_19 : (10 : Nat) ^ 19 = 10000000000000000000 := by decide

set_option maxRecDepth 100000 in
theorem maxPow_ten (w : World) : Calls Tryz.prog 172 #[.int .u64 10] w fun e w' => e = .returned (.tuple #[.int .u64 10000000000000000000, .int .i64 19]) ∧ w = w' := by
  go_enter Tryz.func172, Tryz.ntmps172
  go_wp2
  go_loop [2, 3] (fun pv nv => ∃ k p : Nat, 1 ≤ k ∧ k ≤ 19 ∧ nv = .int .i64 (k : Int) ∧ pv = .int .u64 (p : Int) ∧ p = 10 ^ k) (fun _ nv => 20 - (intOf nv).toNat)
  case atStart => exact ⟨1, 10, Nat.le_refl _, by omega, rfl, rfl, rfl⟩
  case round =>
    obtain ⟨k, p, h1, h19, rfl, rfl, hp⟩ := hrel
    have HP := Lib.hid hp
    clear hp
    by_cases hk : k ≤ 18
    · have hle : p ≤ 1000000000000000000 := by rw [HP.out]; exact ten_le hk
      have hlz : (p : Int) ≤ 1844674407370955161 := by omega
      go_wp2
      go_round
      case rel => exact ⟨k + 1, p * 10, by omega, by omega, by go_num, w_nat _ (by first | rfl | (rw [IntKind.wrap_u64]; omega) | omega), by rw [HP.out, Nat.pow_succ]⟩
      case measure => simp [intOf]; omega
    · obtain rfl : k = 19 := by omega
      have hpe : p = 10000000000000000000 := by rw [HP.out, ten_19]
      subst hpe
      go_wp2
      refine bodyPost_ret (v := .tuple #[.int .u64 10000000000000000000, .int .i64 19]) (by simp [results, Tryz.results172, go_sem]) rfl ⟨rfl, rfl⟩

theorem and_one : ∀ X : Fin 20, bits .and .i64 ((X.val : Nat) : Int) 1 = ((X.val % 2 : Nat) : Int) := by decide
theorem pow_odd (p x m : Nat) (h : m % 2 = 1) : (p * x % M * (x * x % M) ^ (m / 2)) % M = (p * x ^ m) % M := by
  have e : x ^ m = x * (x * x) ^ (m / 2) := by
    have hm : m = 2 * (m / 2) + 1 := by omega
    calc x ^ m = x ^ (2 * (m / 2) + 1) := by rw [← hm]
      _ = x * (x * x) ^ (m / 2) := by rw [Nat.pow_succ, Nat.pow_mul, Nat.mul_comm, Nat.pow_two]
  rw [e, Nat.mul_mod, Nat.mod_mod, Nat.pow_mod, Nat.mod_mod, ← Nat.pow_mod, ← Nat.mul_mod, Nat.mul_assoc]
theorem pow_even (p x m : Nat) (h : m % 2 = 0) : (p * (x * x % M) ^ (m / 2)) % M = (p * x ^ m) % M := by
  have e : x ^ m = (x * x) ^ (m / 2) := by
    have hm : m = 2 * (m / 2) := by omega
    calc x ^ m = x ^ (2 * (m / 2)) := by rw [← hm]
      _ = (x * x) ^ (m / 2) := by rw [Nat.pow_mul, Nat.pow_two]
  rw [e, Nat.mul_mod, Nat.pow_mod, Nat.mod_mod, ← Nat.pow_mod, ← Nat.mul_mod]
theorem wrap_mul (a b : Nat) : IntKind.u64.wrap ((a : Int) * (b : Int)) = ((a * b % M : Nat) : Int) := by
  rw [IntKind.wrap_u64, ← Int.natCast_mul, M_eq]; omega

set_option maxRecDepth 100000 in
/-- 10 to n, n at most 18 -/
theorem pow_ten (n : Nat) (hn : n ≤ 18) (w : World) : Calls Tryz.prog 174 #[.int .u64 10, .int .i64 n] w fun e w' => e = .returned (.int .u64 ((10 ^ n : Nat) : Int)) ∧ w = w' := by
  obtain ⟨R, hR⟩ : ∃ R, 10 ^ n = R := ⟨_, rfl⟩
  rw [hR]
  have HR := Lib.hid hR
  clear hR
  go_enter Tryz.func174, Tryz.ntmps174
  go_wp2
  go_loop [0, 1, 4] (fun xv mv pv => ∃ x m p : Nat, m ≤ 18 ∧ p < M ∧ xv = .int .u64 (x : Int) ∧ mv = .int .i64 (m : Int) ∧ pv = .int .u64 (p : Int) ∧ (p * x ^ m) % M = R % M) (fun _ mv _ => (intOf mv).toNat)
  case atStart => exact ⟨10, n, 1, hn, by rw [M_eq]; omega, rfl, rfl, rfl, by rw [Nat.one_mul, HR.out]⟩
  case round =>
    obtain ⟨x, m, p, hm, hpM, rfl, rfl, rfl, he⟩ := hrel
    have HE := Lib.hid he
    clear he
    by_cases h0 : 0 < m
    · have hand : bits .and .i64 (m : Int) 1 = ((m % 2 : Nat) : Int) := and_one ⟨m, by omega⟩
      by_cases hodd : m % 2 = 1
      · have hand1 : bits .and .i64 (m : Int) 1 = 1 := by rw [hand, hodd]; rfl
        clear hand
        go_wp2
        go_round
        case rel => exact ⟨x * x % M, m / 2, p * x % M, by omega, Nat.mod_lt _ (by rw [M_eq]; omega), by first | rfl | exact w_nat _ (wrap_mul _ _), by go_num, by first | rfl | exact w_nat _ (wrap_mul _ _), by rw [pow_odd p x m hodd]; exact HE.out⟩
        case measure => simp [intOf]; omega
      · have hev : m % 2 = 0 := by omega
        have hand1 : bits .and .i64 (m : Int) 1 = 0 := by rw [hand, hev]; rfl
        clear hand
        go_wp2
        go_round
        case rel => exact ⟨x * x % M, m / 2, p, by omega, hpM, by first | rfl | exact w_nat _ (wrap_mul _ _), by go_num, rfl, by rw [pow_even p x m hev]; exact HE.out⟩
        case measure => simp [intOf]; omega
    · obtain rfl : m = 0 := by omega
      go_wp2
      go_ret
      refine ⟨ret_int ?_, rfl⟩
      have h1 := HE.out
      rw [Nat.pow_zero, Nat.mul_one, Nat.mod_eq_of_lt hpM, Nat.mod_eq_of_lt (by rw [← HR.out, M_eq]; have := ten_le hn; omega)] at h1
      rw [h1]
end Go.Proofs.YtgfkdjmoflbmdaaGreatDoor

namespace Go.Proofs.YtgfkdjmoflbmdaaGreatDoor
open Go.RowKit
open Go.Proofs

theorem info305 : ((Tryz.prog.info? 305).map (·.comparable)) = some true := by kernel_rfl
theorem und51 : ∃ ms, Tryz.prog.underlying 51 = some (.interface ms) := ⟨_, Tryz.underlying51⟩
theorem und305 : Tryz.prog.underlying 305 = some (.pointer 320) := Tryz.underlying305
theorem info320 : (Tryz.prog.info? 320).isSome = true := by kernel_rfl
theorem err_eq_same (p : Addr) (w : World) : (binOp .eql 51 (.iface 305 (.pointer (some p))) (.iface 305 (.pointer (some p)))).run Tryz.prog w = .ok (.bool true) w := by
  obtain ⟨ms, h1⟩ := und51
  obtain ⟨i, hi, hc⟩ := Option.map_eq_some_iff.1 info305
  obtain ⟨j, hj⟩ := Option.isSome_iff_exists.1 info320
  exact run_eql_iface_ptr_same w p h1 und305 hi hc hj
theorem err_eq_nil (p : Addr) (w : World) : (binOp .eql 51 .nilIface (.iface 305 (.pointer (some p)))).run Tryz.prog w = .ok (.bool false) w := by
  obtain ⟨ms, h1⟩ := und51
  exact run_eql_iface_nil_left w 305 _ h1
theorem err_ne_same (p : Addr) (w : World) : (binOp .neq 51 (.iface 305 (.pointer (some p))) (.iface 305 (.pointer (some p)))).run Tryz.prog w = .ok (.bool false) w := by
  obtain ⟨ms, h1⟩ := und51
  obtain ⟨i, hi, hc⟩ := Option.map_eq_some_iff.1 info305
  obtain ⟨j, hj⟩ := Option.isSome_iff_exists.1 info320
  simp only [binOp]
  simp [Op.equal, Op.maxDepth, run_equalIn_iface_ptr_same w 9998 p h1 und305 hi hc hj]
theorem err_ne_nil (p : Addr) (w : World) : (binOp .neq 51 .nilIface (.iface 305 (.pointer (some p)))).run Tryz.prog w = .ok (.bool true) w := by
  obtain ⟨ms, h1⟩ := und51
  have h : ∀ d : Nat, (Op.equalIn (d + 1) 51 .nilIface (.iface 305 (.pointer (some p)))).run Tryz.prog w = .ok false w := fun d => by simp [Op.equalIn, run_underlying h1]
  simp only [binOp]
  simp [Op.equal, Op.maxDepth, h 9999]
end Go.Proofs.YtgfkdjmoflbmdaaGreatDoor
