/- Contracts; Contracts; Contract; PLAIN; PLAIN; Contracts; Contracts. -/
import Derived.Test.YtgfkdjmoflbmdaaGreatDoorRPl3xPl6
import Derived.Deep.DeepMust
namespace Go.Proofs.YtgfkdjmoflbmdaaGreatDoor
open Go.RowKit
open Go.Proofs
theorem add64_0 (x y : Int) (hx : 0 ≤ x) (hy : 0 ≤ y) (w : World) : (callFunc 279 #[.int .u64 x, .int .u64 y, .int .u64 0]).run Tryz.prog w =
    .ok (.value (.tuple #[.int .u64 ((x + y) % 18446744073709551616), .int .u64 ((x + y) / 18446744073709551616)])) w := by
  rw [run_callFunc_extern (f := 279) (fn := Tryz.f279) (by kernel_rfl) (by kernel_rfl) (by kernel_rfl) (by kernel_rfl) (e := add64Entry) (by kernel_rfl), run_add64 x y 0 hx hy (Int.le_refl 0) (by decide)]
  simp [Result.andThen]
theorem Add_any (x y : Nat) (w : World) :
    Calls Tryz.prog 244 #[.int .u64 x, .int .u64 y, .int .u64 0] w fun e w' => e = .returned (.tuple #[.int .u64 (((x + y) % 18446744073709551616 : Nat) : Int), .int .u64 (((x + y) / 18446744073709551616 : Nat) : Int)]) ∧ w' = w := by
  have hx : (0 : Int) ≤ (x : Int) := by omega
  have hy : (0 : Int) ≤ (y : Int) := by omega
  go_enter Tryz.func244, Tryz.ntmps244
  go_wp2_with (first | simp only [add64_0 (x : Int) (y : Int) hx hy])
  refine bodyPost_ret (v := .tuple #[.int .u64 ((x + y : Int) % 18446744073709551616), .int .u64 ((x + y : Int) / 18446744073709551616)]) (by simp [results, Tryz.results244, go_sem]) rfl ⟨?_, rfl⟩
  congr 4
theorem mul_word (x y c : Nat) (hx : x < 18446744073709551616) (hy : y < 18446744073709551616) (hc : c < 18446744073709551616) :
    IntKind.u64.wrap ((x : Int) * (y : Int) / 18446744073709551616 + ((x : Int) * (y : Int) % 18446744073709551616 + (c : Int)) / 18446744073709551616) = (((x * y + c) / 18446744073709551616 : Nat) : Int) ∧
    ((x : Int) * (y : Int) + (c : Int)) % 18446744073709551616 = (((x * y + c) % 18446744073709551616 : Nat) : Int) ∧ (x * y + c) / 18446744073709551616 < 18446744073709551616 := by
  have hp : x * y ≤ 18446744073709551615 * 18446744073709551615 := Nat.mul_le_mul (by omega) (by omega)
  rw [← Int.natCast_mul]
  obtain ⟨p, hpe⟩ : ∃ p, x * y = p := ⟨_, rfl⟩
  rw [hpe] at hp ⊢
  rw [IntKind.wrap_u64]
  omega
theorem mulAddWWW_any (x y c : Nat) (hx : x < 18446744073709551616) (hy : y < 18446744073709551616) (hc : c < 18446744073709551616) (w : World) :
    Calls Tryz.prog 217 #[.int .u64 x, .int .u64 y, .int .u64 c] w fun e w' => e = .returned (.tuple #[.int .u64 (((x * y + c) / 18446744073709551616 : Nat) : Int), .int .u64 (((x * y + c) % 18446744073709551616 : Nat) : Int)]) ∧ w = w' := by
  go_enter Tryz.func217, Tryz.ntmps217
  go_wp2_with (first | (go_at_call 229; refine (Tryz.bits_Mul x y hx hy _).mono ?_; rintro e w1 ⟨rfl, rfl⟩) | (go_at_call 244; refine (Add_any _ _ _).mono ?_; rintro e w1 ⟨rfl, rfl⟩))
  obtain ⟨h1, h2, _⟩ := mul_word x y c hx hy hc
  refine bodyPost_ret (v := .tuple #[.int .u64 (IntKind.u64.wrap ((x : Int) * (y : Int) / 18446744073709551616 + ((x : Int) * (y : Int) % 18446744073709551616 + (c : Int)) / 18446744073709551616)), .int .u64 (((x : Int) * (y : Int) + (c : Int)) % 18446744073709551616)]) (by simp [results, Tryz.results217, go_sem]) rfl ⟨?_, rfl⟩
  rw [h1, h2]
def M : Nat := 18446744073709551616
theorem M_eq : M = 18446744073709551616 := rfl
theorem M_two : 2 ≤ M := by rw [M_eq]; omega
def WC (l : List Nat) : List Value := l.map fun (d : Nat) => Value.int .u64 (d : Int)
theorem WC_len (l : List Nat) : (WC l).length = l.length := by simp [WC]
theorem WC_get (l : List Nat) (j : Nat) (h : j < l.length) : (WC l)[j]? = some (Value.int .u64 ((l[j] : Nat) : Int)) := by simp [WC, h]
theorem WC_append (a b : List Nat) : WC (a ++ b) = WC a ++ WC b := by simp [WC]
theorem WC_take (l : List Nat) (i : Nat) : (WC l).take i = WC (l.take i) := by simp [WC, List.map_take]
theorem mulAddWWW_M (x y c : Nat) (hx : x < M) (hy : y < M) (hc : c < M) (w : World) :
    Calls Tryz.prog 217 #[.int .u64 x, .int .u64 y, .int .u64 c] w fun e w' => e = .returned (.tuple #[.int .u64 (((x * y + c) / M : Nat) : Int), .int .u64 (((x * y + c) % M : Nat) : Int)]) ∧ w = w' := by
  rw [M_eq] at *
  exact mulAddWWW_any x y c hx hy hc w
theorem set_mid (a : List Value) (t : List Value) (k : Nat) (hk : k < t.length) (ha : a.length = k) (u : Value) : (a ++ t.drop k).toArray.setIfInBounds k u = ((a ++ [u]) ++ t.drop (k + 1)).toArray := by
  subst ha
  have hd := List.drop_eq_getElem_cons hk
  simp
  rw [hd]; rfl
theorem grown_set (w : World) (g k : Nat) (u : Value) : w.grownBy (w.setCell ⟨g, k, none⟩ u) (some g) :=
  ⟨rfl, rfl, rfl, by simp, fun j _ hj => heap_setCell_other w ⟨g, k, none⟩ j u (fun e => hj (by simp [e]))⟩
set_option maxRecDepth 100000 in
set_option maxHeartbeats 1000000 in
theorem mulVec_any (g capz bx ox cx : Nat) (xs : List Nat) (tail : List Value) (y c : Nat) (w : World) (hl : xs.length ≤ 1000000) (hB : Blk w g 179 tail.toArray) (htl : xs.length ≤ tail.length)
    (hX : ∀ (k : Nat) (h : k < xs.length), w.cell? ⟨bx, ox + k, none⟩ = some (.int .u64 ((xs[k] : Nat) : Int))) (hsep : bx ≠ g ∨ ox = 0) (hlt : ∀ d ∈ xs, d < M) (hy : y < M) (hc : c < M) :
    Calls Tryz.prog 204 #[.slice (some ⟨g, 0, none⟩) xs.length capz, .slice (some ⟨bx, ox, none⟩) xs.length cx, .int .u64 y, .int .u64 c] w fun e w' =>
      e = .returned (.int .u64 ((Pl.mulV M xs y c).2 : Nat)) ∧ Blk w' g 179 (WC (Pl.mulV M xs y c).1 ++ tail.drop xs.length).toArray ∧ w.grownBy w' (some g) := by
  have HLT := Lib.hid hlt
  have HX := Lib.hid hX
  clear hlt hX
  obtain ⟨R, hR⟩ : ∃ R, Pl.mulV M xs y c = R := ⟨_, rfl⟩
  rw [hR]
  have HR := Lib.hid hR
  have hrl := Pl.mulV_len M xs y c
  rw [hR] at hrl
  clear hR
  go_enter Tryz.func204, Tryz.ntmps204
  go_wp2
  go_loopw [8, 19] (fun cv iv wr => ∃ (k cc : Nat) (done : List Nat), k ≤ xs.length ∧ iv = .int .i64 (k : Int) ∧ cv = .int .u64 (cc : Int) ∧ cc < M ∧ done.length = k ∧ Blk wr g 179 (WC done ++ tail.drop k).toArray ∧
    (∀ (j : Nat) (h : j < xs.length), k ≤ j → wr.cell? ⟨bx, ox + j, none⟩ = some (.int .u64 ((xs[j] : Nat) : Int))) ∧
    done ++ (Pl.mulV M (xs.drop k) y cc).1 = R.1 ∧ (Pl.mulV M (xs.drop k) y cc).2 = R.2 ∧ w.grownBy wr (some g)) (fun _ iv _ => xs.length - (intOf iv).toNat)
  case atStart => exact ⟨0, c, [], Nat.zero_le _, rfl, rfl, hc, rfl, by simpa [WC] using hB, fun j h _ => HX.out j h, by rw [← HR.out]; simp, by rw [← HR.out]; simp, World.grownBy.refl _ _⟩
  case round =>
    obtain ⟨k, cc, done, hk, rfl, rfl, hcc, hdn, hblk, hcells, h1, h2, hgr⟩ := hrel
    have HCE := Lib.hid hcells
    have H1 := Lib.hid h1
    have H2 := Lib.hid h2
    have HDN := Lib.hid hdn
    clear hcells h1 h2 hdn
    by_cases hkl : k < xs.length
    · have hcell := HCE.out k hkl (Nat.le_refl _)
      have hxlt := HLT.out xs[k] (List.getElem_mem hkl)
      have hdrop : xs.drop k = xs[k] :: xs.drop (k + 1) := List.drop_eq_getElem_cons hkl
      have HDR := Lib.hid hdrop
      obtain ⟨x, hx⟩ : ∃ x, xs[k] = x := ⟨_, rfl⟩
      rw [hx] at hcell hxlt HDR
      clear hdrop hx
      have hcl := Pl.carry_lt hxlt hy hcc
      have HCL := Lib.hid hcl
      have hz : ∃ u, wr.cell? ⟨g, k, none⟩ = some u := by
        rw [hblk.cell k]
        refine ⟨_, Array.getElem?_eq_getElem (h := ?_)⟩
        have := HDN.out
        simp [WC, this]; omega
      obtain ⟨u, hz⟩ := hz
      have hzf := hblk.frozen k
      clear hcl
      go_wp2_with (go_at_call 217; refine (mulAddWWW_M x y cc hxlt hy hcc _).mono ?_; rintro e w1 ⟨rfl, rfl⟩)
      go_roundw
      case rel =>
        have e1 := H1.out
        have e2 := H2.out
        rw [HDR.out, Pl.mulV_cons] at e1 e2
        have hset := hblk.set_ k (.int .u64 (((x * y + cc) % M : Nat) : Int))
        rw [set_mid (WC done) tail k (by omega) (by rw [WC_len]; exact HDN.out) _] at hset
        refine ⟨k + 1, (x * y + cc) / M, done ++ [(x * y + cc) % M], by omega, by go_num, rfl, HCL.out, by simp [HDN.out], by rw [WC_append]; exact hset, ?_, by simpa using e1, e2, ?_⟩
        · intro j hj hkj
          have := HCE.out j hj (by omega)
          rw [World.cell?_setCell_other]
          · exact this
          · intro e
            injection e with e1 e2
            rcases hsep with h | h
            · exact h e1.symm
            · omega
        · exact hgr.trans (grown_set _ _ _ _)
      case measure => simp [intOf]; omega
    · obtain rfl : k = xs.length := by omega
      go_wp2
      go_ret
      have e1 := H1.out
      have e2 := H2.out
      rw [List.drop_length, Pl.mulV_nil] at e1 e2
      simp only [List.append_nil] at e1
      subst e1
      refine ⟨ret_int (by rw [← e2]), hblk, hgr⟩
def wordE (x0 x1 x2 x3 x4 x5 x6 x7 : Int) : Int :=
  bits .or .u64 (bits .or .u64 (bits .or .u64 (bits .or .u64 (bits .or .u64 (bits .or .u64 (bits .or .u64 (IntKind.u64.wrap x0) (IntKind.u64.wrap (IntKind.u64.wrap x1 * 256)))
    (IntKind.u64.wrap (IntKind.u64.wrap x2 * 65536))) (IntKind.u64.wrap (IntKind.u64.wrap x3 * 16777216))) (IntKind.u64.wrap (IntKind.u64.wrap x4 * 4294967296))) (IntKind.u64.wrap (IntKind.u64.wrap x5 * 1099511627776)))
    (IntKind.u64.wrap (IntKind.u64.wrap x6 * 281474976710656))) (IntKind.u64.wrap (IntKind.u64.wrap x7 * 72057594037927936))
set_option maxRecDepth 100000 in
set_option maxHeartbeats 2000000 in
theorem word_any (t : ByteArray) (h8 : 8 ≤ t.size) : ∃ A : Int, ∀ W : World, Calls Tryz.prog 102 #[.string t] W fun e w' => e = .returned (.int .u64 A) ∧ ∃ q, w' = W.drewN q := by
  have i0 : (0 : Int) < (t.size : Int) := by omega
  have i1 : (1 : Int) < (t.size : Int) := by omega
  have i2 : (2 : Int) < (t.size : Int) := by omega
  have i3 : (3 : Int) < (t.size : Int) := by omega
  have i4 : (4 : Int) < (t.size : Int) := by omega
  have i5 : (5 : Int) < (t.size : Int) := by omega
  have i6 : (6 : Int) < (t.size : Int) := by omega
  have i7 : (7 : Int) < (t.size : Int) := by omega
  have p0 : 0 < t.size := by omega
  have p1 : 1 < t.size := by omega
  have p2 : 2 < t.size := by omega
  have p3 : 3 < t.size := by omega
  have p4 : 4 < t.size := by omega
  have p5 : 5 < t.size := by omega
  have p6 : 6 < t.size := by omega
  have p7 : 7 < t.size := by omega
  refine ⟨wordE t[0].toNat t[1].toNat t[2].toNat t[3].toNat t[4].toNat t[5].toNat t[6].toNat t[7].toNat, fun W => ?_⟩
  obtain ⟨R, hR⟩ : ∃ R, wordE t[0].toNat t[1].toNat t[2].toNat t[3].toNat t[4].toNat t[5].toNat t[6].toNat t[7].toNat = R := ⟨_, rfl⟩
  rw [hR]
  have HR := Lib.hid hR
  clear hR
  go_enter Tryz.func102, Tryz.ntmps102
  go_wp2_with fail
  go_quiet (fail)
  go_wp2
  go_ret
  exact ⟨ret_int HR.out, _, rfl⟩
end Go.Proofs.YtgfkdjmoflbmdaaGreatDoor
namespace Go.Proofs.YtgfkdjmoflbmdaaGreatDoor.Pl
def beforePlus (l : Bytes) : Bytes := match idxOf 43 l with
  | some k => l.take k
  | none => l
def trimHy : Bytes → Bytes
  | [] => []
  | c :: r => if c = 45 then r else c :: r
def idents (l : Bytes) : List Bytes := if trimHy (beforePlus l) = [] then [] else splitB 46 (trimHy (beforePlus l))
def idKnown1 (s : Bytes) : Bool := !(decide (1 < s.length) && (s[0]? == some 45 || s[0]? == some 43) && allDig (s.drop 1))
def idsKnown (l : List Bytes) : Bool := l.all idKnown1
def buildKnown (b : Bytes) : Bool := ascii b && idsKnown (idents b)
def identsCmp : List Bytes → List Bytes → Int
  | a :: x, b :: y => if idOne a b ≠ 0 then idOne a b else identsCmp x y
  | x, y => ordI x.length y.length
def builds (a b : Bytes) : Int :=
  if (idents a).length = 0 ∨ (idents b).length = 0 then ordI (min ((idents b).length : Int) 1) (min ((idents a).length : Int) 1) else identsCmp (idents a) (idents b)
def coreB (c : UInt8) : Bool := isDig c || c == 46
def restV : Bytes → Bytes
  | [] => []
  | c :: r => if c = 118 then r else c :: r
def startsV (l : Bytes) : Bool := l[0]? == some 118
def coreOf (l : Bytes) : Bytes := (restV l).takeWhile coreB
def buildOf (l : Bytes) : Bytes := (restV l).dropWhile coreB
def numsOf (l : Bytes) : List Nat := ((splitB 46 (coreOf l)).filter (fun p => !p.isEmpty)).map natOf
theorem idxOf_some {c : UInt8} {l : Bytes} {k : Nat} (h : idxOf c l = some k) : k < l.length ∧ l[k]? = some c ∧ ∀ j, j < k → l[j]? ≠ some c := by
  induction l generalizing k with
  | nil => simp [idxOf] at h
  | cons d r ih =>
    unfold idxOf at h
    by_cases hd : d = c
    · rw [if_pos hd] at h
      obtain rfl : 0 = k := by simpa using h
      exact ⟨by simp, by simp [hd], fun j hj => by omega⟩
    · rw [if_neg hd] at h
      cases hr : idxOf c r with
      | none => rw [hr] at h; simp at h
      | some m =>
        rw [hr] at h
        obtain rfl : m + 1 = k := by simpa using h
        obtain ⟨h1, h2, h3⟩ := ih hr
        refine ⟨by simp; omega, by simpa using h2, fun j hj => ?_⟩
        cases j with
        | zero => simpa using hd
        | succ j => simpa using h3 j (by omega)
theorem idxOf_no {c : UInt8} {l : Bytes} (h : idxOf c l = none) : ∀ j, j < l.length → l[j]? ≠ some c := by
  induction l with
  | nil => intro j hj; simp at hj
  | cons d r ih =>
    unfold idxOf at h
    by_cases hd : d = c
    · rw [if_pos hd] at h; cases h
    · rw [if_neg hd] at h
      have hr : idxOf c r = none := by
        cases hx : idxOf c r with
        | none => rfl
        | some k => rw [hx] at h; simp at h
      intro j hj
      cases j with
      | zero => simpa using hd
      | succ j => simpa using ih hr j (by simpa using hj)
theorem identsCmp_step (a b : List Bytes) (k : Nat) (ha : k < a.length) (hb : k < b.length) :
    identsCmp (a.drop k) (b.drop k) = if idOne a[k] b[k] ≠ 0 then idOne a[k] b[k] else identsCmp (a.drop (k + 1)) (b.drop (k + 1)) := by
  rw [List.drop_eq_getElem_cons ha, List.drop_eq_getElem_cons hb, identsCmp]
theorem identsCmp_end (a b : List Bytes) (k : Nat) (h : a.length ≤ k ∨ b.length ≤ k) (hka : k ≤ a.length) (hkb : k ≤ b.length) : identsCmp (a.drop k) (b.drop k) = ordI a.length b.length := by
  have hl : identsCmp (a.drop k) (b.drop k) = ordI (a.drop k).length (b.drop k).length := by
    rcases h with h | h
    · rw [List.drop_eq_nil_of_le h]
      cases b.drop k <;> simp [identsCmp]
    · rw [List.drop_eq_nil_of_le h]
      cases a.drop k <;> simp [identsCmp]
  rw [hl, List.length_drop, List.length_drop]
  unfold ordI
  by_cases h1 : (a.length : Int) < b.length
  · rw [if_pos h1, if_pos (by omega)]
  · rw [if_neg h1, if_neg (by omega)]
    by_cases h2 : (b.length : Int) < a.length
    · rw [if_pos h2, if_pos (by omega)]
    · rw [if_neg h2, if_neg (by omega)]
theorem trimHy_len (l : Bytes) : (trimHy l).length ≤ l.length := by
  cases l with
  | nil => simp [trimHy]
  | cons c r =>
    show (if c = 45 then r else c :: r).length ≤ _
    by_cases h : c = 45
    · rw [if_pos h]; simp
    · rw [if_neg h]; exact Nat.le_refl _
theorem beforePlus_len (l : Bytes) : (beforePlus l).length ≤ l.length := by
  unfold beforePlus
  split
  · rw [List.length_take]; omega
  · exact Nat.le_refl _
theorem idents_len (l : Bytes) : (idents l).length ≤ l.length + 1 := by
  unfold idents
  split
  · simp
  · have h1 := splitB_length 46 (trimHy (beforePlus l))
    have h2 := trimHy_len (beforePlus l)
    have h3 := beforePlus_len l
    omega
theorem idents_mem (l : Bytes) : ∀ p ∈ idents l, p.length ≤ l.length := by
  intro p hp
  unfold idents at hp
  split at hp
  · simp at hp
  · have h1 := (splitB_mem 46 _ p hp).1
    have h2 := trimHy_len (beforePlus l)
    have h3 := beforePlus_len l
    omega
theorem while_at {p : UInt8 → Bool} : ∀ (l : Bytes) (k : Nat), (l.take k).all p = true → (k = l.length ∨ ∃ c, l[k]? = some c ∧ p c = false) → l.takeWhile p = l.take k ∧ l.dropWhile p = l.drop k
  | [], k, _, h => by
    rcases h with h | ⟨c, h, _⟩
    · simp
    · simp at h
  | c :: r, 0, _, h => by
    rcases h with h | ⟨d, h, hd⟩
    · simp at h
    · obtain rfl : c = d := by simpa using h
      simp [hd]
  | c :: r, k + 1, ha, h => by
    rw [List.take_succ_cons, List.all_cons, Bool.and_eq_true] at ha
    have ih := while_at r k ha.2 (by simpa using h)
    simp [ha.1, ih.1, ih.2]
theorem piece_digs (l : Bytes) : ∀ p ∈ splitB 46 (coreOf l), p.length ≤ (coreOf l).length ∧ p.all isDig = true := by
  intro p hp
  obtain ⟨h1, h2⟩ := splitB_mem 46 _ p hp
  refine ⟨h1, List.all_eq_true.2 fun x hx => ?_⟩
  have h3 := all_takeWhile coreB (restV l) x (h2 x hx)
  have h4 := splitB_no 46 _ p hp x hx
  unfold coreB at h3
  rw [Bool.or_eq_true, beq_iff_eq] at h3
  exact h3.resolve_right h4
theorem cmpN_lt {a b : Nat} (h : a < b) : cmpN a b = -1 := by rw [cmpN, if_pos h]
theorem cmpN_gt {a b : Nat} (h : b < a) : cmpN a b = 1 := by rw [cmpN, if_neg (by omega), if_pos h]
theorem cmpN_eq (a : Nat) : cmpN a a = 0 := by rw [cmpN, if_neg (by omega), if_neg (by omega)]
theorem val_at (b : Nat) (l : List Nat) (i : Nat) (h : i < l.length) : val b l = val b (l.take i) + b ^ i * (l[i] + b * val b (l.drop (i + 1))) := by
  have e := List.take_append_drop i l
  have h1 : val b l = val b (l.take i ++ l.drop i) := by rw [e]
  rw [h1, val_append, List.length_take, Nat.min_eq_left (by omega), List.drop_eq_getElem_cons h]
  rfl
theorem top_lt (b : Nat) (xs ys : List Nat) (i : Nat) (hx : ∀ d ∈ xs, d < b) (h1 : i < xs.length) (h2 : i < ys.length) (hd : xs.drop (i + 1) = ys.drop (i + 1)) (hlt : xs[i] < ys[i]) : val b xs < val b ys := by
  rw [val_at b xs i h1, val_at b ys i h2, hd]
  have hv := val_lt b (xs.take i) (fun d hd => hx d (List.mem_of_mem_take hd))
  rw [List.length_take, Nat.min_eq_left (by omega)] at hv
  have h3 : b ^ i * (xs[i] + b * val b (ys.drop (i + 1))) + b ^ i ≤ b ^ i * (ys[i] + b * val b (ys.drop (i + 1))) := by
    rw [← Nat.mul_succ]
    exact Nat.mul_le_mul_left _ (by omega)
  omega
theorem top_cmp (b : Nat) (xs ys : List Nat) (i : Nat) (hx : ∀ d ∈ xs, d < b) (hy : ∀ d ∈ ys, d < b) (_hl : xs.length = ys.length) (h1 : i < xs.length) (h2 : i < ys.length) (hd : xs.drop (i + 1) = ys.drop (i + 1)) (ht : i = 0 ∨ xs[i] ≠ ys[i]) :
    cmpN (val b xs) (val b ys) = cmpN xs[i] ys[i] := by
  rcases Nat.lt_trichotomy xs[i] ys[i] with h | h | h
  · rw [cmpN_lt h, cmpN_lt (top_lt b xs ys i hx h1 h2 hd h)]
  · have hi : i = 0 := ht.resolve_right (fun e => e h)
    subst hi
    have : xs = ys := by
      rw [← List.take_append_drop 0 xs, ← List.take_append_drop 0 ys, List.drop_eq_getElem_cons h1, List.drop_eq_getElem_cons h2, h, hd]
      simp
    rw [h, this, cmpN_eq, cmpN_eq]
  · rw [cmpN_gt h, cmpN_gt (top_lt b ys xs i hy h2 h1 hd.symm h)]
theorem len_lt (b : Nat) (hb : 2 ≤ b) (xs ys : List Nat) (hx : ∀ d ∈ xs, d < b) (hn : Normd ys) (h : xs.length < ys.length) : val b xs < val b ys := by
  have h1 := val_lt b xs hx
  have hne : ys ≠ [] := by intro e; rw [e] at h; simp at h
  have h2 := val_ge b ys hn hne
  have h3 : b ^ xs.length ≤ b ^ (ys.length - 1) := Nat.pow_le_pow_right (by omega) (by omega)
  omega
end Go.Proofs.YtgfkdjmoflbmdaaGreatDoor.Pl
namespace Go.Proofs.YtgfkdjmoflbmdaaGreatDoor
open Go.RowKit
open Go.Proofs
theorem mulAddVWW_any (g capz bx ox cx : Nat) (xs : List Nat) (tail : List Value) (y c : Nat) (w : World) (hl : xs.length ≤ 1000000) (hB : Blk w g 179 tail.toArray) (htl : xs.length ≤ tail.length)
    (hX : ∀ (k : Nat) (h : k < xs.length), w.cell? ⟨bx, ox + k, none⟩ = some (.int .u64 ((xs[k] : Nat) : Int))) (hsep : bx ≠ g ∨ ox = 0) (hlt : ∀ d ∈ xs, d < M) (hy : y < M) (hc : c < M) :
    Calls Tryz.prog 190 #[.slice (some ⟨g, 0, none⟩) xs.length capz, .slice (some ⟨bx, ox, none⟩) xs.length cx, .int .u64 y, .int .u64 c] w fun e w' =>
      e = .returned (.int .u64 ((Pl.mulV M xs y c).2 : Nat)) ∧ Blk w' g 179 (WC (Pl.mulV M xs y c).1 ++ tail.drop xs.length).toArray ∧ w.grownBy w' (some g) := by
  have HC := Lib.hid (mulVec_any g capz bx ox cx xs tail y c w hl hB htl hX hsep hlt hy hc)
  go_enter Tryz.func190, Tryz.ntmps190
  go_wp2_with fail
  refine HC.out.mono ?_; rintro e w1 ⟨rfl, hb, hg⟩
  go_wp2
  go_ret
  exact ⟨rfl, hb, hg⟩
theorem info179 : (Tryz.prog.info? 179).map (fun i => (i.zero, i.size, i.bytes)) = some (some (.int .u64 0), 1, 8) := by kernel_rfl
theorem norm_any (A : Option Addr) (n cap : Nat) (ws : List Nat) (w : World) (hn : ws.length = n) (hnc : n ≤ cap) (hl : n ≤ 1000000) (hr : Rd w 1 A n (WC ws)) (hlt : ∀ d ∈ ws, d < M) :
    Calls Tryz.prog 170 #[.slice A n cap] w fun e w' => e = .returned (.slice A (Pl.digs M (Pl.val M ws)).length cap) ∧ (Pl.digs M (Pl.val M ws)).length ≤ n ∧ ws.take (Pl.digs M (Pl.val M ws)).length = Pl.digs M (Pl.val M ws) ∧ w = w' := by
  have HLT := Lib.hid hlt
  clear hlt
  go_enter Tryz.func170, Tryz.ntmps170
  go_wp2
  go_loop [3] (fun iv => ∃ k : Nat, k ≤ n ∧ iv = .int .i64 (k : Int) ∧ (∀ d ∈ ws.drop k, d = 0)) (fun iv => (intOf iv).toNat)
  case atStart => exact ⟨n, Nat.le_refl _, rfl, by rw [← hn, List.drop_length]; simp⟩
  case round =>
    obtain ⟨k, hk, rfl, hz⟩ := hrel
    have HZ := Lib.hid hz
    clear hz
    by_cases h0 : 0 < k
    · obtain ⟨j, rfl⟩ : ∃ j, k = j + 1 := ⟨k - 1, by omega⟩
      obtain ⟨b, o, rfl, hc⟩ := hr.2 (by omega)
      have hjl : j < ws.length := by omega
      have hcell := hc j _ (WC_get ws j hjl)
      obtain ⟨d, hd⟩ : ∃ d, ws[j] = d := ⟨_, rfl⟩
      rw [hd] at hcell
      have HD := Lib.hid hd
      clear hd
      by_cases hd0 : d = 0
      · subst hd0
        go_wp2
        go_round
        case rel =>
          refine ⟨j, by omega, by go_num, ?_⟩
          intro d hd
          rw [List.drop_eq_getElem_cons hjl] at hd
          rcases List.mem_cons.1 hd with h | h
          · rw [h, HD.out]
          · exact HZ.out d h
        case measure => simp [intOf]
      · have hd1 : ((d : Int) == 0) = false := by rw [beq_eq_false_iff_ne]; omega
        have hw := Pl.norm_digs M M_two ws HLT.out (j + 1) (by omega) HZ.out (Or.inr (by
          rw [Nat.add_sub_cancel, List.getElem?_eq_getElem hjl, HD.out]
          intro e
          exact hd0 (by simpa using e)))
        have hwl : (Pl.digs M (Pl.val M ws)).length = j + 1 := by rw [← hw, List.length_take]; omega
        have HW := Lib.hid hw
        have HWL := Lib.hid hwl
        clear hw hwl
        go_wp2
        go_ret
        rw [HWL.out]
        exact ⟨rfl, by omega, HW.out, rfl⟩
    · obtain rfl : k = 0 := by omega
      have hw := Pl.norm_digs M M_two ws HLT.out 0 (by omega) HZ.out (Or.inl rfl)
      have hwl : (Pl.digs M (Pl.val M ws)).length = 0 := by rw [← hw]; rfl
      have HW := Lib.hid hw
      have HWL := Lib.hid hwl
      clear hw hwl
      go_wp2
      go_ret
      rw [HWL.out]
      exact ⟨rfl, by omega, HW.out, rfl⟩
theorem mk_row (m c : Nat) (hmc : m ≤ c) (hc : c ≤ 2000000) (w : World) : (Instr.makeSlice 126 (.int .i64 (m : Int)) (.int .i64 (c : Int))).run Tryz.prog w = .ok (.slice (some ⟨w.heap.size, 0, none⟩) m c) (w.alloc (.cells (madeCells #[.int .u64 0] c) 179)) := by
  obtain ⟨i0, hi, hz0, hz1, hz2⟩ := info_parts info179
  have hr := run_make (P := Tryz.prog) w 126 179 i0 _ Tryz.underlying126 hi hz0 .i64 .i64 m c (by omega) (by omega) (by rw [hz2]; omega) (by omega)
  simp only [Int.toNat_natCast, hz1, Nat.mul_one] at hr
  exact hr
def MadeAt (base m : Nat) (A : Option Addr) (w : World) (e : Ending) (w' : World) : Prop :=
  ∃ g cap' tail, e = .returned (.slice (some ⟨g, 0, none⟩) m cap') ∧ base ≤ g ∧ Blk w' g 179 tail ∧ tail.size = cap' ∧ m ≤ cap' ∧ cap' ≤ maxLen ∧ Below w.heap.size w w' ∧
      ((A = some ⟨g, 0, none⟩ ∧ w' = w) ∨ w.heap.size ≤ g)
set_option maxRecDepth 100000 in
theorem make_any (base n cap m : Nat) (A : Option Addr) (xs : List Value) (w : World) (hown : w.ownsRow base 179 1 (.slice A n cap) n xs) (hm : 1 ≤ m) (hml : m ≤ 1000000) (hb : base ≤ w.heap.size) :
    Calls Tryz.prog 168 #[.slice A n cap, .int .i64 m] w (MadeAt base m A w) := by
  obtain ⟨i0, hi, hz0, hz1, hz2⟩ := info_parts info179
  by_cases hfit : m ≤ cap
  · rcases hown.2 with ⟨h1, h2⟩ | ⟨g, cap', cur, h1, h2, h3, h4, h5, h6, h7⟩
    · injection h1 with _ _ h1
      omega
    · injection h1 with h1 _ h1'
      subst h1
      subst h1'
      have hfz : (m : Int) ≤ (cap : Int) := by omega
      go_enter Tryz.func168, Tryz.ntmps168
      go_wp2
      go_ret
      exact ⟨g, cap, cur, rfl, h2, h3, by omega, hfit, h5, Below.refl _ _, Or.inl ⟨rfl, rfl⟩⟩
  · have hfz : ¬ (m : Int) ≤ (cap : Int) := by omega
    by_cases h1 : m = 1
    · subst h1
      go_enter Tryz.func168, Tryz.ntmps168
      have hmk : ∀ w, (Instr.makeSlice 126 (.int .i64 1) (.int .i64 1)).run Tryz.prog w = .ok (.slice (some ⟨w.heap.size, 0, none⟩) 1 1) (w.alloc (.cells (madeCells #[.int .u64 0] 1) 179)) := fun w => mk_row 1 1 (by omega) (by omega) w
      go_wp2
      go_ret
      exact ⟨w.heap.size, 1, _, rfl, hb, Blk.new _ _ _, size_madeCells _ _, Nat.le_refl _, by unfold maxLen; omega, (Below.refl _ _).alloc (Nat.le_refl _) _, Or.inr (Nat.le_refl _)⟩
    · have h1z : ((m : Int) == 1) = false := by rw [beq_eq_false_iff_ne]; omega
      go_enter Tryz.func168, Tryz.ntmps168
      have hmk : ∀ w, (Instr.makeSlice 126 (.int .i64 (m : Int)) (.int .i64 ((m : Int) + 4))).run Tryz.prog w = .ok (.slice (some ⟨w.heap.size, 0, none⟩) m (m + 4)) (w.alloc (.cells (madeCells #[.int .u64 0] (m + 4)) 179)) := fun w => by
        have := mk_row m (m + 4) (by omega) (by omega) w
        simpa using this
      go_wp2
      go_ret
      exact ⟨w.heap.size, m + 4, _, rfl, hb, Blk.new _ _ _, size_madeCells _ _, by omega, by unfold maxLen; omega, (Below.refl _ _).alloc (Nat.le_refl _) _, Or.inr (Nat.le_refl _)⟩
theorem info9 : (Tryz.prog.info? 9).map (fun i => (i.zero, i.size, i.bytes)) = some (some (.string ⟨#[]⟩), 1, 16) := by kernel_rfl
def lim : Nat := 30000
set_option maxRecDepth 100000 in
theorem cut_any (s : ByteArray) (w : World) (hs : s.size ≤ lim) :
    Calls Tryz.prog 49 #[.string s, .func (.func 50) #[] #[]] w fun e w' => ∃ A c, e = .returned (.slice A (Pl.splitB 46 s.data.toList).length c) ∧ w'.ownsRow w.heap.size 9 1 (.slice A (Pl.splitB 46 s.data.toList).length c) (Pl.splitB 46 s.data.toList).length ((Pl.splitB 46 s.data.toList).map S) ∧ Below w.heap.size w w' := by
  unfold lim at hs
  obtain ⟨i0, hi, hz0, hz1, hz2⟩ := info_parts info9
  go_enter Tryz.func49, Tryz.ntmps49
  go_wp2
  go_loopw [5, 6, 7] (fun v f i wr => ∃ k fr ps, Pl.CutAt 46 s.data.toList fr k ps ∧ i = .int .i64 (k : Int) ∧ f = .int .i64 (fr : Int) ∧ wr.ownsRow w.heap.size 9 1 v ps.length (ps.map S) ∧ Below w.heap.size w wr) (fun _ _ i _ => s.size + 1 - (intOf i).toNat)
  case atStart => exact ⟨0, 0, [], Pl.CutAt.start _ _, rfl, rfl, World.ownsRow_nil _ _ _ _, Below.refl _ _⟩
  case round =>
    obtain ⟨k, fr, ps, hcut, rfl, rfl, hown, hbel⟩ := hrel
    have hps : ps.length ≤ s.size + 1 := by have := hcut.short; rw [len_list] at this; exact this
    have hfk : fr ≤ k := hcut.1
    have HC := Lib.hid hcut
    clear hcut
    by_cases h1 : k < s.size
    · have hk : s.data.toList[k]? = some s[k] := get_list s k h1
      have HK := Lib.hid hk
      clear hk
      by_cases h3 : s[k] = 46
      · have h4 : (s[k] == 46) = true := by rw [h3]; rfl
        have H3 := Lib.hid h3
        clear h3
        go_wp2_with (first | (go_at_call 50; refine (isPoint_any _ _).mono ?_; rintro e w' ⟨rfl, rfl⟩) | (at_builtin; refine wpList_app1 _ rfl (.tmp 25) (.tmp 30) 38 rfl w.heap.size 9 i0 _ 16 Tryz.underlying38 hi hz0 hz1 hz2 rfl _ _ _ rfl hown _ rfl rfl (by omega) (by omega) hbel.size ?_; intro g cap w1 hown1 hg1 hat1 hb1; clear hg1 hat1))
        go_roundw
        case rel =>
          refine ⟨k + 1, k + 1, ps ++ [(s.data.toList.drop fr).take (k - fr)], HC.out.hit (by rw [HK.out, H3.out]), by go_num, by go_num, ?_, hbel.trans hb1⟩
          exact own_cast hown1 (by simp) (by rw [ext_S]; simp)
        case measure => simp [intOf]; omega
      · have h4 : (s[k] == 46) = false := by simpa using h3
        have H3 := Lib.hid h3
        clear h3
        go_wp2_with (first | (go_at_call 50; refine (isPoint_any _ _).mono ?_; rintro e w' ⟨rfl, rfl⟩))
        go_roundw
        case rel =>
          exact ⟨k + 1, fr, ps, HC.out.miss (by rw [len_list]; exact h1) (by rw [HK.out]; intro h; exact H3.out (by simpa using h)), by go_num, rfl, hown, hbel⟩
        case measure => simp [intOf]; omega
    · by_cases h2 : k = s.size
      · subst h2
        go_wp2_with (at_builtin; refine wpList_app1 _ rfl (.tmp 25) (.tmp 30) 38 rfl w.heap.size 9 i0 _ 16 Tryz.underlying38 hi hz0 hz1 hz2 rfl _ _ _ rfl hown _ rfl rfl (by omega) (by omega) hbel.size ?_; intro g cap w1 hown1 hg1 hat1 hb1; clear hg1 hat1)
        go_roundw
        case rel =>
          refine ⟨s.size + 1, s.size + 1, ps ++ [(s.data.toList.drop fr).take (s.size - fr)], HC.out.last (by rw [len_list]), by go_num, by go_num, ?_, hbel.trans hb1⟩
          exact own_cast hown1 (by simp) (by rw [ext_S]; simp)
        case measure => simp [intOf]
      · go_wp2
        go_ret
        obtain rfl := HC.out.done (by rw [len_list]; omega)
        obtain ⟨A, c, rfl⟩ := own_form hown
        exact ⟨A, c, rfl, hown, hbel⟩
def NatAt (w : World) (base : Nat) (v : Value) (N : Nat) : Prop := w.ownsRow base 179 1 v (Pl.digs M N).length (WC (Pl.digs M N))
theorem digs_one {r : Nat} (h0 : r ≠ 0) (h : r < M) : Pl.digs M r = [r] := by
  rw [Pl.digs_pos M r M_two h0, Nat.mod_eq_of_lt h, Nat.div_eq_of_lt h, Pl.digs_zero]
def NatBack (base : Nat) (N : Nat) (w : World) (e : Ending) (w' : World) : Prop := ∃ v, e = .returned v ∧ NatAt w' base v N ∧ Below base w w'
theorem own_of_blk {w : World} {base g n cap : Nat} {ws : List Nat} {tl : List Value} (h : Blk w g 179 (WC ws ++ tl).toArray) (hb : base ≤ g) (hn : n ≤ ws.length) (hc : ws.length + tl.length = cap) (hm : cap ≤ maxLen) :
    w.ownsRow base 179 1 (.slice (some ⟨g, 0, none⟩) n cap) n (WC (ws.take n)) := by
  refine ⟨by simp [WC, hn], .inr ⟨g, cap, (WC ws ++ tl).toArray, rfl, hb, h, by omega, hm, by simp [WC_len, hc], ?_⟩⟩
  rw [Nat.mul_one, ← WC_take]
  simp [WC_len, List.take_append_of_le_length, hn]
set_option maxRecDepth 100000 in
theorem setWord_any (base cap : Nat) (A : Option Addr) (xs : List Value) (r : Nat) (w : World) (hown : w.ownsRow base 179 1 (.slice A 0 cap) 0 xs) (hr : r < M) (hb : base ≤ w.heap.size) :
    Calls Tryz.prog 189 #[.slice A 0 cap, .int .u64 r] w (NatBack base r w) := by
  by_cases h0 : r = 0
  · subst h0
    have hx : xs = [] := List.eq_nil_of_length_eq_zero (by have := hown.1; omega)
    subst hx
    go_enter Tryz.func189, Tryz.ntmps189
    go_wp2
    go_ret
    refine ⟨_, rfl, ?_, Below.refl _ _⟩
    unfold NatAt
    rw [Pl.digs_zero]
    exact hown
  · have h1 : ((r : Int) == 0) = false := by rw [beq_eq_false_iff_ne]; omega
    go_enter Tryz.func189, Tryz.ntmps189
    go_wp2_with fail
    refine (make_any base 0 cap 1 A xs _ hown (by omega) (by omega) hb).mono ?_; rintro e w1 ⟨g, cap', tail, rfl, hg, hblk, htl, hcap, hmax, hbel, hor⟩
    have hz : ∃ u, w1.cell? ⟨g, 0, none⟩ = some u := by
      rw [hblk.cell 0]
      exact ⟨_, Array.getElem?_eq_getElem (h := by omega)⟩
    obtain ⟨u, hz⟩ := hz
    have hzf := hblk.frozen 0
    clear hor
    have hc1 : (1 : Int) ≤ (cap' : Int) := by omega
    go_wp2
    go_ret
    have hset := hblk.set_ 0 (.int .u64 (r : Int))
    have he : tail.setIfInBounds 0 (.int .u64 (r : Int)) = (WC [r] ++ tail.toList.drop 1).toArray := by
      have := set_mid [] tail.toList 0 (by simp; omega) rfl (.int .u64 (r : Int))
      simpa [WC] using this
    rw [he] at hset
    refine ⟨_, rfl, ?_, ?_⟩
    · unfold NatAt
      rw [digs_one h0 hr]
      exact own_of_blk (ws := [r]) (n := 1) hset hg (by simp) (by simp; omega) hmax
    · exact (hbel.mono hb).setCell hg _
set_option maxRecDepth 100000 in
set_option maxHeartbeats 1000000 in
theorem mulAddWW_any (base : Nat) (v : Value) (N y r : Nat) (w : World) (hN : NatAt w base v N) (hl : (Pl.digs M N).length ≤ 900000) (hy0 : 0 < y) (hy : y < M) (hr : r < M) (hb : base ≤ w.heap.size) :
    Calls Tryz.prog 173 #[v, v, .int .u64 y, .int .u64 r] w (NatBack base (N * y + r) w) := by
  have hlt := Pl.digs_lt M N M_two
  have hval := Pl.val_digs M N M_two
  unfold NatAt at hN
  obtain ⟨ds, hds⟩ : ∃ ds, Pl.digs M N = ds := ⟨_, rfl⟩
  rw [hds] at hN hl hlt hval
  have HLT := Lib.hid hlt
  have HVAL := Lib.hid hval
  have HDS := Lib.hid hds
  clear hlt hval hds
  obtain ⟨A, cap, rfl⟩ := own_form hN
  have hyz : ((y : Int) == 0) = false := by rw [beq_eq_false_iff_ne]; omega
  by_cases h0 : ds.length = 0
  · obtain rfl : ds = [] := List.eq_nil_of_length_eq_zero h0
    have hN0 : N = 0 := by rw [← HVAL.out]; rfl
    subst hN0
    rw [Nat.zero_mul, Nat.zero_add]
    clear h0
    simp only [List.length_nil] at hN ⊢
    have HC := Lib.hid (setWord_any base cap A _ r w hN hr hb)
    go_enter Tryz.func173, Tryz.ntmps173
    go_wp2_with fail
    refine HC.out.mono ?_; rintro e w1 ⟨v', rfl, h1, h2⟩
    go_wp2
    go_ret
    exact ⟨v', rfl, h1, h2⟩
  · obtain ⟨gx, capx, hv, hgx, hglt⟩ := hN.form (by omega)
    injection hv with hA _ hcx
    subst hA
    subst hcx
    have hlz : ((ds.length : Int) == 0) = false := by rw [beq_eq_false_iff_ne]; omega
    go_enter Tryz.func173, Tryz.ntmps173
    go_wp2_with fail
    refine (make_any base ds.length cap (ds.length + 1) (some ⟨gx, 0, none⟩) _ _ hN (by omega) (by omega) hb).mono ?_; rintro e w1 ⟨g, cap', tail, rfl, hg, hblk, htl, hcap, hmax, hbel, hor⟩
    have hX : ∀ (k : Nat) (h : k < ds.length), w1.cell? ⟨gx, 0 + k, none⟩ = some (.int .u64 ((ds[k] : Nat) : Int)) := by
      intro k hk
      rw [Nat.zero_add, hbel.cell (p := ⟨gx, k, none⟩) hglt, hN.cellAt k (by omega), WC_get ds k hk]
    have hB : Blk w1 g 179 tail.toList.toArray := by simpa using hblk
    have HC := Lib.hid (mulAddVWW_any g cap' gx 0 cap ds tail.toList y r w1 (by omega) hB (by simp; omega) hX (Or.inr rfl) HLT.out hy hr)
    obtain ⟨R, hR⟩ : ∃ R, Pl.mulV M ds y r = R := ⟨_, rfl⟩
    have hRl : R.1.length = ds.length := by rw [← hR]; exact Pl.mulV_len M ds y r
    have hRlt : ∀ d ∈ R.1 ++ [R.2], d < M := by
      intro d hd
      rw [← hR] at hd
      rcases List.mem_append.1 hd with h | h
      · exact Pl.mulV_lt M (by rw [M_eq]; omega) ds y r d h
      · rw [List.mem_singleton] at h
        rw [h]
        exact Pl.mulV_carry M ds y r HLT.out hy hr
    have hRv : Pl.val M (R.1 ++ [R.2]) = N * y + r := by rw [← hR, Pl.mulAdd_val M (by rw [M_eq]; omega), HVAL.out]
    rw [hR] at HC
    have HRLT := Lib.hid hRlt
    have HRV := Lib.hid hRv
    clear hR hRlt hRv hX
    have hcz : (ds.length : Int) ≤ (cap' : Int) := by omega
    clear hor
    go_wp2_with fail
    refine HC.out.mono ?_; rintro e w2 ⟨rfl, hb2, hg2⟩
    have hz : ∃ u, w2.cell? ⟨g, ds.length, none⟩ = some u := by
      rw [hb2.cell]
      refine ⟨_, Array.getElem?_eq_getElem (h := ?_)⟩
      simp [WC_len]; omega
    obtain ⟨u, hz⟩ := hz
    have hzf := hb2.frozen ds.length
    go_wp2_with fail
    have hset := hb2.set_ ds.length (.int .u64 (R.2 : Int))
    rw [set_mid (WC R.1) tail.toList ds.length (by simp; omega) (by rw [WC_len]; exact hRl), show WC R.1 ++ [.int .u64 (R.2 : Int)] = WC (R.1 ++ [R.2]) from by simp [WC]] at hset
    have hown3 := own_of_blk (n := ds.length + 1) (cap := cap') hset hg (by simp; omega) (by simp; omega) hmax
    rw [List.take_of_length_le (by simp; omega)] at hown3
    refine (norm_any _ (ds.length + 1) cap' (R.1 ++ [R.2]) _ (by simp; omega) (by omega) (by omega) (Rd.of_own hown3) HRLT.out).mono ?_; rintro e w3 ⟨rfl, hle, htake, rfl⟩
    go_wp2
    go_ret
    rw [HRV.out] at hle htake ⊢
    refine ⟨_, rfl, ?_, ?_⟩
    · have := own_of_blk (n := (Pl.digs M (N * y + r)).length) (cap := cap') hset hg (by simp; omega) (by simp; omega) hmax
      rw [htake] at this
      exact this
    · exact ((hbel.mono hb).grown hg2 (Nat.le_trans hb hbel.size) (fun k hk => by injection hk with hk; omega)).setCell hg _
end Go.Proofs.YtgfkdjmoflbmdaaGreatDoor
