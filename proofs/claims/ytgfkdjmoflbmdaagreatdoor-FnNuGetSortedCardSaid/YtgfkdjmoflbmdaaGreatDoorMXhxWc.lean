/- Contracts: fetchComponentsAndBuild (no number too many), parseSemverLikeVersion. PLAIN: words and their bytes. Imports no program. Contracts: nat.bytes, Int.Sign, Int.Bytes, zzPlain. Contract: spec.intOf. -/
import Derived.Test.YtgfkdjmoflbmdaaGreatDoorMXf
import Derived.Test.YtgfkdjmoflbmdaaGreatDoorMPl8xPl9
import Derived.Test.YtgfkdjmoflbmdaaGreatDoorMWnxVe
import Derived.Test.YtgfkdjmoflbmdaaGreatDoorMPl1xPl2
import Derived.Test.YtgfkdjmoflbmdaaGreatDoorMWbxWf
import Derived.Deep.DeepMust
namespace Go.Proofs.YtgfkdjmoflbmdaaGreatDoor
open Go.RowKit
open Go.Proofs

theorem fetch_any (p : Nat) (v : Bool) (A : Option Addr) (n c : Nat) (bd og : ByteArray) (m : Int) (w : World) (hb : Blk w p 56 #[.bool v, .slice A n c, .string bd, .string og]) (hm : (n : Int) ≤ m) :
    Calls Tryz.prog 114 #[.pointer (some ⟨p, 0, none⟩), .int .i64 m] w fun e w' => e = .returned (.tuple #[.slice A n c, .string bd]) ∧ ∃ q, w' = w.drewN q := by
  have c1 := hb.cell 1
  have c2 := hb.cell 2
  simp at c1 c2
  have hm1 : (m == -1) = false := by rw [beq_eq_false_iff_ne]; omega
  go_enter Tryz.func114, Tryz.ntmps114
  go_wp2_with fail
  go_quiet (fail)
  go_wp2
  exact bodyPost_ret (v := .tuple #[.slice A n c, .string bd]) (by simp [results, Tryz.results114, go_sem]) rfl ⟨rfl, _, rfl⟩

set_option maxRecDepth 100000 in
theorem parseVersion_any (s : ByteArray) (m : Int) (pe pn pi : Addr) (w : World) (hs : s.size ≤ 30000) (hV : PkgVars w pe pn pi) (hasc : Pl.ascii s.data.toList = true) (hm : ((Pl.numsOf s.data.toList).length : Int) ≤ m) :
    Calls Tryz.prog 93 #[.string s, .int .i64 m] w (ParseBack w s) := by
  obtain ⟨W, hW⟩ : ∃ W, w.alloc (.cells #[.bool false, .slice none 0 0, .string ⟨#[]⟩, .string ⟨#[]⟩] 56) = W := ⟨_, rfl⟩
  have hbW : Below w.heap.size w W := by rw [← hW]; exact (Below.refl _ _).alloc (Nat.le_refl _) _
  have hRW : Blk W w.heap.size 56 #[.bool false, .slice none 0 0, .string ⟨#[]⟩, .string ⟨#[]⟩] := by rw [← hW]; exact Blk.new _ _ _
  have HC := Lib.hid (parse_any s pe pn pi W hs (hV.below hbW) hasc)
  have HW := Lib.hid hW
  clear hW
  go_enter Tryz.func93, Tryz.ntmps93
  go_wp2_with fail
  rw [HW.out]
  refine HC.out.mono ?_; rintro e w1 ⟨A, c, rfl, hob, hb1⟩
  have hR1 := hRW.below hb1 hRW.lt
  obtain ⟨X, hX⟩ : ∃ X, w1.alloc (.cells #[.bool (Pl.startsV s.data.toList), .slice A (Pl.numsOf s.data.toList).length c, .string ⟨(Pl.buildOf s.data.toList).toArray⟩, .string s] 56) = X := ⟨_, rfl⟩
  have hbX : Below w1.heap.size w1 X := by rw [← hX]; exact (Below.refl _ _).alloc (Nat.le_refl _) _
  have hV5 : Blk X w1.heap.size 56 #[.bool (Pl.startsV s.data.toList), .slice A (Pl.numsOf s.data.toList).length c, .string ⟨(Pl.buildOf s.data.toList).toArray⟩, .string s] := by rw [← hX]; exact Blk.new _ _ _
  have hRX := hR1.below hbX hR1.lt
  have hobX := hob.below hbX
  have HX := Lib.hid hX
  clear hX
  go_wp2_with fail
  rw [HX.out]
  refine (fetch_any _ _ _ _ _ _ _ m X hV5 hm).mono ?_; rintro e w3 ⟨rfl, q, rfl⟩
  have hR3 : Blk (X.drewN q) w.heap.size 56 #[.bool false, .slice none 0 0, .string ⟨#[]⟩, .string ⟨#[]⟩] := hRX
  have hV3 : Blk (X.drewN q) w1.heap.size 56 #[.bool (Pl.startsV s.data.toList), .slice A (Pl.numsOf s.data.toList).length c, .string ⟨(Pl.buildOf s.data.toList).toArray⟩, .string s] := hV5
  have hob3 : OwnBigs (X.drewN q) W.heap.size (.slice A (Pl.numsOf s.data.toList).length c) (Pl.numsOf s.data.toList) := hobX
  have hbel3 : Below w.heap.size w (X.drewN q) := below_drewN (hbW.trans ((hb1.mono hbW.size).trans (hbX.mono (Nat.le_trans hbW.size hb1.size)))) q
  generalize X.drewN q = Y at hR3 hV3 hob3 hbel3 ⊢
  have c0 := hV3.cell 0
  have c3 := hV3.cell 3
  have d0 := hR3.cell 0
  have d1 := hR3.cell 1
  have d2 := hR3.cell 2
  have d3 := hR3.cell 3
  have e0 := hR3.frozen 0
  have e1 := hR3.frozen 1
  have e2 := hR3.frozen 2
  have e3 := hR3.frozen 3
  simp at c0 c3 d0 d1 d2 d3
  go_wp2
  refine bodyPost_ret (v := .agg #[.bool (Pl.startsV s.data.toList), .slice A (Pl.numsOf s.data.toList).length c, S (Pl.buildOf s.data.toList), .string s]) (by simp [results, Tryz.results93, go_sem, d0, d1, d2, d3]) rfl ⟨A, c, rfl, ?_, ?_⟩
  · exact OwnBigs.four (OwnBigs.lower hob3 hbW.size) hR3
  · exact (((hbel3.setCell (Nat.le_refl _) _).setCell (Nat.le_refl _) _).setCell (Nat.le_refl _) _).setCell (Nat.le_refl _) _
end Go.Proofs.YtgfkdjmoflbmdaaGreatDoor

namespace Go.Proofs.YtgfkdjmoflbmdaaGreatDoor.Pl

/-- so many bytes of a number, the lowest first -/
def le : Nat → Nat → List Nat
  | 0, _ => []
  | m + 1, n => n % 256 :: le m (n / 256)
theorem le_len : ∀ (m n : Nat), (le m n).length = m
  | 0, _ => rfl
  | m + 1, n => by simp [le, le_len m]
theorem le_lt : ∀ (m n : Nat), ∀ d ∈ le m n, d < 256
  | 0, _, d, h => by simp [le] at h
  | m + 1, n, d, h => by
    rcases List.mem_cons.1 h with h | h
    · subst h; exact Nat.mod_lt _ (by omega)
    · exact le_lt m _ d h
theorem le_val : ∀ (m n : Nat), n < 256 ^ m → val 256 (le m n) = n
  | 0, n, h => by have : n = 0 := by simpa using h
                  subst this; rfl
  | m + 1, n, h => by
    show n % 256 + 256 * val 256 (le m (n / 256)) = n
    rw [le_val m (n / 256) (by rw [Nat.pow_succ] at h; exact Nat.div_lt_of_lt_mul (by omega))]
    omega
theorem le_snoc : ∀ (m n : Nat), le (m + 1) n = le m n ++ [n / 256 ^ m % 256]
  | 0, n => by simp [le]
  | m + 1, n => by
    show n % 256 :: le (m + 1) (n / 256) = n % 256 :: le m (n / 256) ++ [n / 256 ^ (m + 1) % 256]
    rw [le_snoc m (n / 256), Nat.div_div_eq_div_mul, Nat.pow_succ, Nat.mul_comm 256]; rfl
/-- the bytes of words -/
def lew (ws : List Nat) : List Nat := ws.flatMap (le 8)
theorem lew_cons (d : Nat) (r : List Nat) : lew (d :: r) = le 8 d ++ lew r := rfl
theorem lew_snoc (r : List Nat) (d : Nat) : lew (r ++ [d]) = lew r ++ le 8 d := by simp [lew]
theorem lew_len (ws : List Nat) : (lew ws).length = 8 * ws.length := by
  induction ws with
  | nil => rfl
  | cons d r ih => rw [lew_cons, List.length_append, le_len, ih, List.length_cons]; omega
theorem lew_lt (ws : List Nat) : ∀ d ∈ lew ws, d < 256 := by
  intro d hd
  obtain ⟨x, _, hx⟩ := List.mem_flatMap.1 hd
  exact le_lt 8 x d hx
theorem lew_val (ws : List Nat) (h : ∀ d ∈ ws, d < 18446744073709551616) : val 256 (lew ws) = val 18446744073709551616 ws := by
  induction ws with
  | nil => rfl
  | cons d r ih =>
    rw [lew_cons, val_append, le_len, le_val 8 d (by have := h d (List.mem_cons_self ..); omega), ih fun x hx => h x (List.mem_cons_of_mem _ hx)]
    rfl
/-- behind the zeros ahead, the bytes are the number's -/
theorem mag_of_buf (L : List Nat) (i : Nat) (hL : ∀ d ∈ L, d < 256) (hi : i ≤ L.length) (hz : ∀ d ∈ L.reverse.take i, d = 0) (hs : i = L.length ∨ L.reverse[i]? ≠ some 0) :
    (L.reverse.drop i).map UInt8.ofNat = magOf (val 256 L) := by
  have hd : L.drop (L.length - i) = (L.reverse.take i).reverse := by
    rw [List.take_reverse]; simp
  have ht : L.take (L.length - i) = (L.reverse.drop i).reverse := by
    rw [List.drop_reverse]; simp
  have h := norm_digs 256 (by omega) L hL (L.length - i) (by omega) (by rw [hd]; intro d hd; exact hz d (List.mem_reverse.1 hd)) (by
    rcases hs with h | h
    · left; omega
    · by_cases h0 : L.length - i = 0
      · exact Or.inl h0
      · right
        intro e
        apply h
        rw [List.getElem?_reverse (by omega)]
        rw [← e]; congr 1; omega)
  rw [magOf, ← h, ht, List.reverse_reverse]
/-- a number below a word's bound -/
theorem byte_at (d j : Nat) : d / 256 ^ j / 256 = d / 256 ^ (j + 1) := by rw [Nat.div_div_eq_div_mul, Nat.pow_succ]

theorem val_take_drop (b : Nat) (l : List Nat) (k : Nat) (h : k ≤ l.length) : val b l = val b (l.take k) + b ^ k * val b (l.drop k) := by
  have := val_append b (l.take k) (l.drop k)
  rw [List.take_append_drop, List.length_take, Nat.min_eq_left h] at this
  exact this
theorem pow_words (k : Nat) : (256 : Nat) ^ (8 * k) = 18446744073709551616 ^ k := by rw [Nat.pow_mul]
/-- one word more out of eight bytes (or the last ones) -/
theorem word_step (L ws : List Nat) (k r : Nat) (hk : ws.length = k) (hv : val 18446744073709551616 ws = val 256 (L.take (8 * k))) (hl : 8 * k ≤ L.length) :
    val 18446744073709551616 (ws ++ [val 256 ((L.drop (8 * k)).take r)]) = val 256 (L.take (8 * k + r)) := by
  rw [val_append, hv, hk, List.take_add, val_append, List.length_take, Nat.min_eq_left hl, pow_words]
  rfl
theorem word_lt (L : List Nat) (hL : ∀ d ∈ L, d < 256) (k r : Nat) (hr : r ≤ 8) : val 256 ((L.drop k).take r) < 18446744073709551616 := by
  have h1 := val_lt 256 ((L.drop k).take r) (fun d hd => hL d (List.mem_of_mem_drop (List.mem_of_mem_take hd)))
  have h2 : (256 : Nat) ^ ((L.drop k).take r).length ≤ 256 ^ 8 := Nat.pow_le_pow_right (by omega) (by rw [List.length_take]; omega)
  have h3 : (256 : Nat) ^ 8 = 18446744073709551616 := by decide
  omega
/-- one byte more, at its place -/
theorem byte_step (L : List Nat) (j : Nat) (hj : j < L.length) : val 256 (L.take (j + 1)) = val 256 (L.take j) + L[j] * 256 ^ j := by
  rw [List.take_succ_eq_append_getElem hj, val_append, List.length_take, Nat.min_eq_left (by omega), Nat.mul_comm (L[j])]
  show _ + 256 ^ j * (L[j] + 256 * 0) = _
  rw [Nat.mul_zero, Nat.add_zero]
end Go.Proofs.YtgfkdjmoflbmdaaGreatDoor.Pl

namespace Go.Proofs.YtgfkdjmoflbmdaaGreatDoor
open Go.RowKit
open Go.Proofs

theorem bytes_set (a : List Nat) (x y : Nat) (r : List Nat) : (B8 (a ++ x :: r)).set a.length (.int .u8 (y : Int)) = B8 (a ++ y :: r) := by
  simp [B8]
/-- a buffer filled from its end -/
def BufAt (w : World) (g m i : Nat) (bs : List Nat) : Prop := Blk w g 5 (B8 (List.replicate i 0 ++ bs.reverse)).toArray ∧ i + bs.length = m
theorem BufAt.cellAt {w : World} {g m i : Nat} {bs : List Nat} (h : BufAt w g m i bs) {j : Nat} (hj : j < m) : ∃ u, w.cell? ⟨g, j, none⟩ = some u := by
  rw [h.1.cell j]
  have : j < (B8 (List.replicate i 0 ++ bs.reverse)).toArray.size := by have := h.2; simp [B8]; omega
  exact ⟨_, Array.getElem?_eq_getElem this⟩
theorem BufAt.put {w : World} {g m i : Nat} {bs : List Nat} (h : BufAt w g m (i + 1) bs) (x : Nat) : BufAt (w.setCell ⟨g, i, none⟩ (.int .u8 (x : Int))) g m i (bs ++ [x]) := by
  refine ⟨?_, by have := h.2; simp; omega⟩
  have := h.1.set_ i (.int .u8 (x : Int))
  have e : (B8 (List.replicate (i + 1) 0 ++ bs.reverse)).set i (.int .u8 (x : Int)) = B8 (List.replicate i 0 ++ (bs ++ [x]).reverse) := by
    have h2 := bytes_set (List.replicate i 0) 0 x bs.reverse
    rw [List.length_replicate] at h2
    rw [show List.replicate (i + 1) 0 ++ bs.reverse = List.replicate i 0 ++ 0 :: bs.reverse from by rw [List.replicate_succ', List.append_assoc]; rfl, h2]
    simp
  rw [show (B8 (List.replicate (i + 1) 0 ++ bs.reverse)).toArray.setIfInBounds i (.int .u8 (x : Int)) = ((B8 (List.replicate (i + 1) 0 ++ bs.reverse)).set i (.int .u8 (x : Int))).toArray from by simp, e] at this
  exact this
/-- what nat.bytes leaves -/
def BytesBack (w : World) (g : Nat) (ws : List Nat) (e : Ending) (w' : World) : Prop :=
  ∃ i : Nat, i ≤ 8 * ws.length ∧ e = .returned (.int .i64 (i : Int)) ∧ BufAt w' g (8 * ws.length) 0 (Pl.lew ws) ∧ w.grownBy w' (some g) ∧
    (∀ d ∈ (Pl.lew ws).reverse.take i, d = 0) ∧ (i = (Pl.lew ws).length ∨ (Pl.lew ws).reverse[i]? ≠ some 0)
set_option maxRecDepth 100000 in
set_option maxHeartbeats 1000000 in
theorem natBytes_any (A : Option Addr) (c g : Nat) (ws : List Nat) (w : World) (hr : Rd w 1 A ws.length (WC ws)) (hne : ∀ b o, A = some ⟨b, o, none⟩ → b ≠ g) (hl : ws.length ≤ 100000) (hlt : ∀ d ∈ ws, d < M)
    (hB : BufAt w g (8 * ws.length) (8 * ws.length) []) (cb : Nat) :
    Calls Tryz.prog 159 #[.slice A ws.length c, .slice (some ⟨g, 0, none⟩) (8 * ws.length) cb] w (BytesBack w g ws) := by
  have HLT := Lib.hid hlt
  clear hlt
  have HNE := Lib.hid hne
  clear hne
  go_enter Tryz.func159, Tryz.ntmps159
  go_wp2
  go_loopw [4, 12] (fun iv kv wr => ∃ k : Nat, k ≤ ws.length ∧ kv = .int .i64 (k : Int) ∧ iv = .int .i64 ((8 * (ws.length - k) : Nat) : Int) ∧ BufAt wr g (8 * ws.length) (8 * (ws.length - k)) (Pl.lew (ws.take k)) ∧ w.grownBy wr (some g)) (fun _ kv _ => ws.length - (intOf kv).toNat)
  case atStart => exact ⟨0, Nat.zero_le _, rfl, by simp, hB, World.grownBy.refl _ _⟩
  case round =>
    obtain ⟨k, hk, rfl, rfl, hbuf, hgr⟩ := hrel
    by_cases hkl : k < ws.length
    · obtain ⟨b, o, rfl, hc⟩ := hr.2 (by omega)
      have hbg := HNE.out b o rfl
      have hcell := hgr.cell (hc k _ (WC_get ws k hkl)) (by simpa using hbg)
      have hdM : ws[k] < 18446744073709551616 := HLT.out _ (List.getElem_mem hkl)
      have htk : ws.take (k + 1) = ws.take k ++ [ws[k]] := List.take_succ_eq_append_getElem hkl
      obtain ⟨d, hd⟩ : ∃ d, ws[k] = d := ⟨_, rfl⟩
      rw [hd] at hcell hdM htk
      have HTK := Lib.hid htk
      clear hd htk hc
      obtain ⟨m, hm⟩ : ∃ m, 8 * (ws.length - k) = m := ⟨_, rfl⟩
      have hm8 : 8 ≤ m ∧ m ≤ 8 * ws.length := by omega
      obtain ⟨hm8, hmn⟩ := hm8
      rw [hm] at hbuf ⊢
      have HM := Lib.hid hm
      clear hm
      go_wp2
      go_loopw [4, 6, 7] (fun iv dv jv wx => ∃ j : Nat, j ≤ 8 ∧ jv = .int .i64 (j : Int) ∧ dv = .int .u64 ((d / 256 ^ j : Nat) : Int) ∧ iv = .int .i64 ((m - j : Nat) : Int) ∧ BufAt wx g (8 * ws.length) (m - j) (Pl.lew (ws.take k) ++ Pl.le j d) ∧ w.grownBy wx (some g)) (fun _ _ jv _ => 8 - (intOf jv).toNat)
      case atStart => exact ⟨0, by omega, rfl, by simp, rfl, by simpa [Pl.le] using hbuf, hgr⟩
      case round =>
        obtain ⟨j, hj, rfl, rfl, rfl, hbufx, hgrx⟩ := hrel
        by_cases hj8 : j < 8
        · obtain ⟨i, hi⟩ : ∃ i, m - j = i + 1 := ⟨m - j - 1, by omega⟩
          have hi9 : i < 8 * ws.length := by omega
          rw [hi] at hbufx ⊢
          obtain ⟨u, hu⟩ := hbufx.cellAt (j := i) (by omega)
          have hf := hbufx.1.frozen i
          have hqM : d / 256 ^ j < 18446744073709551616 := Nat.lt_of_le_of_lt (Nat.div_le_self _ _) hdM
          have hle := Pl.le_snoc j d
          have hby := Pl.byte_at d j
          obtain ⟨q, hq⟩ : ∃ q, d / 256 ^ j = q := ⟨_, rfl⟩
          rw [hq] at hqM hle hby ⊢
          have HLE := Lib.hid hle
          have HBY := Lib.hid hby
          have HI := Lib.hid hi
          clear hle hby hq hi
          go_wp2
          go_roundw
          case rel =>
            refine ⟨j + 1, by omega, by go_num, ?_, ?_, ?_, hgrx.trans (grown_set _ _ _ _)⟩
            · rw [← HBY.out]; go_num
            · rw [show m - (j + 1) = i from by have := HI.out; omega]
            · have hput := hbufx.put (q % 256)
              rw [show ((q % 256 : Nat) : Int) = (q : Int) % 256 from by omega] at hput
              rw [show m - (j + 1) = i from by have := HI.out; omega, HLE.out, ← List.append_assoc]
              exact hput
          case measure => simp [intOf]; omega
        · obtain rfl : j = 8 := by omega
          go_wp2
          go_roundw
          case rel =>
            refine ⟨k + 1, by omega, by go_num, ?_, ?_, hgrx⟩
            · rw [show 8 * (ws.length - (k + 1)) = m - 8 from by have := HM.out; omega]
            · rw [show 8 * (ws.length - (k + 1)) = m - 8 from by have := HM.out; omega, HTK.out, Pl.lew_snoc]
              exact hbufx
          case measure => simp [intOf]; omega
    · obtain rfl : k = ws.length := by omega
      rw [List.take_length, Nat.sub_self, Nat.mul_zero] at hbuf
      rw [Nat.sub_self, Nat.mul_zero]
      obtain ⟨R, hR⟩ : ∃ R, (Pl.lew ws).reverse = R := ⟨_, rfl⟩
      have hRl : R.length = 8 * ws.length := by rw [← hR, List.length_reverse, Pl.lew_len]
      have hRlt : ∀ d ∈ R, d < 256 := fun d hd => Pl.lew_lt ws d (by rw [← hR] at hd; exact List.mem_reverse.1 hd)
      have hcells : ∀ j (h : j < R.length), wr.cell? ⟨g, j, none⟩ = some (.int .u8 ((R[j] : Nat) : Int)) := by
        intro j hj
        rw [hbuf.1.cell j]
        subst hR
        simp only [List.replicate_zero, List.nil_append]
        have := B8_get _ j hj
        simpa using this
      have HRR := Lib.hid hR
      have HRL := Lib.hid hRl
      have HRLT := Lib.hid hRlt
      have HC := Lib.hid hcells
      clear hR hRl hRlt hcells
      go_wp2
      go_loop [4] (fun iv => ∃ i : Nat, i ≤ 8 * ws.length ∧ iv = .int .i64 (i : Int) ∧ (∀ d ∈ R.take i, d = 0)) (fun iv => 8 * ws.length - (intOf iv).toNat)
      case atStart => exact ⟨0, Nat.zero_le _, rfl, by simp⟩
      case round =>
        obtain ⟨i, hi, rfl, hz⟩ := hrel
        have HZ := Lib.hid hz
        clear hz
        by_cases hin : i < 8 * ws.length
        · have hir : i < R.length := by rw [HRL.out]; exact hin
          have hcell := HC.out i hir
          have hx := HRLT.out _ (List.getElem_mem hir)
          obtain ⟨x, hxe⟩ : ∃ x, R[i]'hir = x := ⟨_, rfl⟩
          rw [hxe] at hcell hx
          have HX := Lib.hid hxe
          clear hxe
          by_cases hx0 : x = 0
          · subst hx0
            go_wp2
            go_round
            case rel =>
              refine ⟨i + 1, by omega, by go_num, ?_⟩
              intro d hd
              rw [List.take_succ_eq_append_getElem hir, HX.out] at hd
              rcases List.mem_append.1 hd with hd | hd
              · exact HZ.out d hd
              · simpa using hd
            case measure => simp [intOf]; omega
          · have hx1 : ((x : Int) == 0) = false := by rw [beq_eq_false_iff_ne]; omega
            go_wp2
            go_ret
            refine ⟨i, hi, rfl, hbuf, hgr, by rw [HRR.out]; exact HZ.out, Or.inr ?_⟩
            rw [HRR.out, List.getElem?_eq_getElem hir, HX.out]
            simpa using hx0
        · obtain rfl : i = 8 * ws.length := by omega
          go_wp2
          go_ret
          exact ⟨_, hi, rfl, hbuf, hgr, by rw [HRR.out]; exact HZ.out, Or.inl (Pl.lew_len ws).symm⟩

def signN (N : Nat) : Int := if N = 0 then 0 else 1
theorem digs_len_zero {N : Nat} : (Pl.digs M N).length = 0 ↔ N = 0 := by
  constructor
  · intro h
    have h1 := List.eq_nil_of_length_eq_zero h
    have h2 := Pl.val_digs M N M_two
    rw [h1] at h2; exact h2.symm
  · rintro rfl; rw [Pl.digs_zero]; rfl
theorem Sign_any (g B N : Nat) (w : World) (h : IntAt w g B false N) (_hl : (Pl.digs M N).length ≤ 900000) :
    Calls Tryz.prog 145 #[.pointer (some ⟨g, 0, none⟩)] w fun e w' => e = .returned (.int .i64 (signN N)) ∧ w = w' := by
  obtain ⟨v, hb, hn⟩ := h
  obtain ⟨A, c, rfl⟩ := own_form hn
  have c0 := hb.cell 0
  have c1 := hb.cell 1
  simp at c0 c1
  have hz := digs_len_zero (N := N)
  by_cases h0 : N = 0
  · have hz1 := hz.2 h0
    have HR := Lib.hid (show signN N = 0 from if_pos h0)
    rw [hz1] at c1
    clear hz hz1 h0 hn hb _hl
    go_enter Tryz.func145, Tryz.ntmps145
    go_wp2
    go_ret
    exact ⟨ret_int HR.out.symm, rfl⟩
  · have hz1 : (((Pl.digs M N).length : Int) == 0) = false := by rw [beq_eq_false_iff_ne]; have := mt hz.1 h0; omega
    have HR := Lib.hid (show signN N = 1 from if_neg h0)
    clear hz h0 hn hb
    go_enter Tryz.func145, Tryz.ntmps145
    go_wp2
    go_ret
    exact ⟨ret_int HR.out.symm, rfl⟩
theorem info5b : (Tryz.prog.info? 5).map (fun i => (i.zero, i.size, i.bytes)) = some (some (.int .u8 0), 1, 1) := by kernel_rfl
theorem mk_bytes (m : Nat) (hc : m ≤ 2000000) (w : World) : (Instr.makeSlice 91 (.int .i64 (m : Int)) (.int .i64 (m : Int))).run Tryz.prog w = .ok (.slice (some ⟨w.heap.size, 0, none⟩) m m) (w.alloc (.cells (madeCells #[.int .u8 0] m) 5)) := by
  obtain ⟨i0, hi, hz0, hz1, hz2⟩ := info_parts info5b
  have hr := run_make (P := Tryz.prog) w 91 5 i0 _ Tryz.underlying91 hi hz0 .i64 .i64 m m (by omega) (by omega) (by rw [hz2]; omega) (by omega)
  simp only [Int.toNat_natCast, hz1, Nat.mul_one] at hr
  exact hr
/-- bytes come back that are a number's -/
def BytesOut (w : World) (N : Nat) (e : Ending) (w' : World) : Prop :=
  ∃ A n c ds, e = .returned (.slice A n c) ∧ Rd w' 1 A n (B8 ds) ∧ ds.map UInt8.ofNat = Pl.magOf N ∧ Below w.heap.size w w'
set_option maxRecDepth 100000 in
theorem Bytes_any (g B N : Nat) (w : World) (h : IntAt w g B false N) (hl : (Pl.digs M N).length ≤ 100000) :
    Calls Tryz.prog 146 #[.pointer (some ⟨g, 0, none⟩)] w (BytesOut w N) := by
  obtain ⟨v, hb, hn⟩ := h
  obtain ⟨A, c, rfl⟩ := own_form hn
  have hlt := Pl.digs_lt M N M_two
  have hvd := Pl.val_digs M N M_two
  obtain ⟨ws, hws⟩ : ∃ ws, Pl.digs M N = ws := ⟨_, rfl⟩
  unfold NatAt at hn
  rw [hws] at hn hlt hvd hl hb
  have hrd := Rd.of_own hn
  have hAlt : ∀ b o, A = some ⟨b, o, none⟩ → b < w.heap.size := fun b o e => (World.ownsRow.lt hn b (by rw [e]; rfl)).2
  obtain ⟨W, hW⟩ : ∃ W, w.alloc (.cells (madeCells #[.int .u8 0] (8 * ws.length)) 5) = W := ⟨_, rfl⟩
  have hbW : Below w.heap.size w W := by rw [← hW]; exact (Below.refl _ _).alloc (Nat.le_refl _) _
  have hbuf : BufAt W w.heap.size (8 * ws.length) (8 * ws.length) [] := by
    refine ⟨?_, by simp⟩
    rw [← hW]
    have := Blk.new w 5 (madeCells #[.int .u8 0] (8 * ws.length))
    have e : (madeCells #[.int .u8 0] (8 * ws.length)) = (B8 (List.replicate (8 * ws.length) 0 ++ ([] : List Nat).reverse)).toArray := by
      apply Array.ext'
      rw [toList_madeCells_one]
      simp [B8]
    rw [← e]
    exact this
  have hmk : (Instr.makeSlice 91 (.int .i64 ((ws.length : Int) * 8)) (.int .i64 ((ws.length : Int) * 8))).run Tryz.prog w = .ok (.slice (some ⟨w.heap.size, 0, none⟩) (8 * ws.length) (8 * ws.length)) W := by
    have := mk_bytes (8 * ws.length) (by omega) w
    rw [hW] at this
    rw [← this]
    congr 3 <;> simp [Int.mul_comm]
  have c1 := hb.cell 1
  simp at c1
  have c1W : W.cell? ⟨g, 1, none⟩ = some (.slice A ws.length c) := (hbW.cell (p := ⟨g, 1, none⟩) hb.lt).trans c1
  have HB := Lib.hid (natBytes_any A c w.heap.size ws W (hrd.below hbW) (fun b o e => by have := hAlt b o e; omega) hl hlt hbuf (8 * ws.length))
  have hgl : g < w.heap.size := hb.lt
  have HVD := Lib.hid hvd
  have HLT := Lib.hid hlt
  have HWS := Lib.hid hws
  clear hb hn hrd hAlt hW hvd hlt hws hbuf
  go_enter Tryz.func146, Tryz.ntmps146
  go_wp2_with fail
  refine HB.out.mono ?_; rintro e w1 ⟨i, hi, rfl, hbf, hgr, hz, hs⟩
  have HZ := Lib.hid hz
  have HS := Lib.hid hs
  clear hz hs
  have hbel1 : Below w.heap.size w w1 := hbW.grown hgr hbW.size (fun k hk => by injection hk with hk; omega)
  have hmag : ((Pl.lew ws).reverse.drop i).map UInt8.ofNat = Pl.magOf N := by
    have := Pl.mag_of_buf (Pl.lew ws) i (Pl.lew_lt ws) (by rw [Pl.lew_len]; exact hi) HZ.out HS.out
    rw [this, Pl.lew_val ws HLT.out]
    exact congrArg Pl.magOf HVD.out
  have HMAG := Lib.hid hmag
  clear hmag
  by_cases hin : i = 8 * ws.length
  · subst hin
    go_wp2
    go_ret
    refine ⟨_, _, _, [], rfl, by rw [Nat.sub_self]; exact Rd.nil _ _ _, ?_, hbel1⟩
    rw [← HMAG.out, List.drop_of_length_le (by rw [List.length_reverse, Pl.lew_len]; exact Nat.le_refl _)]
  · have hin2 : i < 8 * ws.length := by omega
    go_wp2
    go_ret
    refine ⟨_, _, _, (Pl.lew ws).reverse.drop i, rfl, ⟨?_, fun _ => ⟨_, _, rfl, fun j u hu => ?_⟩⟩, HMAG.out, hbel1⟩
    · rw [B8_len, List.length_drop, List.length_reverse, Pl.lew_len]; omega
    · rw [hbf.1.cell (i + j), ← hu]
      simp [B8]
theorem zzPlain_any (Z B N : Nat) (w : World) (h : IntAt w Z B false N) (hl : (Pl.digs M N).length ≤ 100000) :
    Calls Tryz.prog 126 #[.pointer (some ⟨Z, 0, none⟩)] w fun e w' => e = .returned (.agg #[.bool false, S (Pl.magOf N)]) ∧ Below w.heap.size w w' := by
  have hs : ¬ signN N < 0 := by unfold signN; split <;> omega
  have HB := Lib.hid h
  obtain ⟨W, hW⟩ : ∃ W, w.alloc (.cells #[.bool false, .string ⟨#[]⟩] 118) = W := ⟨_, rfl⟩
  have hbW : Below w.heap.size w W := by rw [← hW]; exact (Below.refl _ _).alloc (Nat.le_refl _) _
  have hRW : Blk W w.heap.size 118 #[.bool false, .string ⟨#[]⟩] := by rw [← hW]; exact Blk.new _ _ _
  have HS := Lib.hid (Sign_any Z B N W (h.below hbW) (by omega))
  have HY := Lib.hid (Bytes_any Z B N W (h.below hbW) hl)
  have HW := Lib.hid hW
  clear hW h
  obtain ⟨q, hq⟩ : ∃ q, signN N = q := ⟨_, rfl⟩
  rw [hq] at HS hs
  clear hq
  go_enter Tryz.func126, Tryz.ntmps126
  go_wp2_with fail
  rw [HW.out]
  refine HS.out.mono ?_; rintro e w1 ⟨rfl, rfl⟩
  go_wp2_with fail
  refine HY.out.mono ?_; rintro e w2 ⟨A, n, c, ds, rfl, hrd, hm, hb2⟩
  have hR2 := hRW.below hb2 hRW.lt
  have c0 := hR2.cell 0
  have c1 := hR2.cell 1
  have f0 := hR2.frozen 0
  have f1 := hR2.frozen 1
  simp at c0 c1
  have HM := Lib.hid hm
  clear hm
  go_wp2_with (refine wpList_conv_S _ rfl (.tmp 7) 91 9 5 rfl Tryz.underlying91 Tryz.underlying5 Tryz.underlying9 A n c ds rfl hrd ?_)
  have hd : decide (q < 0) = false := by rw [decide_eq_false_iff_not]; omega
  refine bodyPost_ret (v := .agg #[.bool (decide (q < 0)), S (ds.map UInt8.ofNat)]) (by simp [results, Tryz.results126, go_sem, c0, c1]) rfl ⟨by rw [hd, HM.out], ?_⟩
  exact ((hbW.trans (hb2.mono hbW.size)).setCell (Nat.le_refl _) _).setCell (Nat.le_refl _) _
end Go.Proofs.YtgfkdjmoflbmdaaGreatDoor

namespace Go.Proofs.YtgfkdjmoflbmdaaGreatDoor
open Go.RowKit
open Go.Proofs
theorem info5 : (Tryz.prog.info? 5).map (fun i => (i.zero, i.size, i.bytes)) = some (some (.int .u8 0), 1, 1) := by kernel_rfl

theorem intOf_step (s : ByteArray) (k : Nat) (hlt : k < s.size) (d : Nat) (hd : (d : Int) = (s[k].toNat : Int) - 48) (hd9 : d ≤ 9) (ds : List Nat) (hds : Pl.digs 256 (Pl.natAcc 0 (s.data.toList.take k)) = ds) :
    Pl.digs 256 (Pl.natAcc 0 (s.data.toList.take (k + 1))) = Pl.withCarry (Pl.mul10 d ds) := by
  subst hds
  rw [Pl.mul10_digs _ _ hd9, List.take_succ_eq_append_getElem (by rw [len_list]; exact hlt), Pl.natAcc_snoc]
  have hg := get_list s k hlt
  rw [List.getElem?_eq_getElem (by rw [len_list]; exact hlt)] at hg
  simp only [Option.some.injEq] at hg
  rw [hg]
  congr 1; omega
theorem digs_size (s : ByteArray) (k : Nat) (hd : s.data.toList.all Pl.isDig = true) : (Pl.digs 256 (Pl.natAcc 0 (s.data.toList.take k))).length ≤ s.size := by
  have h1 : (s.data.toList.take k).all Pl.isDig = true := by
    rw [List.all_eq_true] at hd ⊢
    exact fun x hx => hd x (List.mem_of_mem_take hx)
  have h2 := Pl.natOf_lt _ h1
  have h3 := Pl.pow10_lt (s.data.toList.take k).length
  have h4 := Pl.digs_len_le (b := 256) (n := Pl.natOf (s.data.toList.take k)) (m := (s.data.toList.take k).length) (by omega) (by omega)
  have h5 : (s.data.toList.take k).length ≤ s.size := by rw [List.length_take, len_list]; omega
  exact Nat.le_trans h4 h5
theorem B8_set (a : List Nat) (x y : Nat) (r : List Nat) : (B8 (a ++ x :: r)).set a.length (.int .u8 (y : Int)) = B8 (a ++ y :: r) := by
  simp [B8]
theorem rev_set (m k x : Nat) (R : List Nat) (hk : k < m) : (B8 (List.replicate (m - k) 0 ++ R)).set (m - 1 - k) (.int .u8 (x : Int)) = B8 (List.replicate (m - (k + 1)) 0 ++ x :: R) := by
  have e : List.replicate (m - k) 0 = List.replicate (m - (k + 1)) 0 ++ [0] := by
    rw [show m - k = (m - (k + 1)) + 1 from by omega, List.replicate_succ']
  rw [e, List.append_assoc]
  have := B8_set (List.replicate (m - (k + 1)) 0) 0 x R
  rw [List.length_replicate, show m - (k + 1) = m - 1 - k from by omega] at this
  rw [show m - (k + 1) = m - 1 - k from by omega]
  exact this
theorem int_nat (k : IntKind) {a b : Int} (h : a = b) : Value.int k a = Value.int k b := by rw [h]

set_option maxHeartbeats 1000000 in
set_option maxRecDepth 100000 in
theorem intOf_any (s : ByteArray) (w : World) (hs : s.size ≤ 30000) (hd : s.data.toList.all Pl.isDig = true) :
    Calls Tryz.prog 51 #[.string s] w fun e w' => e = .returned (.agg #[.bool false, S (Pl.magOf (Pl.natOf s.data.toList))]) ∧ Below w.heap.size w w' := by
  obtain ⟨i0, hi, hz0, hz1, hz2⟩ := info_parts info5
  have HD := Lib.hid hd
  clear hd
  go_enter Tryz.func51, Tryz.ntmps51
  go_wp2
  go_loopw [3, 4] (fun v i wr => ∃ k : Nat, k ≤ s.size ∧ i = .int .i64 k ∧ wr.ownsRow (w.heap.size + 1) 5 1 v (Pl.digs 256 (Pl.natAcc 0 (s.data.toList.take k))).length (B8 (Pl.digs 256 (Pl.natAcc 0 (s.data.toList.take k)))) ∧ Blk wr w.heap.size 46 #[.bool false, .string ⟨#[]⟩] ∧ Below w.heap.size w wr) (fun _ i _ => s.size - (intOf i).toNat)
  case atStart => exact ⟨0, Nat.zero_le _, rfl, by simp [Pl.natAcc, Pl.digs_zero, B8]; exact World.ownsRow_nil _ _ _ _, Blk.new _ _ _, (Below.refl _ _).alloc (Nat.le_refl _) _⟩
  case round =>
    obtain ⟨k, hk, rfl, hown, hblk, hbel⟩ := hrel
    obtain ⟨A, c, rfl⟩ := own_form hown
    by_cases hlt : k < s.size
    · have hdig : Pl.isDig s[k] = true := List.all_eq_true.1 HD.out _ (List.mem_of_getElem? (get_list s k hlt))
      have hb : (48 : Int) ≤ (s[k].toNat : Int) ∧ (s[k].toNat : Int) ≤ 57 := by simp [Pl.isDig] at hdig; omega
      obtain ⟨hb1, hb2⟩ := hb
      clear hdig
      obtain ⟨d, hd⟩ : ∃ d : Nat, (d : Int) = (s[k].toNat : Int) - 48 := ⟨s[k].toNat - 48, by omega⟩
      have hd9 : d ≤ 9 := by omega
      obtain ⟨ds, hds⟩ : ∃ ds, Pl.digs 256 (Pl.natAcc 0 (s.data.toList.take k)) = ds := ⟨_, rfl⟩
      have hlds : ∀ x ∈ ds, x < 256 := by rw [← hds]; exact Pl.digs_lt 256 _ (by omega)
      rw [hds] at hown ⊢
      have hdl : ds.length ≤ s.size := by rw [← hds]; exact digs_size s k HD.out
      have HDS := Lib.hid hds
      clear hds
      have HLD := Lib.hid hlds
      clear hlds
      have HDD := Lib.hid hd
      clear hd
      obtain ⟨wo, rfl⟩ : ∃ wo : World, wo = wr := ⟨_, rfl⟩
      go_wp2
      go_loopw [5, 6] (fun cv jv wr => ∃ (j cc : Nat) (done : List Nat), j ≤ ds.length ∧ jv = .int .i64 (j : Int) ∧ cv = .int .i64 (cc : Int) ∧ cc ≤ 9 ∧ done.length = j ∧ wr.ownsRow (w.heap.size + 1) 5 1 (.slice A ds.length c) ds.length (B8 (done ++ ds.drop j)) ∧ done ++ (Pl.mul10 cc (ds.drop j)).1 = (Pl.mul10 d ds).1 ∧ (Pl.mul10 cc (ds.drop j)).2 = (Pl.mul10 d ds).2 ∧ Blk wr w.heap.size 46 #[.bool false, .string ⟨#[]⟩] ∧ Below w.heap.size w wr) (fun _ jv _ => ds.length - (intOf jv).toNat)
      case atStart => exact ⟨0, d, [], Nat.zero_le _, rfl, by rw [HDD.out], hd9, rfl, by simpa using hown, by simp, by simp, hblk, hbel⟩
      case round =>
        obtain ⟨j, cc, done, hj, rfl, rfl, hcc, hdone, hown, h1, h2, hblk, hbel⟩ := hrel
        have H1 := Lib.hid h1
        have H2 := Lib.hid h2
        have HDN := Lib.hid hdone
        clear h1 h2 hdone
        by_cases hjl : j < ds.length
        · obtain ⟨g, cap, hv, hbase, hglt⟩ := hown.form (by omega)
          injection hv with hA hn hc
          subst hA
          subst hc
          clear hn
          have hx : ds[j] ≤ 255 := by have := HLD.out ds[j] (List.getElem_mem hjl); omega
          have hcell : wr.cell? ⟨g, j, none⟩ = some (.int .u8 ((ds[j] : Nat) : Int)) := by
            rw [hown.cellAt j (by omega), B8_get _ _ (by simp; have := HDN.out; omega)]
            congr 3
            rw [List.getElem_append_right (by have := HDN.out; omega)]
            have := HDN.out
            simp [this]
          have hfro : wr.frozen? ⟨g, j, none⟩ = false := hown.frozenAt j
          obtain ⟨x, hxe⟩ : ∃ x, ds[j] = x := ⟨_, rfl⟩
          rw [hxe] at hx hcell
          have HX := Lib.hid hxe
          clear hxe
          go_wp2
          go_roundw
          case rel =>
            have hdn := HDN.out
            have hdrop : ds.drop j = x :: ds.drop (j + 1) := by rw [← HX.out]; exact List.drop_eq_getElem_cons hjl
            have e1 := H1.out
            have e2 := H2.out
            rw [hdrop, Pl.mul10_cons] at e1 e2
            refine ⟨j + 1, (cc + 10 * x) / 256, done ++ [(cc + 10 * x) % 256], by omega, by go_num, int_nat _ (by omega), by omega, by simp [hdn], ?_, by simpa using e1, e2, hblk.far (by simp; omega) _, hbel.setCell (by simp; omega) _⟩
            have hst := (hown.stored j (.int .u8 (((cc : Int) + 10 * (x : Int)) % 256))).1
            refine own_cast hst rfl ?_
            rw [hdrop, show (((cc : Int) + 10 * (x : Int)) % 256) = (((cc + 10 * x) % 256 : Nat) : Int) from by omega]
            subst hdn
            rw [B8_set]
            simp
          case measure => simp [intOf]; omega
        · obtain rfl : j = ds.length := by omega
          have e1 : done = (Pl.mul10 d ds).1 := by have := H1.out; simpa [Pl.mul10] using this
          have e2 : cc = (Pl.mul10 d ds).2 := by have := H2.out; simpa [Pl.mul10] using this
          rw [List.drop_length, List.append_nil] at hown
          have hst := intOf_step s k hlt d HDD.out hd9 ds HDS.out
          have HST := Lib.hid hst
          have HE1 := Lib.hid e1
          have HE2 := Lib.hid e2
          clear hst e1 e2
          by_cases hc0 : 0 < cc
          · have hc1 : (0 : Int) < (cc : Int) := by omega
            go_wp2_with (at_builtin; refine wpList_app1 _ rfl (.tmp 44) (.tmp 47) 91 rfl (w.heap.size + 1) 5 i0 _ 1 Tryz.underlying91 hi hz0 hz1 hz2 rfl _ _ _ rfl hown _ rfl rfl (by omega) (by omega) (Nat.le_trans hblk.lt (Nat.le_refl _)) ?_; intro g1 cap1 w1 hown1 hg1 hat1 hb1)
            go_roundw
            case rel =>
              refine ⟨k + 1, by omega, by go_num, own_cast hown1 ?_ ?_, hblk.grown hg1 ?_, hbel.trans (hb1.mono (by omega))⟩
              · rw [HST.out, Pl.withCarry, if_pos (by rw [← HE2.out]; exact hc0), List.length_append, Pl.mul10_len]; rfl
              · rw [HST.out, Pl.withCarry, if_pos (by rw [← HE2.out]; exact hc0), ← HE1.out, ← HE2.out]; simp [B8]
              · exact (own_blk_ne hown hblk (by decide)).symm
            case measure => simp [intOf]; omega
          · have hc1 : ¬ (0 : Int) < (cc : Int) := by omega
            go_wp2
            go_roundw
            case rel =>
              refine ⟨k + 1, by omega, by go_num, own_cast hown ?_ ?_, hblk, hbel⟩
              · rw [HST.out, Pl.withCarry, if_neg (by rw [← HE2.out]; exact hc0), Pl.mul10_len]
              · rw [HST.out, Pl.withCarry, if_neg (by rw [← HE2.out]; exact hc0), ← HE1.out]
            case measure => simp [intOf]; omega
    · obtain rfl : k = s.size := by omega
      rw [List.take_of_length_le (by rw [len_list]; omega)] at hown ⊢
      have hdl := digs_size s s.size HD.out
      rw [List.take_of_length_le (by rw [len_list]; omega)] at hdl
      obtain ⟨ds, hds⟩ : ∃ ds, Pl.digs 256 (Pl.natAcc 0 s.data.toList) = ds := ⟨_, rfl⟩
      rw [hds] at hown hdl ⊢
      have HDS := Lib.hid hds
      clear hds
      go_wp2_with (at_make; go_must (refine wpList_make_full _ rfl _ _ _ rfl (w.heap.size + 1) 5 i0 _ 1 Tryz.underlying91 hi hz0 hz1 .i64 .i64 _ _ ds.length rfl rfl rfl rfl (by rw [hz2]; omega) (by unfold maxLen; omega) (Nat.le_trans hblk.lt (Nat.le_refl _)) ?_); intro w1 hown1 hg1)
      have hown2 := hown.kept hg1 (by cases (Value.slice A ds.length c).ownBlock <;> simp)
      have hblk2 := hblk.grown hg1 (by simp)
      have hbel2 : Below w.heap.size w w1 := hbel.grown hg1 (by have := hblk.lt; omega) (by simp)
      have hg0 : w.heap.size < wr.heap.size := hblk.lt
      have hsz1 : wr.heap.size < w1.heap.size := by
        obtain ⟨_, h | ⟨g', cap', cur', hv, _, hh, _⟩⟩ := hown1
        · simp at h
        · injection hv with hv; injection hv with hv; injection hv with hv
          subst hv
          exact (Array.getElem?_eq_some_iff.1 hh).1
      have hmag : ∀ j, j < ds.length → ∃ g, A = some ⟨g, 0, none⟩ ∧ g ≠ wr.heap.size ∧ w1.cell? ⟨g, j, none⟩ = some (.int .u8 ((ds[j]! : Nat) : Int)) := by
        intro j hj
        obtain ⟨g, cap, hv, _, hglt⟩ := hown.form (by omega)
        injection hv with hA hn hc
        subst hA
        subst hc
        refine ⟨g, rfl, by omega, ?_⟩
        rw [hown2.cellAt j (by omega), B8_get _ _ hj, getElem!_pos ds j hj]
      have HM := Lib.hid hmag
      clear hmag
      obtain ⟨g0, hg0e⟩ : ∃ g0, wr.heap.size = g0 := ⟨_, rfl⟩
      rw [hg0e] at hown1 hg0 hsz1 HM ⊢
      clear hg0e hg1 hblk hbel hown hown2
      have hstart : B8 (List.replicate (ds.length - 0) 0 ++ (ds.take 0).reverse) = (madeCells (Value.cells (.int .u8 0)) (ds.length * 1)).toList := by
        rw [Nat.mul_one, show Value.cells (.int .u8 0) = #[Value.int .u8 0] from rfl, toList_madeCells_one]
        simp [B8]
      rw [← hstart] at hown1
      clear hstart
      go_loopw [8] (fun kv wx => ∃ j : Nat, j ≤ ds.length ∧ kv = .int .i64 (j : Int) ∧ wx.ownsRow (w.heap.size + 1) 5 1 (.slice (some ⟨g0, 0, none⟩) ds.length ds.length) ds.length (B8 (List.replicate (ds.length - j) 0 ++ (ds.take j).reverse)) ∧ w1.grownBy wx (some g0)) (fun kv _ => ds.length - (intOf kv).toNat)
      case atStart => exact ⟨0, Nat.zero_le _, rfl, hown1, World.grownBy.refl _ _⟩
      case round =>
        obtain ⟨j, hj, rfl, hownx, hgx⟩ := hrel
        by_cases hjl : j < ds.length
        · obtain ⟨g, rfl, hgne, hcell⟩ := HM.out j hjl
          have hcx : wr.cell? ⟨g, j, none⟩ = some (.int .u8 ((ds[j]! : Nat) : Int)) := hgx.cell hcell (by simpa using hgne)
          have hx : ds[j]! ≤ 255 := by rw [getElem!_pos ds j hjl]; have := Pl.digs_lt 256 (Pl.natAcc 0 s.data.toList) (by omega) ds[j] (by rw [HDS.out]; exact List.getElem_mem hjl); omega
          obtain ⟨x, hxe⟩ : ∃ x, ds[j]! = x := ⟨_, rfl⟩
          rw [hxe] at hx hcx
          have HX := Lib.hid hxe
          clear hxe hcell
          have hold : ∃ u, wr.cell? ⟨g0, ds.length - 1 - j, none⟩ = some u := by
            rw [hownx.cellAt (ds.length - 1 - j) (by omega)]
            have : ds.length - 1 - j < (B8 (List.replicate (ds.length - j) 0 ++ (ds.take j).reverse)).length := by rw [B8_len]; simp; omega
            exact ⟨_, List.getElem?_eq_getElem this⟩
          obtain ⟨u, hu⟩ := hold
          have hfro : wr.frozen? ⟨g0, ds.length - 1 - j, none⟩ = false := hownx.frozenAt _
          go_wp2
          go_roundw
          case rel =>
            have hst := hownx.stored (ds.length - 1 - j) (.int .u8 (x : Int))
            refine ⟨j + 1, by omega, by go_num, own_cast hst.1 rfl ?_, hgx.trans hst.2⟩
            rw [rev_set ds.length j x _ hjl, List.take_succ_eq_append_getElem hjl, List.reverse_append]
            have hxx := HX.out
            rw [getElem!_pos ds j hjl] at hxx
            rw [hxx]; rfl
          case measure => simp [intOf]; omega
        · obtain rfl : j = ds.length := by omega
          have hblk3 := hblk2.grown hgx (by simp; omega)
          have hc0 := hblk3.cell 0
          have hc1 := hblk3.cell 1
          have hf0 := hblk3.frozen 0
          have hf1 := hblk3.frozen 1
          simp at hc0 hc1
          rw [List.take_of_length_le (Nat.le_refl _), Nat.sub_self, List.replicate_zero, List.nil_append] at hownx
          have hrd : Rd wr 1 (some ⟨g0, 0, none⟩) ds.length (B8 ds.reverse) := Rd.of_own hownx
          go_wp2_with (refine wpList_conv_S (o := ⟨some 70, .convert 91 9 (.tmp 69), _, _, _, _⟩) wr rfl (.tmp 69) 91 9 5 rfl Tryz.underlying91 Tryz.underlying5 Tryz.underlying9 (some ⟨g0, 0, none⟩) ds.length ds.length ds.reverse rfl hrd ?_)
          have hblk4 := (hblk3.set_ 0 (.bool false)).set_ 1 (.string ⟨(List.map UInt8.ofNat ds).reverse.toArray⟩)
          have hd0 := hblk4.cell 0
          have hd1 := hblk4.cell 1
          simp at hd0 hd1
          refine bodyPost_ret (v := .agg #[.bool false, .string ⟨(List.map UInt8.ofNat ds).reverse.toArray⟩]) (by simp [results, Tryz.results51, go_sem, hd0, hd1]) rfl ⟨?_, ?_⟩
          · rw [Pl.magOf, Pl.natOf, HDS.out, List.map_reverse]
          · exact ((hbel2.trans ((Below.refl w.heap.size w1).grown hgx (by omega) (by simp; omega))).setCell (by simp) _).setCell (by simp) _
end Go.Proofs.YtgfkdjmoflbmdaaGreatDoor
