/- PLAIN; PLAIN; PLAIN; Contracts; PLAIN; Contracts. -/
import Derived.Test.YtgfkdjmoflbmdaaGreatDoorRWhxWj
namespace Go.Proofs.YtgfkdjmoflbmdaaGreatDoor.Pl
def addW (b : Nat) : List Nat → Nat → List Nat × Nat
  | [], y => ([], y)
  | x :: r, y => ((x + y) % b :: (addW b r ((x + y) / b)).1, (addW b r ((x + y) / b)).2)
def subW (b : Nat) : List Nat → Nat → List Nat × Nat
  | [], y => ([], y)
  | x :: r, y => ((b + x - y) % b :: (subW b r (if x < y then 1 else 0)).1, (subW b r (if x < y then 1 else 0)).2)
theorem addW_cons (b x : Nat) (r : List Nat) (y : Nat) : addW b (x :: r) y = ((x + y) % b :: (addW b r ((x + y) / b)).1, (addW b r ((x + y) / b)).2) := rfl
theorem subW_cons (b x : Nat) (r : List Nat) (y : Nat) : subW b (x :: r) y = ((b + x - y) % b :: (subW b r (if x < y then 1 else 0)).1, (subW b r (if x < y then 1 else 0)).2) := rfl
theorem addW_len (b : Nat) : ∀ (l : List Nat) (y : Nat), (addW b l y).1.length = l.length
  | [], _ => rfl
  | x :: r, y => by rw [addW_cons]; simp [addW_len b r]
theorem subW_len (b : Nat) : ∀ (l : List Nat) (y : Nat), (subW b l y).1.length = l.length
  | [], _ => rfl
  | x :: r, y => by rw [subW_cons]; simp [subW_len b r]
theorem addW_zero (b : Nat) : ∀ (l : List Nat), (∀ d ∈ l, d < b) → addW b l 0 = (l, 0)
  | [], _ => rfl
  | x :: r, h => by
    have hx := h x (by simp)
    rw [addW_cons, Nat.add_zero, Nat.mod_eq_of_lt hx, Nat.div_eq_of_lt hx, addW_zero b r (fun d hd => h d (List.mem_cons_of_mem _ hd))]
theorem subW_zero (b : Nat) : ∀ (l : List Nat), (∀ d ∈ l, d < b) → subW b l 0 = (l, 0)
  | [], _ => rfl
  | x :: r, h => by
    have hx := h x (by simp)
    rw [subW_cons, Nat.sub_zero, Nat.add_mod_left, Nat.mod_eq_of_lt hx, if_neg (by omega), subW_zero b r (fun d hd => h d (List.mem_cons_of_mem _ hd))]
theorem addW_lt (b : Nat) (hb : 0 < b) : ∀ (l : List Nat) (y : Nat), ∀ d ∈ (addW b l y).1, d < b
  | [], _, d, h => by simp [addW] at h
  | x :: r, y, d, h => by
    rw [addW_cons] at h
    rcases List.mem_cons.1 h with rfl | h
    · exact Nat.mod_lt _ hb
    · exact addW_lt b hb r _ d h
theorem subW_lt (b : Nat) (hb : 0 < b) : ∀ (l : List Nat) (y : Nat), ∀ d ∈ (subW b l y).1, d < b
  | [], _, d, h => by simp [subW] at h
  | x :: r, y, d, h => by
    rw [subW_cons] at h
    rcases List.mem_cons.1 h with rfl | h
    · exact Nat.mod_lt _ hb
    · exact subW_lt b hb r _ d h
theorem addW_val (b : Nat) : ∀ (l : List Nat) (y : Nat), val b (addW b l y).1 + b ^ l.length * (addW b l y).2 = val b l + y
  | [], y => by simp [addW, val]
  | x :: r, y => by
    have ih := addW_val b r ((x + y) / b)
    rw [addW_cons]
    simp only [val, List.length_cons, Nat.pow_succ]
    have e := Nat.div_add_mod (x + y) b
    have e2 : b * (val b (addW b r ((x + y) / b)).1 + b ^ r.length * (addW b r ((x + y) / b)).2) = b * (val b r + (x + y) / b) := by rw [ih]
    rw [Nat.mul_add, Nat.mul_add] at e2
    have e3 : b ^ r.length * b * (addW b r ((x + y) / b)).2 = b * (b ^ r.length * (addW b r ((x + y) / b)).2) := by rw [Nat.mul_comm (b ^ r.length) b, Nat.mul_assoc]
    omega
theorem sub_one {b x y : Nat} (hx : x < b) (hy : y ≤ b) : (b + x - y) % b + y = x + b * (if x < y then 1 else 0) := by
  by_cases h : x < y
  · rw [if_pos h, Nat.mul_one, Nat.mod_eq_of_lt (by omega)]; omega
  · rw [if_neg h, Nat.mul_zero, Nat.add_zero]
    have e : b + x - y = b + (x - y) := by omega
    rw [e, Nat.add_mod_left, Nat.mod_eq_of_lt (by omega)]; omega
theorem subW_val (b : Nat) (hb : 1 ≤ b) : ∀ (l : List Nat) (y : Nat), (∀ d ∈ l, d < b) → y ≤ b → val b (subW b l y).1 + y = val b l + b ^ l.length * (subW b l y).2
  | [], y, _, _ => by simp [subW, val]
  | x :: r, y, h, hy => by
    have hx := h x (by simp)
    have ih := subW_val b hb r (if x < y then 1 else 0) (fun d hd => h d (List.mem_cons_of_mem _ hd)) (by split <;> omega)
    rw [subW_cons]
    simp only [val, List.length_cons, Nat.pow_succ]
    have e := sub_one hx hy
    have e2 : b * (val b (subW b r (if x < y then 1 else 0)).1 + (if x < y then 1 else 0)) = b * (val b r + b ^ r.length * (subW b r (if x < y then 1 else 0)).2) := by rw [ih]
    rw [Nat.mul_add, Nat.mul_add] at e2
    have e3 : b ^ r.length * b * (subW b r (if x < y then 1 else 0)).2 = b * (b ^ r.length * (subW b r (if x < y then 1 else 0)).2) := by rw [Nat.mul_comm (b ^ r.length) b, Nat.mul_assoc]
    omega
theorem addW_stop {b x : Nat} {r : List Nat} (hx : x + 1 < b) (hr : ∀ d ∈ r, d < b) : addW b (x :: r) 1 = ((x + 1) :: r, 0) := by
  rw [addW_cons, Nat.mod_eq_of_lt hx, Nat.div_eq_of_lt hx, addW_zero b r hr]
theorem addW_on {b : Nat} (hb : 0 < b) (r : List Nat) : addW b ((b - 1) :: r) 1 = (0 :: (addW b r 1).1, (addW b r 1).2) := by
  rw [addW_cons, show b - 1 + 1 = b from by omega, Nat.mod_self, Nat.div_self hb]
theorem subW_stop {b x : Nat} {r : List Nat} (hx : 0 < x) (hxb : x < b) (hr : ∀ d ∈ r, d < b) : subW b (x :: r) 1 = ((x - 1) :: r, 0) := by
  rw [subW_cons, if_neg (by omega), subW_zero b r hr, show b + x - 1 = b + (x - 1) from by omega, Nat.add_mod_left, Nat.mod_eq_of_lt (by omega)]
theorem subW_on {b : Nat} (hb : 1 < b) (r : List Nat) : subW b (0 :: r) 1 = ((b - 1) :: (subW b r 1).1, (subW b r 1).2) := by
  rw [subW_cons, if_pos (by omega), Nat.add_zero, Nat.mod_eq_of_lt (by omega)]
theorem row_val {b lx i d : Nat} {zs xs : List Nat} (hx : xs.length = lx) (hi : i + lx < zs.length) (hz : ∀ e ∈ zs.drop (lx + i), e = 0) :
    val b (zs.take i ++ (addMulV b ((zs.drop i).take lx) xs d 0).1 ++ [(addMulV b ((zs.drop i).take lx) xs d 0).2] ++ zs.drop (lx + i + 1)) = val b zs + b ^ i * (val b xs * d) := by
  have hl : ((zs.drop i).take lx).length = lx := by rw [List.length_take, List.length_drop]; omega
  have h1 := addMulV_val b ((zs.drop i).take lx) xs d 0 (by rw [hl, hx])
  have h2 := addMulV_len b ((zs.drop i).take lx) xs d 0 (by rw [hl, hx])
  rw [hl] at h1 h2
  have hz2 : ∀ e ∈ zs.drop (lx + i + 1), e = 0 := fun e he => hz e (by
    rw [show lx + i + 1 = lx + i + 1 from rfl, ← List.drop_drop] at he
    exact List.mem_of_mem_drop he)
  have h3 := val_append b (zs.take i) (zs.drop i)
  rw [List.take_append_drop] at h3
  have h4 := val_append b ((zs.drop i).take lx) ((zs.drop i).drop lx)
  rw [List.take_append_drop, hl, List.drop_drop, Nat.add_comm i lx, val_zeros b _ hz] at h4
  simp only [Nat.mul_zero, Nat.add_zero] at h4
  have hti : (zs.take i).length = i := by rw [List.length_take]; omega
  rw [List.append_assoc, List.append_assoc, val_append, val_append, hti, h2]
  simp only [List.cons_append, List.nil_append, val]
  rw [val_zeros b _ hz2, h3, hti, h4]
  rw [Nat.mul_zero, Nat.add_zero, h1, Nat.add_zero, Nat.mul_add]
  omega
theorem sq_step {b i d X Z T : Nat} (h : Z + 2 * T = X * X) : (Z + b ^ (2 * i) * (d * d)) + 2 * (T + b ^ i * (X * d)) = (X + b ^ i * d) * (X + b ^ i * d) := by
  have e : b ^ (2 * i) = b ^ i * b ^ i := by rw [← Nat.pow_add]; congr 1; omega
  rw [e, Nat.add_mul, Nat.mul_add, Nat.mul_add, Nat.mul_add, ← h]
  have e1 : b ^ i * b ^ i * (d * d) = b ^ i * d * (b ^ i * d) := by
    rw [Nat.mul_assoc, Nat.mul_assoc]; congr 1
    rw [← Nat.mul_assoc, ← Nat.mul_assoc, Nat.mul_comm d]
  have e2 : X * (b ^ i * d) = b ^ i * (X * d) := by rw [← Nat.mul_assoc, Nat.mul_comm X, Nat.mul_assoc]
  have e3 : b ^ i * d * X = b ^ i * (X * d) := by rw [Nat.mul_assoc, Nat.mul_comm d]
  rw [e1, e2, e3]
  omega
theorem shr_back {S T R : Nat} {l : List Nat} (hS : 0 < S) (h : val (S * T) l = R * S) : val (S * T) (shrV S T l) = R := by
  have h1 := shrV_val (T := T) hS l
  have h2 := Nat.mod_lt (l.headD 0) hS
  rw [h] at h1
  have h3 := congrArg (fun z => z / S) h1
  simp only [Nat.mul_div_cancel _ hS] at h3
  rw [Nat.mul_add_div hS, Nat.div_eq_of_lt h2, Nat.add_zero] at h3
  exact h3.symm
theorem quot_fit {b U V m n : Nat} (hU : U < b ^ (m + n)) (hV : b ^ (n - 1) ≤ V) (hn : 0 < n) (hb : 0 < b) : U / V < b ^ (m + 1) := by
  have hV0 : 0 < V := Nat.lt_of_lt_of_le (Nat.pow_pos hb) hV
  rw [Nat.div_lt_iff_lt_mul hV0]
  refine Nat.lt_of_lt_of_le hU ?_
  rw [show m + n = (m + 1) + (n - 1) from by omega, Nat.pow_add]
  exact Nat.mul_le_mul_left _ hV
theorem top_fit {b U s m n : Nat} {us vs : List Nat} (hn : 0 < n) (hu : us.length = m + 1 + n) (hU : U < b ^ (m + n)) (huv : val b us = U * s) (hs : 2 * s ≤ b) (hs0 : 0 < s) (hv : b ^ n ≤ 2 * val b vs) : val b (us.drop (m + 1)) < val b vs := by
  have h1 := val_take_drop b us (m + 1) (by omega)
  have h2 : val b (us.drop (m + 1)) * b ^ (m + 1) ≤ U * s := by rw [← huv, h1, Nat.mul_comm]; omega
  have h3 : U * s < b ^ (m + n) * s := Nat.mul_lt_mul_of_pos_right hU hs0
  rw [show m + n = (m + 1) + (n - 1) from by omega, Nat.pow_add, Nat.mul_assoc, Nat.mul_comm (b ^ (m + 1))] at h3
  have h4 : val b (us.drop (m + 1)) < b ^ (n - 1) * s := Nat.lt_of_mul_lt_mul_right (Nat.lt_of_le_of_lt h2 h3)
  have h5 : 2 * (b ^ (n - 1) * s) ≤ b ^ n := by
    rw [show n = (n - 1) + 1 from by omega, Nat.pow_succ, Nat.add_sub_cancel, ← Nat.mul_assoc, Nat.mul_comm 2, Nat.mul_assoc]
    exact Nat.mul_le_mul_left _ hs
  omega
theorem val_top_half {b n : Nat} {vs : List Nat} (hl : vs.length = n) (hn : 0 < n) (h : b ≤ 2 * vs.getD (n - 1) 0) : b ^ n ≤ 2 * val b vs := by
  have h1 := val_take_drop b vs (n - 1) (by omega)
  have e : vs.drop (n - 1) = [vs.getD (n - 1) 0] := by
    rw [List.drop_eq_getElem_cons (by omega), List.drop_of_length_le (by omega)]
    simp [List.getD_eq_getElem?_getD, show n - 1 < vs.length from by omega]
  rw [e] at h1
  simp only [val, Nat.mul_zero, Nat.add_zero] at h1
  have h2 := Nat.mul_le_mul_left (b ^ (n - 1)) h
  rw [← Nat.pow_succ, show (n - 1).succ = n from by omega] at h2
  have h3 : b ^ (n - 1) * (2 * vs.getD (n - 1) 0) = 2 * (b ^ (n - 1) * vs.getD (n - 1) 0) := by rw [← Nat.mul_assoc, Nat.mul_comm _ 2, Nat.mul_assoc]
  omega
def Scan (t : Bytes) (k : Nat) (N : List Nat) : Prop :=
  ∃ ns cur, Read t k ns cur false ∧ N = (if cur = [] then ns else ns ++ [natOf cur]) ∧ (cur ≠ [] → ∀ c, t[k]? = some c → isDig c = false)
theorem Scan.start (t : Bytes) : Scan t 0 [] := ⟨[], [], Read.start t, rfl, fun h => absurd rfl h⟩
theorem Scan.dot {t : Bytes} {k : Nat} {N : List Nat} (h : Scan t k N) (hc : t[k]? = some 46) : Scan t (k + 1) N := by
  obtain ⟨ns, cur, h1, h2, _⟩ := h
  exact ⟨_, [], h1.dot hc, by rw [h2]; rfl, fun h => absurd rfl h⟩
theorem Read.run {t : Bytes} {k : Nat} {ns : List Nat} (h : Read t k ns [] false) : ∀ (m : Nat), (∀ i, i < m → ∃ c, t[k + i]? = some c ∧ isDig c = true) → Read t (k + m) ns ((t.drop k).take m) false
  | 0, _ => by simpa using h
  | m + 1, hd => by
    obtain ⟨c, hc, hg⟩ := hd m (by omega)
    have ih := Read.run h m (fun i hi => hd i (by omega))
    have := ih.dig hc hg
    rw [take_at (t := t.drop k) (k := m) (c := c) (by rw [List.getElem?_drop]; exact hc)]
    exact this
theorem Scan.run {t : Bytes} {k m : Nat} {N : List Nat} (h : Scan t k N) (hm : 0 < m) (hd : ∀ i, i < m → ∃ c, t[k + i]? = some c ∧ isDig c = true) (he : ∀ c, t[k + m]? = some c → isDig c = false) :
    Scan t (k + m) (N ++ [natOf ((t.drop k).take m)]) := by
  obtain ⟨ns, cur, h1, h2, h3⟩ := h
  have hc0 : cur = [] := by
    by_cases e : cur = []
    · exact e
    · obtain ⟨c, hc, hg⟩ := hd 0 hm
      rw [h3 e c hc] at hg
      cases hg
  subst hc0
  have hr := h1.run m hd
  have hne : (t.drop k).take m ≠ [] := by
    obtain ⟨c, hc, _⟩ := hd 0 hm
    intro e
    have := congrArg List.length e
    have hk := (List.getElem?_eq_some_iff.1 hc).1
    rw [List.length_take, List.length_drop] at this
    simp at this
    omega
  refine ⟨ns, (t.drop k).take m, hr, ?_, fun _ => he⟩
  rw [if_neg hne, h2]
  rfl
theorem Read.fin {l t : Bytes} {k : Nat} {ns : List Nat} {cur : Bytes} (ht : t = restV l) (h : Read t k ns cur true) : numsOf l = ns := by
  rcases h with ⟨h, _⟩ | ⟨_, m, _, h2, h3, h4, _⟩
  · cases h
  · obtain ⟨w1, _⟩ := while_at t m h2 (Or.inr h3)
    rw [numsOf_eq, coreOf, ← ht, w1, h4]
theorem Scan.stop {l t : Bytes} {k : Nat} {N : List Nat} (ht : t = restV l) (h : Scan t k N) (he : k = t.length ∨ ∃ c, t[k]? = some c ∧ coreB c = false) : numsOf l = N := by
  obtain ⟨ns, cur, h1, h2, _⟩ := h
  rcases he with rfl | ⟨c, hc, hb⟩
  · rw [(h1.done ht).1, h2]
  · rw [(h1.build hc hb).fin ht, h2]
theorem Scan.count {t : Bytes} {k : Nat} {N : List Nat} (h : Scan t k N) : N.length ≤ t.length + 2 := by
  obtain ⟨ns, cur, h1, h2, _⟩ := h
  have := h1.count
  rw [h2]
  split
  · omega
  · rw [List.length_append, List.length_singleton]; omega
theorem leaf_digit (m j : Nat) (h : j < 19) : m % 10 ^ 19 / 10 ^ j % 10 = m / 10 ^ j % 10 := by
  have e : (10 : Nat) ^ 19 = 10 ^ j * 10 ^ (19 - j) := by rw [← Nat.pow_add]; congr 1; omega
  rw [e, Nat.mod_mul_right_div_self]
  exact Nat.mod_mod_of_dvd _ ⟨10 ^ (19 - j - 1), by rw [← Nat.pow_succ']; congr 1; omega⟩
theorem div_pow (n a b : Nat) : n / 10 ^ a / 10 ^ b = n / 10 ^ (a + b) := by rw [Nat.div_div_eq_div_mul, ← Nat.pow_add]
theorem dec_pad (k n : Nat) (h : n / 10 ^ k = 0) : dec (k + 1) n = 48 :: dec k n := by rw [dec_cons, h]
end Go.Proofs.YtgfkdjmoflbmdaaGreatDoor.Pl
namespace Go.Proofs.YtgfkdjmoflbmdaaGreatDoor
open Go.RowKit
open Go.Proofs
namespace Pl
end Pl
def LBlk (w wx : World) (v : Bool) (A : Option Addr) (ns : List Nat) (c : Nat) (bd og : ByteArray) : Prop :=
  Blk wx w.heap.size 27 #[.bool v, .slice A ns.length c, .string bd, .string og] ∧ Rd wx 2 A ns.length (IntC ns) ∧ Below w.heap.size w wx
theorem LBlk.cells {w wx : World} {v : Bool} {A : Option Addr} {ns : List Nat} {c : Nat} {bd og : ByteArray} (h : LBlk w wx v A ns c bd og) :
    wx.cell? ⟨w.heap.size, 1, none⟩ = some (.slice A ns.length c) ∧ wx.cell? ⟨w.heap.size, 2, none⟩ = some (.string bd) := ⟨by simpa using h.1.cell 1, by simpa using h.1.cell 2⟩
theorem LBlk.below {w wx w1 : World} {v : Bool} {A : Option Addr} {ns : List Nat} {c : Nat} {bd og : ByteArray} (h : LBlk w wx v A ns c bd og) (hb : Below wx.heap.size wx w1) : LBlk w w1 v A ns c bd og :=
  ⟨h.1.below hb h.1.lt, h.2.1.below hb, h.2.2.trans (hb.mono h.2.2.size)⟩
end Go.Proofs.YtgfkdjmoflbmdaaGreatDoor
namespace Go.Proofs.YtgfkdjmoflbmdaaGreatDoor.Pl
def keptN (k : Nat) (l : Bytes) : List Nat := (numsOf l).take k
def semM (k : Nat) (a b : Bytes) : Int := if cmpNums (keptN k a) (keptN k b) ≠ 0 then cmpNums (keptN k a) (keptN k b) else builds (keptB k a) (keptB k b)
def pubM (k : Nat) (a b : Bytes) : Int := pubOrd (keptN k a) (keptN k b) (keptB k a) (keptB k b)
def nugM (k : Nat) (a b : Bytes) : Int := nugetOrd (keptN k a) (keptN k b) (keptB k a) (keptB k b)
theorem semM_ord (k : Nat) : Ord3 (semM k) := (cmpNums_ord.pull (keptN k)).lex (builds_ord.pull (keptB k))
theorem nugM_ord (k : Nat) : Ord3 (nugM k) := (cmpNums_ord.pull (keptN k)).lex (builds_ord.pull fun a : Bytes => lower (keptB k a))
theorem pubM_ord (k : Nat) : Ord3 (pubM k) := (cmpNums_ord.pull (keptN k)).lex ((builds_ord.pull (keptB k)).lex (ordB_ord.pull fun a : Bytes => metaOf (keptB k a)))
def turnedB (x y : Int) : Bool := x == -y && (decide (-1 ≤ x) && decide (x ≤ 1))
theorem Ord3.turned {α : Type} {f : α → α → Int} (h : Ord3 f) (a b : α) : turnedB (f a b) (f b a) = true := by
  have h1 := h.three a b
  have h2 := h.anti a b
  simp only [turnedB, Bool.and_eq_true, beq_iff_eq, decide_eq_true_eq]
  omega
def vo (l : Bytes) : Nat := if startsV l = true then 1 else 0
theorem restV_drop (l : Bytes) : restV l = l.drop (vo l) := by
  rcases l with _ | ⟨c, r⟩
  · simp [restV]
  · unfold vo startsV restV
    by_cases h : c = 118
    · simp [h]
    · simp [h]
theorem restV_at (l : Bytes) (i : Nat) : (restV l)[i]? = l[i + vo l]? := by
  rw [restV_drop, List.getElem?_drop, Nat.add_comm]
end Go.Proofs.YtgfkdjmoflbmdaaGreatDoor.Pl
namespace Go.Proofs.YtgfkdjmoflbmdaaGreatDoor
open Go.RowKit
open Go.Proofs
theorem keep1_zero {r : Pl.Bytes} (_h : r ≠ []) : Pl.keep1 (48 :: r) = Pl.keep1 r := by
  unfold Pl.keep1
  simp [Pl.stripZ]
theorem keep1_other {c : UInt8} {r : Pl.Bytes} (h : c ≠ 48) : Pl.keep1 (c :: r) = c :: r := by
  unfold Pl.keep1
  simp [Pl.stripZ, h]
theorem keep1_one (c : UInt8) : Pl.keep1 [c] = [c] := by
  by_cases h : c = 48
  · subst h; rfl
  · exact keep1_other h
set_option maxRecDepth 100000 in
theorem textDigits_any (s : ByteArray) (w : World) (hs : s.size ≤ 30000) (h0 : 0 < s.size) :
    Calls Tryz.prog 94 #[.string s] w fun e w' => e = .returned (S (Pl.keep1 s.data.toList)) ∧ w = w' := by
  go_enter Tryz.func94, Tryz.ntmps94
  go_wp2_with fail
  go_loopw [0] (fun sv wr => ∃ t : ByteArray, sv = .string t ∧ 0 < t.size ∧ t.size ≤ 30000 ∧ Pl.keep1 t.data.toList = Pl.keep1 s.data.toList ∧ w = wr) (fun sv _ => strLen sv)
  case atStart => exact ⟨s, rfl, h0, hs, rfl, rfl⟩
  case round =>
    obtain ⟨t, rfl, ht0, hts, hk, rfl⟩ := hrel
    have hl := list_cons t ht0
    have HK := Lib.hid hk
    have HLC := Lib.hid hl
    clear hk hl
    by_cases h1 : 1 < t.size
    · have h1z : (1 : Int) < (t.size : Int) := by omega
      by_cases hc : ((t[0].toNat : Int) == 48) = true
      · have hc8 : t[0] = 48 := by rw [beq_iff_eq] at hc; exact UInt8.toNat_inj.1 (by rw [show (48 : UInt8).toNat = 48 from rfl]; omega)
        have HC8 := Lib.hid hc8
        clear hc8
        go_wp2
        go_roundw
        case rel =>
          refine ⟨t.extract 1 t.size, rfl, by rw [ByteArray.size_extract]; omega, by rw [ByteArray.size_extract]; omega, ?_, trivial⟩
          rw [← HK.out]
          have e1 : t.data.toList = 48 :: (t.extract 1 t.size).data.toList := by rw [HLC.out, HC8.out]
          rw [e1, keep1_zero]
          intro e
          have := congrArg List.length e
          rw [len_list, ByteArray.size_extract] at this
          simp at this
          omega
        case measure => simp [strLen, ByteArray.size_extract]; omega
      · have hc1 : ((t[0].toNat : Int) == 48) = false := by simpa using hc
        have hc8 : t[0] ≠ 48 := by
          rw [beq_eq_false_iff_ne] at hc1
          intro e; apply hc1; rw [e]; rfl
        have HC8 := Lib.hid hc8
        have HE := Lib.hid (show Value.string t = S (Pl.keep1 s.data.toList) by rw [← HK.out, HLC.out, keep1_other HC8.out, ← HLC.out])
        clear hc hc8
        go_wp2
        go_ret
        exact ⟨congrArg Ending.returned HE.out, rfl⟩
    · have h1z : ¬ (1 : Int) < (t.size : Int) := by omega
      have e1 : ∃ c, t.data.toList = [c] := List.length_eq_one_iff.1 (by rw [len_list]; omega)
      have HE : Hid (Value.string t = S (Pl.keep1 s.data.toList)) := Lib.hid (by obtain ⟨c, e1⟩ := e1; rw [← HK.out, e1, keep1_one, ← e1])
      clear e1
      go_wp2
      go_ret
      exact ⟨congrArg Ending.returned HE.out, rfl⟩
theorem turned_any (a b : Int) (w : World) (hb : -1 ≤ b ∧ b ≤ 1) : Calls Tryz.prog 22 #[.int .i64 a, .int .i64 b] w fun e w' => e = .returned (.bool (Pl.turnedB a b)) ∧ w = w' := by
  obtain ⟨n, hn⟩ : ∃ n, -b = n := ⟨_, rfl⟩
  have i1 : IntKind.i64.wrap (-b) = n := by rw [IntWalk.i64_in _ (by omega)]; exact hn
  have hr : Pl.turnedB a b = (a == n && (decide (-1 ≤ a) && decide (a ≤ 1))) := by rw [← hn]; rfl
  have HR := Lib.hid hr
  clear hr hn hb
  by_cases h1 : (a == n) = true
  · by_cases h2 : -1 ≤ a
    · by_cases h3 : a ≤ 1
      · go_enter Tryz.func22, Tryz.ntmps22
        go_wp2
        go_ret
        exact ⟨ret_bool (by rw [HR.out, h1]; simp; omega), rfl⟩
      · go_enter Tryz.func22, Tryz.ntmps22
        go_wp2
        go_ret
        exact ⟨ret_bool (by rw [HR.out, h1]; simp; omega), rfl⟩
    · go_enter Tryz.func22, Tryz.ntmps22
      go_wp2
      go_ret
      exact ⟨ret_bool (by rw [HR.out, h1]; simp; omega), rfl⟩
  · have h1z : (a == n) = false := by simpa using h1
    clear h1
    go_enter Tryz.func22, Tryz.ntmps22
    go_wp2
    go_ret
    exact ⟨ret_bool (by rw [HR.out, h1z]; simp), rfl⟩
structure Lk where
  v : Bool
  A : Option Addr
  ns : List Nat
  c : Nat
  bd : ByteArray
  og : ByteArray
def Lk.cells (l : Lk) : List Value := [.bool l.v, .slice l.A l.ns.length l.c, .string l.bd, .string l.og]
def Lk.Ok (w : World) (l : Lk) : Prop := Rd w 2 l.A l.ns.length (IntC l.ns) ∧ Pl.Fits l.ns ∧ l.bd.size ≤ 30000 ∧ l.og.size ≤ 30000
theorem Lk.Ok.below {w w' : World} {l : Lk} (h : l.Ok w) (hb : Below w.heap.size w w') : l.Ok w' := ⟨h.1.below hb, h.2⟩
theorem Rd.of_blk {w : World} {g : Nat} {t : TypeId} {cs : Array Value} (h : Blk w g t cs) (size n : Nat) (hs : cs.size = n * size) : Rd w size (some ⟨g, 0, none⟩) n cs.toList := by
  refine ⟨by simpa using hs, fun _ => ⟨g, 0, rfl, fun j u hu => ?_⟩⟩
  rw [Nat.zero_add, h.cell j]
  simpa using hu
end Go.Proofs.YtgfkdjmoflbmdaaGreatDoor
