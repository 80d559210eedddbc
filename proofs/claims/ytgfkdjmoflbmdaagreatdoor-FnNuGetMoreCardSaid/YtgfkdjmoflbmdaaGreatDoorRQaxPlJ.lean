/- Words in the middle of a row; PLAIN; PLAIN; PLAIN; Contracts; PLAIN. -/
import Derived.Test.YtgfkdjmoflbmdaaGreatDoorRWtxPlH
namespace Go.Proofs.YtgfkdjmoflbmdaaGreatDoor
open Go.RowKit
open Go.Proofs
def splice (l : List Value) (o : Nat) (zs : List Value) : List Value := l.take o ++ zs ++ l.drop (o + zs.length)
section
variable {l zs : List Value} {o : Nat}
theorem splice_nil (l : List Value) (o : Nat) : splice l o [] = l := by simp [splice]
theorem splice_len (h : o + zs.length ≤ l.length) : (splice l o zs).length = l.length := by simp [splice]; omega
theorem splice_ge (h : o + zs.length ≤ l.length) {j : Nat} (hj : o + zs.length ≤ j) : (splice l o zs)[j]? = l[j]? := by
  unfold splice
  rw [List.getElem?_append_right (by simp; omega), List.getElem?_drop]
  congr 1
  simp; omega
theorem splice_lt (h : o ≤ l.length) {j : Nat} (hj : j < o) : (splice l o zs)[j]? = l[j]? := by
  unfold splice
  rw [List.append_assoc, List.getElem?_append_left (by simp; omega), List.getElem?_take, if_pos hj]
theorem splice_in (h : o ≤ l.length) {i : Nat} (hi : i < zs.length) : (splice l o zs)[o + i]? = zs[i]? := by
  unfold splice
  rw [List.append_assoc, List.getElem?_append_right (by simp; omega), List.getElem?_append_left (by simp; omega)]
  congr 1
  simp; omega
theorem splice_up (h : o + zs.length < l.length) (u : Value) : (splice l o zs).toArray.setIfInBounds (o + zs.length) u = (splice l o (zs ++ [u])).toArray := by
  have e : l.drop (o + zs.length) = l[o + zs.length] :: l.drop (o + zs.length + 1) := List.drop_eq_getElem_cons h
  have hl : (l.take o ++ zs).length = o + zs.length := by simp; omega
  unfold splice
  rw [e]
  simp only [List.setIfInBounds_toArray]
  congr 1
  rw [List.set_append_right _ _ (by omega), show o + zs.length - (l.take o ++ zs).length = 0 from by omega]
  simp [List.set, Nat.add_assoc]
theorem splice_down {k : Nat} (h : k + 1 + zs.length ≤ l.length) (u : Value) : (splice l (k + 1) zs).toArray.setIfInBounds k u = (splice l k (u :: zs)).toArray := by
  unfold splice
  simp only [List.setIfInBounds_toArray]
  congr 1
  rw [List.append_assoc, List.set_append_left _ _ (by simp; omega), List.take_succ_eq_append_getElem (by omega), List.set_append_right _ _ (by simp; omega)]
  simp only [List.length_take, show k - min k l.length = 0 from by omega, List.set, List.append_assoc, List.cons_append, List.nil_append, List.length_cons]
  rw [show k + (zs.length + 1) = k + 1 + zs.length from by omega]
end
def WAt (w : World) (b o : Nat) (ws : List Nat) : Prop := ∀ j (h : j < ws.length), w.cell? ⟨b, o + j, none⟩ = some (.int .u64 ((ws[j] : Nat) : Int))
structure Src (w : World) (b o n bx ox : Nat) (xs : List Nat) : Prop where
  at_ : WAt w bx ox xs
  off : bx ≠ b ∨ o ≤ ox ∨ ox + xs.length ≤ o
theorem Src.read {w wr : World} {b o n bx ox : Nat} {xs : List Nat} {l zs : List Value} (h : Src w b o n bx ox xs) (hB : Blk w b 179 l.toArray) (hB' : Blk wr b 179 (splice l o zs).toArray) (hg : w.grownBy wr (some b)) (hz : o + zs.length ≤ l.length)
    {k : Nat} (hk : k < xs.length) (hzk : zs.length ≤ k) : wr.cell? ⟨bx, ox + k, none⟩ = some (.int .u64 ((xs[k] : Nat) : Int)) := by
  have h0 := h.at_ k hk
  by_cases hb : bx = b
  · subst hb
    rw [hB'.cell (ox + k)]
    rw [hB.cell (ox + k)] at h0
    have hoff : o ≤ ox ∨ ox + xs.length ≤ o := by
      rcases h.off with h | h | h
      · exact absurd rfl h
      · exact Or.inl h
      · exact Or.inr h
    rcases hoff with h1 | h1
    · simp only [List.getElem?_toArray] at h0 ⊢
      rw [splice_ge hz (by omega)]; exact h0
    · simp only [List.getElem?_toArray] at h0 ⊢
      rw [splice_lt (by omega) (by omega)]; exact h0
  · exact (World.cell?_of_block (hg.block bx (World.block_lt_of_cell? w _ h0) (by simpa using hb))).trans h0
def sub64Entry : Array Value → Sem Value := fun args => do
  let (x, y, c) ← Extern.MathBitsCarry.three "Sub64" args
  pure (Extern.MathBitsCarry.pair ((x + Extern.MathBitsCarry.m64 - y - c) % Extern.MathBitsCarry.m64) (if x < y + c then 1 else 0))
theorem run_sub64 {P : Program} (x y c : Nat) (hc : c ≤ 1) (w : World) :
    (sub64Entry #[.int .u64 (x : Int), .int .u64 (y : Int), .int .u64 (c : Int)]).run P w =
      .ok (.tuple #[.int .u64 (((M + x - y - c) % M : Nat) : Int), .int .u64 ((if x < y + c then 1 else 0 : Nat) : Int)]) w := by
  have : c = 0 ∨ c = 1 := by omega
  rw [show M + x - y - c = x + M - y - c from by omega]
  rcases this with rfl | rfl <;> rfl
theorem sub64_run (x y c : Nat) (hc : c ≤ 1) (w : World) : (callFunc 288 #[.int .u64 (x : Int), .int .u64 (y : Int), .int .u64 (c : Int)]).run Tryz.prog w =
    .ok (.value (.tuple #[.int .u64 (((M + x - y - c) % M : Nat) : Int), .int .u64 ((if x < y + c then 1 else 0 : Nat) : Int)])) w := by
  rw [run_callFunc_extern (f := 288) (fn := Tryz.f288) (by kernel_rfl) (by kernel_rfl) (by kernel_rfl) (by kernel_rfl) (e := sub64Entry) (by kernel_rfl), run_sub64 x y c hc]
  simp [Result.andThen]
theorem Sub_any (x y c : Nat) (hc : c ≤ 1) (w : World) :
    Calls Tryz.prog 277 #[.int .u64 (x : Int), .int .u64 (y : Int), .int .u64 (c : Int)] w fun e w' => e = .returned (.tuple #[.int .u64 (((M + x - y - c) % M : Nat) : Int), .int .u64 ((if x < y + c then 1 else 0 : Nat) : Int)]) ∧ w = w' := by
  have hrun := sub64_run x y c hc
  obtain ⟨r, hr⟩ : ∃ r : Nat, (M + x - y - c) % M = r := ⟨_, rfl⟩
  obtain ⟨q, hq⟩ : ∃ q : Nat, (if x < y + c then 1 else 0 : Nat) = q := ⟨_, rfl⟩
  rw [hr, hq] at hrun ⊢
  clear hr hq
  go_enter Tryz.func277, Tryz.ntmps277
  go_wp2_with (first | simp only [hrun])
  exact bodyPost_ret (v := .tuple #[.int .u64 (r : Int), .int .u64 (q : Int)]) (by simp [results, Tryz.results277, go_sem]) rfl ⟨rfl, rfl⟩
theorem add64_run (x y c : Nat) (hc : c ≤ 1) (w : World) : (callFunc 279 #[.int .u64 (x : Int), .int .u64 (y : Int), .int .u64 (c : Int)]).run Tryz.prog w =
    .ok (.value (.tuple #[.int .u64 (((x + y + c) % M : Nat) : Int), .int .u64 (((x + y + c) / M : Nat) : Int)])) w := by
  rw [run_callFunc_extern (f := 279) (fn := Tryz.f279) (by kernel_rfl) (by kernel_rfl) (by kernel_rfl) (by kernel_rfl) (e := add64Entry) (by kernel_rfl), run_add64 (x : Int) (y : Int) (c : Int) (by omega) (by omega) (by omega) (by omega)]
  simp only [Result.andThen]
  rw [M_eq]
  rfl
theorem AddC_any (x y c : Nat) (hc : c ≤ 1) (w : World) :
    Calls Tryz.prog 244 #[.int .u64 (x : Int), .int .u64 (y : Int), .int .u64 (c : Int)] w fun e w' => e = .returned (.tuple #[.int .u64 (((x + y + c) % M : Nat) : Int), .int .u64 (((x + y + c) / M : Nat) : Int)]) ∧ w = w' := by
  have hrun := add64_run x y c hc
  obtain ⟨r, hr⟩ : ∃ r : Nat, (x + y + c) % M = r := ⟨_, rfl⟩
  obtain ⟨q, hq⟩ : ∃ q : Nat, (x + y + c) / M = q := ⟨_, rfl⟩
  rw [hr, hq] at hrun ⊢
  clear hr hq
  go_enter Tryz.func244, Tryz.ntmps244
  go_wp2_with (first | simp only [hrun])
  exact bodyPost_ret (v := .tuple #[.int .u64 (r : Int), .int .u64 (q : Int)]) (by simp [results, Tryz.results244, go_sem]) rfl ⟨rfl, rfl⟩
end Go.Proofs.YtgfkdjmoflbmdaaGreatDoor
namespace Go.Proofs.YtgfkdjmoflbmdaaGreatDoor.Pl
def shlV (S T : Nat) : List Nat → Nat → List Nat
  | [], _ => []
  | x :: r, c => ((x % T) * S + c) :: shlV S T r (x / T)
def shlO (T : Nat) : List Nat → Nat → Nat
  | [], c => c
  | x :: r, _ => shlO T r (x / T)
theorem shlV_len (S T : Nat) : ∀ (l : List Nat) (c : Nat), (shlV S T l c).length = l.length
  | [], _ => rfl
  | x :: r, c => by simp [shlV, shlV_len S T r]
theorem shlV_at {S T : Nat} {l : List Nat} {k : Nat} (hk : k < l.length) (c : Nat) : shlV S T (l.drop k) c = ((l[k] % T) * S + c) :: shlV S T (l.drop (k + 1)) (l[k] / T) := by
  rw [List.drop_eq_getElem_cons hk]; rfl
theorem shlV_drop (S T : Nat) : ∀ (l : List Nat) (c k : Nat), (shlV S T l c).drop k = shlV S T (l.drop k) (if k = 0 then c else (l.getD (k - 1) 0) / T)
  | [], c, k => by simp [shlV]
  | x :: r, c, 0 => by simp
  | x :: r, c, k + 1 => by
    rw [shlV, List.drop_succ_cons, shlV_drop S T r (x / T) k, List.drop_succ_cons]
    cases k with
    | zero => simp
    | succ k => simp
theorem shlV_step {S T : Nat} {l : List Nat} {c k : Nat} (hk : k < l.length) : (shlV S T l c).drop k = ((l[k] % T) * S + (if k = 0 then c else (l.getD (k - 1) 0) / T)) :: (shlV S T l c).drop (k + 1) := by
  rw [shlV_drop, shlV_at hk, shlV_drop S T l c (k + 1)]
  simp [List.getD_eq_getElem?_getD, hk]
theorem shlO_last (T : Nat) : ∀ (l : List Nat) (c : Nat) (h : 0 < l.length), shlO T l c = l[l.length - 1] / T
  | [x], c, _ => rfl
  | x :: y :: r, c, _ => by
    rw [shlO, shlO_last T (y :: r) _ (by simp)]
    simp
theorem shlV_lt {S T : Nat} : ∀ (l : List Nat) (c : Nat), c < S → 0 < T → (∀ d ∈ l, d < S * T) → ∀ d ∈ shlV S T l c, d < S * T
  | [], _, _, _, _, d, h => by simp [shlV] at h
  | x :: r, c, hc, hT, hl, d, h => by
    have hx := hl x (by simp)
    rw [shlV] at h
    rcases List.mem_cons.1 h with rfl | h
    · have h1 : x % T ≤ T - 1 := by have := Nat.mod_lt x hT; omega
      have h2 : (x % T) * S ≤ (T - 1) * S := Nat.mul_le_mul_right _ h1
      have h3 : (T - 1) * S + S = S * T := by
        obtain ⟨t, rfl⟩ : ∃ t, T = t + 1 := ⟨T - 1, by omega⟩
        simp only [Nat.add_sub_cancel]
        rw [Nat.mul_add, Nat.mul_one, Nat.mul_comm]
      omega
    · exact shlV_lt r (x / T) (by rw [Nat.div_lt_iff_lt_mul hT]; exact hx) hT (fun d hd => hl d (List.mem_cons_of_mem _ hd)) d h
theorem shlV_val (S T : Nat) : ∀ (l : List Nat) (c : Nat), val (S * T) (shlV S T l c) + (S * T) ^ l.length * shlO T l c = val (S * T) l * S + c
  | [], c => by simp [shlV, shlO, val]
  | x :: r, c => by
    have ih := shlV_val S T r (x / T)
    simp only [shlV, shlO, val, List.length_cons, Nat.pow_succ]
    have e1 : x % T + T * (x / T) = x := Nat.mod_add_div _ _
    have e2 : (S * T) ^ r.length * (S * T) * shlO T r (x / T) = (S * T) * ((S * T) ^ r.length * shlO T r (x / T)) := by rw [Nat.mul_comm ((S * T) ^ r.length), Nat.mul_assoc]
    rw [e2]
    have e3 := congrArg ((S * T) * ·) ih
    simp only [Nat.mul_add] at e3
    have e4 : (x + S * T * val (S * T) r) * S = x * S + S * T * (val (S * T) r * S) := by rw [Nat.add_mul, Nat.mul_assoc]
    have e5 : x * S = (x % T) * S + S * T * (x / T) := by
      rw [show (x % T) * S + S * T * (x / T) = (x % T + T * (x / T)) * S from by rw [Nat.add_mul, Nat.mul_assoc S, Nat.mul_comm S], e1]
    rw [e4]
    omega
def shrV (S T : Nat) : List Nat → List Nat
  | [] => []
  | [x] => [x / S]
  | x :: y :: r => (x / S + (y % S) * T) :: shrV S T (y :: r)
theorem shrV_len (S T : Nat) : ∀ (l : List Nat), (shrV S T l).length = l.length
  | [] => rfl
  | [x] => rfl
  | x :: y :: r => by simp [shrV, shrV_len S T (y :: r)]
theorem shrV_at {S T : Nat} {l : List Nat} {k : Nat} (hk : k + 1 < l.length) : shrV S T (l.drop k) = (l[k] / S + (l[k + 1] % S) * T) :: shrV S T (l.drop (k + 1)) := by
  rw [List.drop_eq_getElem_cons (by omega : k < l.length), List.drop_eq_getElem_cons hk, shrV]
theorem shrV_end {S T : Nat} {l : List Nat} {k : Nat} (hk : k + 1 = l.length) : shrV S T (l.drop k) = [l[k] / S] := by
  rw [List.drop_eq_getElem_cons (by omega : k < l.length), List.drop_of_length_le (by omega), shrV]
theorem shrV_drop (S T : Nat) : ∀ (l : List Nat) (k : Nat), (shrV S T l).drop k = shrV S T (l.drop k)
  | [], k => by simp [shrV]
  | [x], 0 => rfl
  | [x], k + 1 => by simp [shrV]
  | x :: y :: r, 0 => rfl
  | x :: y :: r, k + 1 => by
    rw [shrV, List.drop_succ_cons, List.drop_succ_cons]
    exact shrV_drop S T (y :: r) k
theorem shrV_get {S T : Nat} {l : List Nat} {k : Nat} (hk : k + 1 < l.length) : (shrV S T l).take (k + 1) = (shrV S T l).take k ++ [l[k] / S + (l[k + 1] % S) * T] := by
  have h := shrV_drop S T l k
  rw [shrV_at hk] at h
  have hl := shrV_len S T l
  rw [List.drop_eq_getElem_cons (by omega : k < (shrV S T l).length)] at h
  injection h with h _
  rw [List.take_succ_eq_append_getElem (by omega), h]
theorem shrV_top {S T : Nat} {l : List Nat} {k : Nat} (hk : k + 1 = l.length) : shrV S T l = (shrV S T l).take k ++ [l[k] / S] := by
  have h := shrV_drop S T l k
  rw [shrV_end hk] at h
  conv => lhs; rw [← List.take_append_drop k (shrV S T l), h]
theorem shrV_val {S T : Nat} (hS : 0 < S) : ∀ (l : List Nat), val (S * T) l = S * val (S * T) (shrV S T l) + (l.headD 0) % S
  | [] => by simp [shrV, val]
  | [x] => by
    simp only [shrV, val, List.headD_cons, Nat.mul_zero, Nat.add_zero]
    have := Nat.mod_add_div x S
    omega
  | x :: y :: r => by
    have ih := shrV_val (T := T) hS (y :: r)
    have hu : val (S * T) (x :: y :: r) = x + S * T * val (S * T) (y :: r) := rfl
    rw [hu, ih]
    simp only [shrV, List.headD_cons]
    show x + S * T * (S * val (S * T) (shrV S T (y :: r)) + y % S) = S * ((x / S + (y % S) * T) + S * T * val (S * T) (shrV S T (y :: r))) + x % S
    have e1 := Nat.mod_add_div x S
    generalize val (S * T) (shrV S T (y :: r)) = V
    generalize y % S = m
    simp only [Nat.mul_add]
    have e2 : S * T * (S * V) = S * (S * T * V) := by rw [Nat.mul_left_comm]
    have e3 : S * T * m = S * (m * T) := by rw [Nat.mul_assoc, Nat.mul_comm T]
    rw [e2, e3]
    omega
theorem shrV_lt {S T : Nat} (hS : 0 < S) (hT : 0 < T) : ∀ (l : List Nat), (∀ d ∈ l, d < S * T) → ∀ d ∈ shrV S T l, d < S * T
  | [], _, d, h => by simp [shrV] at h
  | [x], hl, d, h => by
    simp only [shrV, List.mem_singleton] at h
    subst h
    exact Nat.lt_of_le_of_lt (Nat.div_le_self _ _) (hl x (by simp))
  | x :: y :: r, hl, d, h => by
    rw [shrV] at h
    rcases List.mem_cons.1 h with rfl | h
    · have h1 : x / S ≤ T - 1 := by
        have : x / S < T := by rw [Nat.div_lt_iff_lt_mul hS, Nat.mul_comm]; exact hl x (by simp)
        omega
      have h2 : (y % S) * T ≤ (S - 1) * T := Nat.mul_le_mul_right _ (by have := Nat.mod_lt y hS; omega)
      have h3 : (S - 1) * T + T = S * T := by
        obtain ⟨t, rfl⟩ : ∃ t, S = t + 1 := ⟨S - 1, by omega⟩
        simp only [Nat.add_sub_cancel]
        rw [Nat.add_mul, Nat.one_mul]
      omega
    · exact shrV_lt hS hT (y :: r) (fun d hd => hl d (List.mem_cons_of_mem _ hd)) d h
def div10 : List Nat → Nat → List Nat × Nat
  | [], r => ([], r)
  | x :: l, r => ((r * 256 + x) / 10 :: (div10 l ((r * 256 + x) % 10)).1, (div10 l ((r * 256 + x) % 10)).2)
theorem div10_cons (x : Nat) (l : List Nat) (r : Nat) : div10 (x :: l) r = ((r * 256 + x) / 10 :: (div10 l ((r * 256 + x) % 10)).1, (div10 l ((r * 256 + x) % 10)).2) := rfl
theorem div10_len : ∀ (l : List Nat) (r : Nat), (div10 l r).1.length = l.length
  | [], _ => rfl
  | x :: l, r => by rw [div10_cons]; simp [div10_len l]
theorem div10_rest : ∀ (l : List Nat) (r : Nat), r < 10 → (div10 l r).2 < 10
  | [], _, h => h
  | x :: l, r, _ => by rw [div10_cons]; exact div10_rest l _ (Nat.mod_lt _ (by omega))
theorem div10_lt : ∀ (l : List Nat) (r : Nat), r < 10 → (∀ d ∈ l, d < 256) → ∀ d ∈ (div10 l r).1, d < 256
  | [], _, _, _, d, h => by simp [div10] at h
  | x :: l, r, hr, hl, d, h => by
    rw [div10_cons] at h
    rcases List.mem_cons.1 h with rfl | h
    · have := hl x (by simp); omega
    · exact div10_lt l _ (Nat.mod_lt _ (by omega)) (fun d hd => hl d (List.mem_cons_of_mem _ hd)) d h
def vB (l : List Nat) : Nat := val 256 l.reverse
theorem vB_cons (x : Nat) (l : List Nat) : vB (x :: l) = vB l + 256 ^ l.length * x := by
  unfold vB
  rw [List.reverse_cons, val_append, List.length_reverse]
  simp [val]
theorem div10_val : ∀ (l : List Nat) (r : Nat), r * 256 ^ l.length + vB l = 10 * vB (div10 l r).1 + (div10 l r).2
  | [], r => by simp [div10, vB, val]
  | x :: l, r => by
    have ih := div10_val l ((r * 256 + x) % 10)
    rw [div10_cons, vB_cons, vB_cons, div10_len, List.length_cons, Nat.pow_succ, Nat.mul_add]
    have e := Nat.div_add_mod (r * 256 + x) 10
    have e2 := congrArg (fun z => z * 256 ^ l.length) e
    simp only [Nat.add_mul] at e2
    have e3 : 10 * ((r * 256 + x) / 10) * 256 ^ l.length = 10 * (256 ^ l.length * ((r * 256 + x) / 10)) := by rw [Nat.mul_assoc, Nat.mul_comm _ (256 ^ l.length)]
    have e4 : r * (256 ^ l.length * 256) = r * 256 * 256 ^ l.length := by rw [Nat.mul_comm (256 ^ l.length), Nat.mul_assoc]
    have e5 : 256 ^ l.length * x = x * 256 ^ l.length := Nat.mul_comm _ _
    omega
theorem vB_zero : ∀ (l : List Nat), (∀ d ∈ l, d = 0) → vB l = 0
  | [], _ => rfl
  | x :: l, h => by rw [vB_cons, vB_zero l (fun d hd => h d (List.mem_cons_of_mem _ hd)), h x (by simp), Nat.mul_zero]
theorem vB_pos : ∀ (l : List Nat), (∃ d ∈ l, d ≠ 0) → 0 < vB l
  | [], h => by obtain ⟨_, h, _⟩ := h; cases h
  | x :: l, h => by
    rw [vB_cons]
    obtain ⟨d, hd, h0⟩ := h
    rcases List.mem_cons.1 hd with rfl | hd
    · have : 0 < 256 ^ l.length * d := Nat.mul_pos (Nat.pow_pos (by omega)) (by omega)
      omega
    · have := vB_pos l ⟨d, hd, h0⟩; omega
theorem vB_digs (n : Nat) : vB (digs 256 n).reverse = n := by
  unfold vB
  rw [List.reverse_reverse, val_digs _ _ (by omega)]
theorem shown_step (l : List Nat) (s : List Nat) (N : Nat) (h : shown N = shown (vB l) ++ s) :
    (vB (div10 l 0).1 = 0 → shown N = (48 + (div10 l 0).2) :: s) ∧ (vB (div10 l 0).1 ≠ 0 → shown N = shown (vB (div10 l 0).1) ++ (48 + (div10 l 0).2) :: s) := by
  have hv := div10_val l 0
  have hr := div10_rest l 0 (by omega)
  rw [Nat.zero_mul, Nat.zero_add] at hv
  constructor
  · intro h0
    rw [h0] at hv
    rw [h, hv, shown_low (by omega)]
    simp
  · intro h0
    rw [h, hv, shown_high (by omega), show (10 * vB (div10 l 0).1 + (div10 l 0).2) / 10 = vB (div10 l 0).1 from by omega, show (10 * vB (div10 l 0).1 + (div10 l 0).2) % 10 = (div10 l 0).2 from by omega]
    simp
def tailB (ns : List Nat) : Bytes := ns.flatMap fun n => 46 :: shownB n
theorem tailB_nil : tailB [] = [] := rfl
theorem tailB_cons (n : Nat) (ns : List Nat) : tailB (n :: ns) = 46 :: shownB n ++ tailB ns := rfl
theorem tailB_snoc (ns : List Nat) (n : Nat) : tailB (ns ++ [n]) = tailB ns ++ (46 :: shownB n) := by simp [tailB]
theorem tailB_app (l m : List Nat) : tailB (l ++ m) = tailB l ++ tailB m := by simp [tailB]
theorem shownB_len_le (l : Bytes) (hl : l.all isDig = true) (h0 : l ≠ []) : (shownB (natOf l)).length ≤ l.length := by
  have h := natOf_lt l hl
  obtain ⟨k, hk⟩ : ∃ k, l.length = k + 1 := ⟨l.length - 1, by have := List.length_pos_iff.2 h0; omega⟩
  rw [hk] at h ⊢
  unfold shownB
  rw [List.length_map]
  exact shown_len k _ h
theorem splitB_sum (c : UInt8) : ∀ (l : Bytes), ((splitB c l).map (fun p => p.length + 1)).sum = l.length + 1
  | [] => rfl
  | d :: r => by
    have ih := splitB_sum c r
    by_cases h : d = c
    · rw [splitB_cons_eq h, List.map_cons, List.sum_cons, ih]; simp; omega
    · rcases hs : splitB c r with _ | ⟨p, ps⟩
      · exact absurd hs (splitB_ne c r)
      · rw [splitB_cons_ne hs h]
        rw [hs] at ih
        simp only [List.map_cons, List.sum_cons, List.length_cons] at ih ⊢
        omega
theorem tail_pieces : ∀ (ps : List Bytes), (∀ p ∈ ps, p.all isDig = true) → (tailB (numsIn ps)).length ≤ (ps.map (fun p => p.length + 1)).sum
  | [], _ => by simp [numsIn, tailB]
  | p :: ps, h => by
    have ih := tail_pieces ps (fun q hq => h q (List.mem_cons_of_mem _ hq))
    rw [List.map_cons, List.sum_cons]
    by_cases hp : p = []
    · subst hp
      have : numsIn ([] :: ps) = numsIn ps := by simp [numsIn]
      rw [this]; omega
    · have e : numsIn (p :: ps) = natOf p :: numsIn ps := by
        have : (!p.isEmpty) = true := by simpa using hp
        simp [numsIn, this]
      rw [e, tailB_cons, List.length_append, List.length_cons]
      have := shownB_len_le p (h p (by simp)) hp
      omega
theorem tailB_drop_len (ns : List Nat) (k : Nat) : (tailB (ns.drop k)).length ≤ (tailB ns).length := by
  have h : tailB ns = tailB (ns.take k) ++ tailB (ns.drop k) := by rw [← tailB_app, List.take_append_drop]
  rw [h, List.length_append]
  omega
theorem tail_len (l : Bytes) (k : Nat) : (tailB ((numsOf l).drop k)).length ≤ (coreOf l).length + 1 := by
  refine Nat.le_trans (tailB_drop_len _ _) ?_
  rw [numsOf_eq, ← splitB_sum 46 (coreOf l)]
  exact tail_pieces _ (fun p hp => (piece_digs l p hp).2)
def keptB (k : Nat) (l : Bytes) : Bytes := buildOf l ++ tailB ((numsOf l).drop k)
theorem restV_len (l : Bytes) : (restV l).length ≤ l.length := by
  rcases l with _ | ⟨c, r⟩
  · simp [restV]
  · simp only [restV]
    by_cases h : c = 118
    · rw [if_pos h]; simp
    · rw [if_neg h]; simp
theorem keptB_len (k : Nat) (l : Bytes) : (keptB k l).length ≤ l.length + 1 := by
  have h := tail_len l k
  have e : (coreOf l).length + (buildOf l).length = (restV l).length := by
    unfold coreOf buildOf
    rw [← List.length_append, List.takeWhile_append_dropWhile]
  have := restV_len l
  unfold keptB
  rw [List.length_append]
  omega
end Go.Proofs.YtgfkdjmoflbmdaaGreatDoor.Pl
namespace Go.Proofs.YtgfkdjmoflbmdaaGreatDoor
open Go.RowKit
open Go.Proofs
theorem WC_snoc (a : List Nat) (d : Nat) : WC (a ++ [d]) = WC a ++ [.int .u64 (d : Int)] := by simp [WC]
theorem grown_dr {w wr : World} {r : Option Nat} (h : w.grownBy wr r) (n : Nat) : w.grownBy (wr.drewN n) r := ⟨h.os, h.tape, h.output, h.size, h.block⟩
set_option maxRecDepth 100000 in
set_option maxHeartbeats 1000000 in
theorem subVVg_any (b o cz bx ox cx by_ oy cy : Nat) (xs ys : List Nat) (l : List Value) (w : World) (hl : xs.length ≤ 1000000) (hlen : ys.length = xs.length) (hB : Blk w b 179 l.toArray) (hfit : o + xs.length ≤ l.length)
    (hX : Src w b o xs.length bx ox xs) (hY : Src w b o xs.length by_ oy ys) :
    Calls Tryz.prog 285 #[.slice (some ⟨b, o, none⟩) xs.length cz, .slice (some ⟨bx, ox, none⟩) xs.length cx, .slice (some ⟨by_, oy, none⟩) xs.length cy] w fun e w' =>
      e = .returned (.int .u64 (((Pl.subV M xs ys 0).2 : Nat) : Int)) ∧ Blk w' b 179 (splice l o (WC (Pl.subV M xs ys 0).1)).toArray ∧ w.grownBy w' (some b) := by
  have HX := Lib.hid hX
  have HY := Lib.hid hY
  have HB := Lib.hid hB
  clear hX hY hB
  obtain ⟨R, hR⟩ : ∃ R, Pl.subV M xs ys 0 = R := ⟨_, rfl⟩
  rw [hR]
  have HR := Lib.hid hR
  clear hR
  go_enter Tryz.func285, Tryz.ntmps285
  go_wp2
  go_loopw [6, 7, 8, 9, 25] (fun cv _ _ _ iv wr => ∃ (k cc : Nat) (done : List Nat), k ≤ xs.length ∧ iv = .int .i64 (k : Int) ∧ cv = .int .u64 (cc : Int) ∧ cc ≤ 1 ∧ done.length = k ∧ Blk wr b 179 (splice l o (WC done)).toArray ∧
    done ++ (Pl.subV M (xs.drop k) (ys.drop k) cc).1 = R.1 ∧ (Pl.subV M (xs.drop k) (ys.drop k) cc).2 = R.2 ∧ w.grownBy wr (some b)) (fun _ _ _ _ iv _ => xs.length - (intOf iv).toNat)
  case atStart => exact ⟨0, 0, [], Nat.zero_le _, rfl, rfl, by omega, rfl, by simpa [WC, splice_nil] using HB.out, by rw [← HR.out]; simp, by rw [← HR.out]; simp, World.grownBy.refl _ _⟩
  case round =>
    obtain ⟨k, cc, done, hk, rfl, rfl, hcc, hdn, hblk, h1, h2, hgr⟩ := hrel
    have H1 := Lib.hid h1
    have H2 := Lib.hid h2
    have HDN := Lib.hid hdn
    have hzf : o + (WC done).length ≤ l.length := by rw [WC_len, hdn]; omega
    have HZF := Lib.hid hzf
    clear h1 h2 hdn hzf
    by_cases hkl : k < xs.length
    · have cx := HX.out.read HB.out hblk hgr HZF.out hkl (by rw [WC_len, HDN.out]; exact Nat.le_refl _)
      have cy := HY.out.read HB.out hblk hgr HZF.out (k := k) (by omega) (by rw [WC_len, HDN.out]; exact Nat.le_refl _)
      have hdx : xs.drop k = xs[k] :: xs.drop (k + 1) := List.drop_eq_getElem_cons hkl
      have hdy : ys.drop k = ys[k] :: ys.drop (k + 1) := List.drop_eq_getElem_cons (by omega)
      have HDX := Lib.hid hdx
      have HDY := Lib.hid hdy
      obtain ⟨x, hx⟩ : ∃ x, xs[k] = x := ⟨_, rfl⟩
      obtain ⟨y, hy⟩ : ∃ y, ys[k] = y := ⟨_, rfl⟩
      rw [hx] at cx HDX
      rw [hy] at cy HDY
      clear hdx hdy hx hy
      have hz : ∃ u, wr.cell? ⟨b, o + k, none⟩ = some u := by
        rw [hblk.cell (o + k)]
        refine ⟨_, Array.getElem?_eq_getElem (h := ?_)⟩
        have h0 := splice_len HZF.out
        simp only [List.size_toArray]
        omega
      obtain ⟨u, hz⟩ := hz
      have hzz := hblk.frozen (o + k)
      obtain ⟨d, hd⟩ : ∃ d : Nat, (M + x - y - cc) % M = d := ⟨_, rfl⟩
      obtain ⟨q, hq⟩ : ∃ q : Nat, (if x < y + cc then 1 else 0) = q := ⟨_, rfl⟩
      have hq1 : q ≤ 1 := by rw [← hq]; split <;> omega
      have HS := Lib.hid (fun W => Sub_any x y cc hcc W)
      rw [hd, hq] at HS
      have HD := Lib.hid hd
      have HQ := Lib.hid hq
      clear hd hq
      go_wp2
      go_quiet ((go_at_call 277; exact quiet_left (HS.out _)))
      go_wp2
      go_roundw
      case rel =>
        have e1 := H1.out
        have e2 := H2.out
        rw [HDX.out, HDY.out, Pl.subV_cons, HD.out, HQ.out] at e1 e2
        have hs := splice_up (l := l) (o := o) (zs := WC done) (by rw [WC_len, HDN.out]; omega) (.int .u64 (d : Int))
        rw [WC_len, HDN.out] at hs
        refine ⟨k + 1, q, done ++ [d], by omega, by go_num, rfl, hq1, by simp [HDN.out], ?_, by simpa using e1, e2, ?_⟩
        · rw [WC_snoc, ← hs]
          exact (hblk.drewN _).set_ _ _
        · exact (grown_dr hgr _).trans (grown_set _ _ _ _)
      case measure => simp [intOf]; omega
    · obtain rfl : k = xs.length := by omega
      go_wp2
      go_ret
      have e1 := H1.out
      have e2 := H2.out
      rw [List.drop_length] at e1 e2
      simp only [Pl.subV, List.append_nil] at e1 e2
      subst e1
      exact ⟨ret_int (by rw [e2]), hblk, hgr⟩
end Go.Proofs.YtgfkdjmoflbmdaaGreatDoor
namespace Go.Proofs.YtgfkdjmoflbmdaaGreatDoor.Pl
def lowB (c : UInt8) : UInt8 := if 65 ≤ c.toNat ∧ c.toNat ≤ 90 then c + 32 else c
def lower (l : Bytes) : Bytes := l.map lowB
theorem lowB_nat (c : UInt8) : (lowB c).toNat = if 65 ≤ c.toNat ∧ c.toNat ≤ 90 then c.toNat + 32 else c.toNat := by
  unfold lowB
  split
  · rw [UInt8.toNat_add]; show (c.toNat + 32) % 256 = _; omega
  · rfl
theorem lower_len (l : Bytes) : (lower l).length = l.length := List.length_map ..
theorem lower_cons (c : UInt8) (r : Bytes) : lower (c :: r) = lowB c :: lower r := rfl
theorem lowB_dig (c : UInt8) : isDig (lowB c) = isDig c := by
  unfold isDig
  rw [lowB_nat, Bool.eq_iff_iff]
  simp only [Bool.and_eq_true, decide_eq_true_eq]
  split <;> omega
theorem lowB_iff (k : UInt8) (hk : k.toNat < 65 ∨ 122 < k.toNat) (c : UInt8) : lowB c = k ↔ c = k := by
  rw [← UInt8.toNat_inj, ← UInt8.toNat_inj, lowB_nat]
  split <;> omega
theorem lower_dig (l : Bytes) : allDig (lower l) = allDig l := by
  unfold allDig lower
  rw [List.all_map]
  congr 1
  · exact congrArg (fun f => l.all f) (funext fun c => lowB_dig c)
  · cases l <;> rfl
theorem lower_app (a b : Bytes) : lower (a ++ b) = lower a ++ lower b := List.map_append ..
theorem splitB_lower (l : Bytes) : splitB 46 (lower l) = (splitB 46 l).map lower := by
  induction l with
  | nil => rfl
  | cons d r ih =>
    rw [lower_cons]
    by_cases hd : d = 46
    · rw [splitB_cons_eq hd, splitB_cons_eq ((lowB_iff 46 (by decide) d).2 hd), ih]; rfl
    · obtain ⟨a, as', ha⟩ : ∃ a as', splitB 46 r = a :: as' := by
        cases hs : splitB 46 r with
        | nil => exact absurd hs (splitB_ne 46 r)
        | cons a as' => exact ⟨a, as', rfl⟩
      rw [ha] at ih
      rw [splitB_cons_ne ha hd, splitB_cons_ne ih (fun e => hd ((lowB_iff 46 (by decide) d).1 e))]; rfl
theorem idxOf_lower (k : UInt8) (hk : k.toNat < 65 ∨ 122 < k.toNat) (l : Bytes) : idxOf k (lower l) = idxOf k l := by
  induction l with
  | nil => rfl
  | cons d r ih =>
    rw [lower_cons]
    unfold idxOf
    rw [ih]
    by_cases hd : d = k
    · rw [if_pos hd, if_pos ((lowB_iff k hk d).2 hd)]
    · rw [if_neg hd, if_neg (fun e => hd ((lowB_iff k hk d).1 e))]
theorem lower_take (l : Bytes) (k : Nat) : (lower l).take k = lower (l.take k) := List.map_take.symm
theorem lower_drop (l : Bytes) (k : Nat) : (lower l).drop k = lower (l.drop k) := List.map_drop.symm
theorem beforePlus_lower (l : Bytes) : beforePlus (lower l) = lower (beforePlus l) := by
  unfold beforePlus
  rw [idxOf_lower 43 (by decide)]
  cases idxOf 43 l with
  | none => rfl
  | some k => exact lower_take l k
theorem trimHy_lower (l : Bytes) : trimHy (lower l) = lower (trimHy l) := by
  cases l with
  | nil => rfl
  | cons c r =>
    rw [lower_cons, trimHy, trimHy]
    by_cases h : c = 45
    · rw [if_pos h, if_pos ((lowB_iff 45 (by decide) c).2 h)]
    · rw [if_neg h, if_neg (fun e => h ((lowB_iff 45 (by decide) c).1 e))]; rfl
theorem lower_nil {l : Bytes} : lower l = [] ↔ l = [] := by cases l <;> simp [lower]
theorem idents_lower (l : Bytes) : idents (lower l) = (idents l).map lower := by
  unfold idents
  rw [beforePlus_lower, trimHy_lower, splitB_lower]
  by_cases h : trimHy (beforePlus l) = []
  · rw [if_pos h, if_pos (lower_nil.2 h)]; rfl
  · rw [if_neg h, if_neg (fun e => h (lower_nil.1 e))]
theorem lower_head (k : UInt8) (hk : k.toNat < 65 ∨ 122 < k.toNat) (l : Bytes) : ((lower l)[0]? == some k) = (l[0]? == some k) := by
  cases l with
  | nil => rfl
  | cons c r =>
    rw [lower_cons]
    simp only [List.getElem?_cons_zero]
    rw [Bool.eq_iff_iff, beq_iff_eq, beq_iff_eq]
    constructor
    · intro e; injection e with e; rw [(lowB_iff k hk c).1 e]
    · intro e; injection e with e; rw [(lowB_iff k hk c).2 e]
theorem idKnown1_lower (l : Bytes) : idKnown1 (lower l) = idKnown1 l := by
  unfold idKnown1
  rw [lower_len, lower_head 45 (by decide), lower_head 43 (by decide), lower_drop, lower_dig]
theorem idsKnown_lower (l : Bytes) : idsKnown (idents (lower l)) = idsKnown (idents l) := by
  rw [idents_lower]
  unfold idsKnown
  rw [List.all_map]
  exact congrArg (fun f => (idents l).all f) (funext fun c => idKnown1_lower c)
theorem ascii_lower {l : Bytes} (h : ascii l = true) : ascii (lower l) = true := by
  unfold ascii lower at *
  rw [List.all_map]
  refine List.all_eq_true.2 fun c hc => ?_
  have := List.all_eq_true.1 h c hc
  show decide ((lowB c).toNat ≤ 127) = true
  rw [lowB_nat]
  simp only [decide_eq_true_eq] at this ⊢
  split <;> omega
theorem buildKnown_lower {l : Bytes} (h : buildKnown l = true) : buildKnown (lower l) = true := by
  unfold buildKnown at *
  rw [Bool.and_eq_true] at *
  exact ⟨ascii_lower h.1, by rw [idsKnown_lower]; exact h.2⟩
def nugetOrd (ns ms : List Nat) (a b : Bytes) : Int := if cmpNums ns ms ≠ 0 then cmpNums ns ms else builds (lower a) (lower b)
def recip (B d : Nat) : Nat := (B * B - 1) / d - B
theorem recip_add {B d : Nat} (h1 : 0 < d) (h2 : d < B) : recip B d + B = (B * B - 1) / d := by
  have : B ≤ (B * B - 1) / d := by
    rw [Nat.le_div_iff_mul_le h1]
    have h3 : B * d ≤ B * (B - 1) := Nat.mul_le_mul_left _ (by omega)
    have h4 : B * (B - 1) + B = B * B := by
      obtain ⟨k, rfl⟩ : ∃ k, B = k + 1 := ⟨B - 1, by omega⟩
      simp only [Nat.add_sub_cancel]
      rw [Nat.mul_add (k + 1) k 1, Nat.mul_one]
    omega
  unfold recip
  omega
theorem recip_words {B d : Nat} (h1 : 0 < d) (h2 : d < B) : ((B - 1 - d) * B + (B - 1)) / d = recip B d := by
  have h3 := recip_add h1 h2
  have e : (B - 1 - d) * B + (B - 1) + d * B = B * B - 1 := by
    have h4 : (B - 1 - d) * B + d * B = (B - 1) * B := by rw [← Nat.add_mul]; congr 1; omega
    have h5 : (B - 1) * B + B = B * B := by
      obtain ⟨k, rfl⟩ : ∃ k, B = k + 1 := ⟨B - 1, by omega⟩
      simp only [Nat.add_sub_cancel]
      rw [Nat.add_mul k 1, Nat.one_mul]
    omega
  obtain ⟨X, hX⟩ : ∃ X, (B - 1 - d) * B + (B - 1) = X := ⟨_, rfl⟩
  rw [hX] at e ⊢
  have e2 : (B * B - 1) / d = X / d + B := by
    rw [← e, Nat.mul_comm d B, Nat.add_mul_div_right _ _ h1]
  omega
theorem recip_lt {B d : Nat} (h1 : B ≤ 2 * d) (h2 : d < B) : recip B d < B := by
  have h0 : 0 < d := by omega
  have h3 := recip_add h0 h2
  have h4 : (B * B - 1) / d < 2 * B := by
    rw [Nat.div_lt_iff_lt_mul h0]
    have : B * B ≤ 2 * B * d := by rw [Nat.mul_comm 2 B, Nat.mul_assoc]; exact Nat.mul_le_mul_left _ h1
    have : 0 < B * B := Nat.mul_pos (by omega) (by omega)
    omega
  omega
theorem guess_ok {B d x1 x0 : Nat} (h1 : B ≤ 2 * d) (h2 : d < B) (hx1 : x1 < d) (hx0 : x0 < B) :
    d * ((recip B d * x1 + x1 * B + x0) / B) ≤ x1 * B + x0 ∧ x1 * B + x0 < d * ((recip B d * x1 + x1 * B + x0) / B) + B + d := by
  have h0 : 0 < d := by omega
  have hB : 0 < B := by omega
  have hv := recip_add h0 h2
  obtain ⟨v, hve⟩ : ∃ v, recip B d + B = v := ⟨_, rfl⟩
  have e1 : recip B d * x1 + x1 * B + x0 = v * x1 + x0 := by rw [← hve, Nat.add_mul, Nat.mul_comm x1 B]
  rw [e1]
  rw [hve] at hv
  have hd1 : d * v ≤ B * B - 1 := by rw [hv]; exact Nat.mul_div_le _ _
  have hd2 : B * B - 1 < d * v + d := by
    have := Nat.lt_mul_div_succ (B * B - 1) h0
    rw [← hv, Nat.mul_add, Nat.mul_one] at this
    exact this
  obtain ⟨q, hq⟩ : ∃ q, (v * x1 + x0) / B = q := ⟨_, rfl⟩
  have hq1 : B * q ≤ v * x1 + x0 := by rw [← hq]; exact Nat.mul_div_le _ _
  have hq2 : v * x1 + x0 < B * q + B := by
    have := Nat.lt_mul_div_succ (v * x1 + x0) hB
    rw [hq, Nat.mul_add, Nat.mul_one] at this
    exact this
  rw [hq]
  clear hq e1 hve hv
  -- products
  have a1 : d * (B * q) ≤ d * (v * x1 + x0) := Nat.mul_le_mul_left _ hq1
  have a2 : d * (v * x1 + x0) + d ≤ d * (B * q + B) := by
    have : d * (v * x1 + x0 + 1) ≤ d * (B * q + B) := Nat.mul_le_mul_left _ (by omega)
    rw [Nat.mul_add d _ 1, Nat.mul_one] at this
    exact this
  have b1 : d * v * x1 ≤ (B * B - 1) * x1 := Nat.mul_le_mul_right _ hd1
  have b2 : (B * B) * x1 ≤ (d * v + d) * x1 := Nat.mul_le_mul_right _ (by omega)
  have c1 : d * x0 ≤ B * x0 := Nat.mul_le_mul_right _ (by omega)
  have c2 : d * x1 + x1 ≤ d * d := by
    have : (d + 1) * x1 ≤ (d + 1) * (d - 1) := Nat.mul_le_mul_left _ (by omega)
    have e : (d + 1) * (d - 1) + 1 = d * d := by
      obtain ⟨k, rfl⟩ : ∃ k, d = k + 1 := ⟨d - 1, by omega⟩
      simp only [Nat.add_sub_cancel, Nat.add_mul, Nat.mul_add, Nat.one_mul, Nat.mul_one]
      omega
    rw [Nat.add_mul, Nat.one_mul] at this
    omega
  have c4 : d * d + d ≤ d * B := by
    have : d * (d + 1) ≤ d * B := Nat.mul_le_mul_left _ (by omega)
    rw [Nat.mul_add, Nat.mul_one] at this
    exact this
  have c3 : (B - d) * x0 ≤ (B - d) * (B - 1) := Nat.mul_le_mul_left _ (by omega)
  have e3 : (B - d) * x0 + d * x0 = B * x0 := by rw [← Nat.add_mul]; congr 1; omega
  have e4 : (B - d) * (B - 1) + d * (B - 1) = B * (B - 1) := by rw [← Nat.add_mul]; congr 1; omega
  have e5 : B * (B - 1) + B = B * B := by
    obtain ⟨k, rfl⟩ : ∃ k, B = k + 1 := ⟨B - 1, by omega⟩
    simp only [Nat.add_sub_cancel]
    rw [Nat.mul_add (k + 1) k 1, Nat.mul_one]
  have e6 : d * (B - 1) + d = d * B := by
    obtain ⟨k, rfl⟩ : ∃ k, B = k + 1 := ⟨B - 1, by omega⟩
    simp only [Nat.add_sub_cancel]
    rw [Nat.mul_add, Nat.mul_one]
  have f1 : d * (B * q) = B * (d * q) := Nat.mul_left_comm _ _ _
  have f2 : d * (v * x1 + x0) = d * v * x1 + d * x0 := by rw [Nat.mul_add, Nat.mul_assoc]
  have f3 : d * (B * q + B) = B * (d * q) + d * B := by rw [Nat.mul_add, f1]
  have f4 : B * (x1 * B + x0) = B * B * x1 + B * x0 := by rw [Nat.mul_add, Nat.mul_comm x1 B, Nat.mul_assoc]
  have f5 : (B * B - 1) * x1 ≤ B * B * x1 := Nat.mul_le_mul_right _ (by omega)
  have f6 : (d * v + d) * x1 = d * v * x1 + d * x1 := Nat.add_mul _ _ _
  constructor
  · refine Nat.le_of_mul_le_mul_left (?_ : B * (d * q) ≤ B * (x1 * B + x0)) hB
    rw [f4]
    omega
  · refine Nat.lt_of_mul_lt_mul_left (a := B) ?_
    rw [f4]
    have f7 : B * (d * q + B + d) = B * (d * q) + B * B + d * B := by rw [Nat.mul_add, Nat.mul_add, Nat.mul_comm B d]
    rw [f7]
    omega
end Go.Proofs.YtgfkdjmoflbmdaaGreatDoor.Pl
