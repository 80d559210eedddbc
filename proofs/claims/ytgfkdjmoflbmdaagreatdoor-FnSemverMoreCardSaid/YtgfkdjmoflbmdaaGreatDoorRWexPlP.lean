/- Contract; PLAIN; PLAIN; PLAIN; PLAIN; PLAIN. -/
import Derived.Test.YtgfkdjmoflbmdaaGreatDoorRWdxQe
namespace Go.Proofs.YtgfkdjmoflbmdaaGreatDoor
open Go.RowKit
open Go.Proofs
theorem NoZ_nil : NoZ ⟨#[]⟩ := fun h => absurd h (by decide)
set_option maxHeartbeats 2000000 in
theorem CompareNumbers_any (A B : Option Addr) (ca cb : Nat) (xs ys : List Nat) (w : World) (hra : Rd w 2 A xs.length (IntC xs)) (hrb : Rd w 2 B ys.length (IntC ys))
    (hla : xs.length ≤ 30000) (hlb : ys.length ≤ 30000) (hma : ∀ n ∈ xs, (Pl.magOf n).length ≤ 30000) (hmb : ∀ n ∈ ys, (Pl.magOf n).length ≤ 30000) :
    Calls Tryz.prog 85 #[.slice A xs.length ca, .slice B ys.length cb] w fun e w' => e = .returned (.int .i64 (Pl.cmpNums xs ys)) ∧ Below w.heap.size w w' := by
  have HMA := Lib.hid hma
  have HMB := Lib.hid hmb
  clear hma hmb
  go_enter Tryz.func85, Tryz.ntmps85
  go_wp2
  go_loopw [5] (fun i wr => ∃ k : Nat, k ≤ xs.length + ys.length ∧ i = .int .i64 k ∧ Pl.cmpNums (xs.drop k) (ys.drop k) = Pl.cmpNums xs ys ∧ Below w.heap.size w wr) (fun i _ => xs.length + ys.length - (intOf i).toNat)
  case atStart => exact ⟨0, Nat.zero_le _, rfl, rfl, Below.refl _ _⟩
  case round =>
    obtain ⟨k, hk, rfl, hcmp, hbel⟩ := hrel
    have HC := Lib.hid hcmp
    clear hcmp
    by_cases hend : xs.length ≤ k ∧ ys.length ≤ k
    · obtain ⟨h1, h2⟩ := hend
      go_wp2
      go_ret
      exact ⟨ret_int (by rw [← HC.out, Pl.cmpNums_end _ _ _ h1 h2]), hbel⟩
    · have hstep := Pl.cmpNums_step xs ys k (by omega)
      have HS := Lib.hid hstep
      clear hstep
      have hra2 := hra.below hbel
      have hrb2 := hrb.below hbel
      by_cases ha : k < xs.length
      · obtain ⟨b1, o1, rfl, hc0, hc1⟩ := hra2.int_at ha
        have hx : xs.getD k 0 = xs[k] := by simp [ha]
        have hmx := HMA.out xs[k] (List.getElem_mem ha)
        obtain ⟨x, hxe⟩ : ∃ x, xs[k] = x := ⟨_, rfl⟩
        rw [hxe] at hc1 hx hmx
        have HX := Lib.hid hx
        clear hx hxe
        obtain ⟨l1, l2, l3, l4⟩ := cell_lts hc0
        by_cases hb : k < ys.length
        · obtain ⟨b2, o2, rfl, hd0, hd1⟩ := hrb2.int_at hb
          have hy : ys.getD k 0 = ys[k] := by simp [hb]
          have hmy := HMB.out ys[k] (List.getElem_mem hb)
          obtain ⟨y, hye⟩ : ∃ y, ys[k] = y := ⟨_, rfl⟩
          rw [hye] at hd1 hy hmy
          have HY := Lib.hid hy
          clear hy hye
          obtain ⟨m1, m2, m3, m4⟩ := cell_lts hd0
          obtain ⟨z, hz⟩ : ∃ z, Pl.ordMag (Pl.magOf x) (Pl.magOf y) = z := ⟨_, rfl⟩
          have HZ := Lib.hid (show z = Pl.cmpN (xs.getD k 0) (ys.getD k 0) from by rw [← hz, HX.out, HY.out, Pl.ordMag_mag])
          by_cases hz0 : z = 0
          · have hz1 : (z != 0) = false := by simp [hz0]
            have HZ0 := Lib.hid hz0
            clear hz0
            go_wp2_with (go_at_call 104; refine (intOrder_any ⟨(Pl.magOf x).toArray⟩ ⟨(Pl.magOf y).toArray⟩ _ hmx hmy (NoZ_mag _) (NoZ_mag _)).mono ?_; rintro e w1 ⟨rfl, hb1⟩)
            go_roundw
            case rel => exact ⟨k + 1, by omega, by go_num, by rw [← HC.out, HS.out, if_neg (by rw [← HZ.out, HZ0.out]; simp)], hbel.trans (((Below.refl w.heap.size _).alloc hbel.size _ |>.alloc (by simp; have := hbel.size; omega) _).trans (hb1.mono (by simp; have := hbel.size; omega)))⟩
            case measure => simp [intOf]; omega
          · have hz1 : (z != 0) = true := by simpa using hz0
            have HZ0 := Lib.hid hz0
            clear hz0
            go_wp2_with (go_at_call 104; refine (intOrder_any ⟨(Pl.magOf x).toArray⟩ ⟨(Pl.magOf y).toArray⟩ _ hmx hmy (NoZ_mag _) (NoZ_mag _)).mono ?_; rintro e w1 ⟨rfl, hb1⟩)
            go_ret
            exact ⟨ret_int (by rw [← HC.out, HS.out, if_pos (by rw [← HZ.out]; exact HZ0.out), ← HZ.out]), hbel.trans (((Below.refl w.heap.size _).alloc hbel.size _ |>.alloc (by simp; have := hbel.size; omega) _).trans (hb1.mono (by simp; have := hbel.size; omega)))⟩
        · have HY := Lib.hid (show ys.getD k 0 = 0 from by simp [hb])
          obtain ⟨z, hz⟩ : ∃ z, Pl.ordMag (Pl.magOf x) ([]) = z := ⟨_, rfl⟩
          have HZ := Lib.hid (show z = Pl.cmpN (xs.getD k 0) (ys.getD k 0) from by rw [← hz, HX.out, HY.out, ← Pl.magOf_zero, Pl.ordMag_mag])
          by_cases hz0 : z = 0
          · have hz1 : (z != 0) = false := by simp [hz0]
            have HZ0 := Lib.hid hz0
            clear hz0
            go_wp2_with (go_at_call 104; refine (intOrder_any ⟨(Pl.magOf x).toArray⟩ ⟨#[]⟩ _ hmx (by decide) (NoZ_mag _) NoZ_nil).mono ?_; rintro e w1 ⟨rfl, hb1⟩)
            go_roundw
            case rel => exact ⟨k + 1, by omega, by go_num, by rw [← HC.out, HS.out, if_neg (by rw [← HZ.out, HZ0.out]; simp)], hbel.trans (((Below.refl w.heap.size _).alloc hbel.size _ |>.alloc (by simp; have := hbel.size; omega) _).trans (hb1.mono (by simp; have := hbel.size; omega)))⟩
            case measure => simp [intOf]; omega
          · have hz1 : (z != 0) = true := by simpa using hz0
            have HZ0 := Lib.hid hz0
            clear hz0
            go_wp2_with (go_at_call 104; refine (intOrder_any ⟨(Pl.magOf x).toArray⟩ ⟨#[]⟩ _ hmx (by decide) (NoZ_mag _) NoZ_nil).mono ?_; rintro e w1 ⟨rfl, hb1⟩)
            go_ret
            exact ⟨ret_int (by rw [← HC.out, HS.out, if_pos (by rw [← HZ.out]; exact HZ0.out), ← HZ.out]), hbel.trans (((Below.refl w.heap.size _).alloc hbel.size _ |>.alloc (by simp; have := hbel.size; omega) _).trans (hb1.mono (by simp; have := hbel.size; omega)))⟩
      · have hb : k < ys.length := by omega
        obtain ⟨b2, o2, rfl, hd0, hd1⟩ := hrb2.int_at hb
        have hy : ys.getD k 0 = ys[k] := by simp [hb]
        have hmy := HMB.out ys[k] (List.getElem_mem hb)
        obtain ⟨y, hye⟩ : ∃ y, ys[k] = y := ⟨_, rfl⟩
        rw [hye] at hd1 hy hmy
        have HY := Lib.hid hy
        clear hy hye
        obtain ⟨m1, m2, m3, m4⟩ := cell_lts hd0
        have HX := Lib.hid (show xs.getD k 0 = 0 from by simp [ha])
        obtain ⟨z, hz⟩ : ∃ z, Pl.ordMag ([]) (Pl.magOf y) = z := ⟨_, rfl⟩
        have HZ := Lib.hid (show z = Pl.cmpN (xs.getD k 0) (ys.getD k 0) from by rw [← hz, HX.out, HY.out, ← Pl.magOf_zero, Pl.ordMag_mag])
        by_cases hz0 : z = 0
        · have hz1 : (z != 0) = false := by simp [hz0]
          have HZ0 := Lib.hid hz0
          clear hz0
          go_wp2_with (go_at_call 104; refine (intOrder_any ⟨#[]⟩ ⟨(Pl.magOf y).toArray⟩ _ (by decide) hmy NoZ_nil (NoZ_mag _)).mono ?_; rintro e w1 ⟨rfl, hb1⟩)
          go_roundw
          case rel => exact ⟨k + 1, by omega, by go_num, by rw [← HC.out, HS.out, if_neg (by rw [← HZ.out, HZ0.out]; simp)], hbel.trans (((Below.refl w.heap.size _).alloc hbel.size _ |>.alloc (by simp; have := hbel.size; omega) _).trans (hb1.mono (by simp; have := hbel.size; omega)))⟩
          case measure => simp [intOf]; omega
        · have hz1 : (z != 0) = true := by simpa using hz0
          have HZ0 := Lib.hid hz0
          clear hz0
          go_wp2_with (go_at_call 104; refine (intOrder_any ⟨#[]⟩ ⟨(Pl.magOf y).toArray⟩ _ (by decide) hmy NoZ_nil (NoZ_mag _)).mono ?_; rintro e w1 ⟨rfl, hb1⟩)
          go_ret
          exact ⟨ret_int (by rw [← HC.out, HS.out, if_pos (by rw [← HZ.out]; exact HZ0.out), ← HZ.out]), hbel.trans (((Below.refl w.heap.size _).alloc hbel.size _ |>.alloc (by simp; have := hbel.size; omega) _).trans (hb1.mono (by simp; have := hbel.size; omega)))⟩
end Go.Proofs.YtgfkdjmoflbmdaaGreatDoor
namespace Go.Proofs.YtgfkdjmoflbmdaaGreatDoor.Pl
def Sorted {α : Type} (f : α → α → Int) (l : List α) : Prop := l.Pairwise fun a b => f a b ≤ 0
theorem Sorted.nil {α : Type} (f : α → α → Int) : Sorted f [] := List.Pairwise.nil
theorem Sorted.at {α : Type} {f : α → α → Int} {l : List α} (h : Sorted f l) {i j : Nat} (hi : i < l.length) (hj : j < l.length) (hij : i < j) : f l[i] l[j] ≤ 0 :=
  List.pairwise_iff_getElem.1 h i j hi hj hij
def pubOrd (ns ms : List Nat) (a b : Bytes) : Int := if cmpNums ns ms ≠ 0 then cmpNums ns ms else if builds a b ≠ 0 then builds a b else ordB (metaOf a) (metaOf b)
def divV (b y : Nat) : List Nat → Nat → List Nat × Nat
  | [], r => ([], r)
  | x :: l, r => (((divV b y l r).2 * b + x) / y :: (divV b y l r).1, ((divV b y l r).2 * b + x) % y)
theorem divV_cons (b y x : Nat) (l : List Nat) (r : Nat) : divV b y (x :: l) r = (((divV b y l r).2 * b + x) / y :: (divV b y l r).1, ((divV b y l r).2 * b + x) % y) := rfl
theorem divV_at {b y : Nat} {l : List Nat} {k : Nat} (hk : k < l.length) (r : Nat) : divV b y (l.drop k) r = (((divV b y (l.drop (k + 1)) r).2 * b + l[k]) / y :: (divV b y (l.drop (k + 1)) r).1, ((divV b y (l.drop (k + 1)) r).2 * b + l[k]) % y) := by
  rw [List.drop_eq_getElem_cons hk]; rfl
theorem divV_len (b y : Nat) : ∀ (l : List Nat) (r : Nat), (divV b y l r).1.length = l.length
  | [], _ => rfl
  | x :: l, r => by rw [divV_cons]; simp [divV_len b y l]
theorem divV_rest (b : Nat) {y : Nat} : ∀ (l : List Nat) (r : Nat), r < y → (divV b y l r).2 < y
  | [], _, h => h
  | x :: l, r, h => by rw [divV_cons]; exact Nat.mod_lt _ (by omega)
theorem divV_lt {b y : Nat} : ∀ (l : List Nat) (r : Nat), r < y → (∀ d ∈ l, d < b) → ∀ d ∈ (divV b y l r).1, d < b
  | [], _, _, _, d, h => by simp [divV] at h
  | x :: l, r, hr, hl, d, h => by
    rw [divV_cons] at h
    rcases List.mem_cons.1 h with rfl | h
    · have h1 := divV_rest b l r hr
      have hx := hl x (by simp)
      rw [Nat.div_lt_iff_lt_mul (by omega)]
      have := Nat.mul_le_mul_right b (show (divV b y l r).2 + 1 ≤ y by omega)
      rw [Nat.add_mul, Nat.one_mul] at this
      rw [Nat.mul_comm b]
      omega
    · exact divV_lt l r hr (fun d hd => hl d (List.mem_cons_of_mem _ hd)) d h
theorem divV_val (b y : Nat) : ∀ (l : List Nat) (r : Nat), val b (divV b y l r).1 * y + (divV b y l r).2 = r * b ^ l.length + val b l
  | [], r => by simp [divV, val]
  | x :: l, r => by
    have ih := divV_val b y l r
    rw [divV_cons]
    simp only [val, List.length_cons, Nat.pow_succ]
    obtain ⟨R, hR⟩ : ∃ R, (divV b y l r).2 = R := ⟨_, rfl⟩
    obtain ⟨Q, hQ⟩ : ∃ Q, val b (divV b y l r).1 = Q := ⟨_, rfl⟩
    rw [hR, hQ] at ih ⊢
    have e1 := Nat.div_add_mod (R * b + x) y
    have e2 : ((R * b + x) / y + b * Q) * y = y * ((R * b + x) / y) + b * (Q * y) := by rw [Nat.add_mul, Nat.mul_comm y, Nat.mul_assoc]
    have e3 := congrArg (b * ·) ih
    simp only [Nat.mul_add] at e3
    have e4 : r * (b ^ l.length * b) = b * (r * b ^ l.length) := by rw [← Nat.mul_assoc, Nat.mul_comm]
    have e5 : R * b = b * R := Nat.mul_comm _ _
    rw [e2, e4]
    omega
theorem guess32 {M V2 Vl B N3 Nl : Nat} (hB : 0 < B) (hV2 : M ≤ V2) (hM : 0 < M) (hVl : Vl < B) (hNl : Nl < B) (hq : N3 / V2 < M) :
    (N3 * B + Nl) / (V2 * B + Vl) ≤ N3 / V2 ∧ N3 / V2 ≤ (N3 * B + Nl) / (V2 * B + Vl) + 1 := by
  have hV2p : 0 < V2 := by omega
  have hV : 0 < V2 * B + Vl := by have := Nat.mul_pos hV2p hB; omega
  constructor
  · rw [Nat.le_div_iff_mul_le hV2p]
    obtain ⟨Q, hQ⟩ : ∃ Q, (N3 * B + Nl) / (V2 * B + Vl) = Q := ⟨_, rfl⟩
    have h1 : Q * (V2 * B + Vl) ≤ N3 * B + Nl := by rw [← hQ]; exact Nat.div_mul_le_self _ _
    rw [hQ]
    have h2 : Q * V2 * B < (N3 + 1) * B := by
      rw [Nat.mul_add, ← Nat.mul_assoc] at h1
      rw [Nat.add_mul, Nat.one_mul]
      omega
    have := Nat.lt_of_mul_lt_mul_right h2
    omega
  · have hle := fun k (h : k * (V2 * B + Vl) ≤ N3 * B + Nl) => (Nat.le_div_iff_mul_le hV).2 h
    obtain ⟨Q, hQ⟩ : ∃ Q, (N3 * B + Nl) / (V2 * B + Vl) = Q := ⟨_, rfl⟩
    rw [hQ] at hle ⊢
    obtain ⟨q, hqe⟩ : ∃ q, N3 / V2 = q := ⟨_, rfl⟩
    have h1 : q * V2 ≤ N3 := by rw [← hqe]; exact Nat.div_mul_le_self _ _
    rw [hqe] at hq ⊢
    rcases Nat.eq_zero_or_pos q with h0 | h0
    · omega
    · obtain ⟨k, rfl⟩ : ∃ k, q = k + 1 := ⟨q - 1, by omega⟩
      have h2 : k * (V2 * B + Vl) ≤ N3 * B + Nl := by
        have h3 : k * Vl ≤ V2 * B := by
          have h4 : k * Vl ≤ M * B := Nat.mul_le_mul (by omega) (by omega)
          have h5 : M * B ≤ V2 * B := Nat.mul_le_mul_right _ hV2
          omega
        have h6 : (k + 1) * V2 * B ≤ N3 * B := Nat.mul_le_mul_right _ h1
        rw [Nat.mul_add, ← Nat.mul_assoc]
        rw [Nat.add_mul, Nat.one_mul, Nat.add_mul] at h6
        omega
      have := hle k h2
      omega
theorem guess_top {M vt B Vr Nr : Nat} (hv : M ≤ 2 * vt) (hVr : Vr < B) (hM : 2 ≤ M) (hlt : vt * M * B + Nr < (vt * B + Vr) * M) :
    (vt * M * B + Nr) / (vt * B + Vr) ≤ M - 1 ∧ M - 1 ≤ (vt * M * B + Nr) / (vt * B + Vr) + 1 := by
  have hB : 0 < B := by omega
  have hV : 0 < vt * B + Vr := by have := Nat.mul_pos (show 0 < vt by omega) hB; omega
  constructor
  · have h1 : (vt * M * B + Nr) / (vt * B + Vr) < M := by rw [Nat.div_lt_iff_lt_mul hV, Nat.mul_comm M]; exact hlt
    omega
  · obtain ⟨k, rfl⟩ : ∃ k, M = k + 2 := ⟨M - 2, by omega⟩
    have h2 : k * (vt * B + Vr) ≤ vt * (k + 2) * B + Nr := by
      have h3 : k * Vr ≤ k * B := Nat.mul_le_mul_left _ (by omega)
      have h4 : k * B ≤ 2 * vt * B := Nat.mul_le_mul_right _ (by omega)
      rw [Nat.mul_add, ← Nat.mul_assoc, Nat.mul_comm k vt, Nat.mul_add, Nat.add_mul, Nat.mul_comm vt 2]
      omega
    have := (Nat.le_div_iff_mul_le hV).2 h2
    omega
theorem div_of {N V Q : Nat} (h1 : V * Q ≤ N) (h2 : N < V * Q + V) : N / V = Q ∧ N % V = N - V * Q := by
  have hV : 0 < V := by omega
  have e : N = V * Q + (N - V * Q) := by omega
  have h3 : N - V * Q < V := by omega
  constructor
  · rw [e, Nat.mul_add_div hV, Nat.div_eq_of_lt h3, Nat.add_zero]
  · rw [e, Nat.mul_add_mod, Nat.mod_eq_of_lt h3]; omega
theorem digit_sub {b n : Nat} {ss vs : List Nat} {qh : Nat} (hs : ss.length = n + 1) (hv : vs.length = n) (hsl : ∀ d ∈ ss, d < b) (hvl : ∀ d ∈ vs, d < b) (hb : 0 < b) (hqb : qh < b)
    (h1 : val b ss / val b vs ≤ qh) (h2 : qh ≤ val b ss / val b vs + 1) (hV : 0 < val b vs) :
    let W := (mulV b vs qh 0).1 ++ [(mulV b vs qh 0).2]
    let S := subV b ss W 0
    (S.2 = 0 → val b ss / val b vs = qh ∧ val b S.1 = val b ss % val b vs ∧ S.1[n]? = some 0) ∧
    (S.2 ≠ 0 → val b ss / val b vs + 1 = qh ∧ val b (addV b (S.1.take n) vs 0).1 = val b ss % val b vs ∧ (S.1.getD n 0 + (addV b (S.1.take n) vs 0).2) % b = 0) := by
  intro W S
  have hWl : W.length = n + 1 := by simp [W, mulV_len, hv]
  have hWlt : ∀ d ∈ W, d < b := by
    intro d hd
    rcases List.mem_append.1 hd with hd | hd
    · exact mulV_lt b hb vs qh 0 d hd
    · rw [List.mem_singleton] at hd
      rw [hd]; exact mulV_carry b vs qh 0 hvl hqb hb
  have hWv : val b W = val b vs * qh := by have := mulAdd_val b hb vs qh 0; simpa using this
  have hSv : val b S.1 + val b W + 0 = val b ss + b ^ ss.length * S.2 := subV_val b ss W 0 (by rw [hs, hWl]) hsl hWlt (by omega)
  have hSl : S.1.length = n + 1 := by rw [subV_len b ss W 0 (by rw [hs, hWl]), hs]
  have hSlt : ∀ d ∈ S.1, d < b := subV_lt b hb ss W 0
  have hSb := val_lt b S.1 hSlt
  have hS1 : S.2 ≤ 1 := subV_c b ss W 0 (by omega)
  have hNb := val_lt b ss hsl
  have hVb := val_lt b vs hvl
  rw [hSl] at hSb
  rw [hs] at hSv hNb
  rw [hv] at hVb
  rw [hWv, Nat.add_zero] at hSv
  obtain ⟨N, hN⟩ : ∃ N, val b ss = N := ⟨_, rfl⟩
  obtain ⟨V, hVe⟩ : ∃ V, val b vs = V := ⟨_, rfl⟩
  rw [hN] at hSv hNb h1 h2 ⊢
  rw [hVe] at hSv hVb h1 h2 hV ⊢
  have hdm := Nat.div_add_mod N V
  have hmod := Nat.mod_lt N hV
  obtain ⟨Q, hQ⟩ : ∃ Q, N / V = Q := ⟨_, rfl⟩
  obtain ⟨R, hR⟩ : ∃ R, N % V = R := ⟨_, rfl⟩
  rw [hQ] at hdm h1 h2 ⊢
  rw [hR] at hdm hmod ⊢
  have hpow : b ^ (n + 1) = b ^ n * b := Nat.pow_succ _ _
  have hsplit := val_take_drop b S.1 n (by omega)
  have hdn : S.1.drop n = [S.1.getD n 0] := by
    rw [List.drop_eq_getElem_cons (by omega : n < S.1.length), List.drop_of_length_le (by omega)]
    simp [List.getD_eq_getElem?_getD, show n < S.1.length from by omega]
  rw [hdn] at hsplit
  simp only [val, Nat.mul_zero, Nat.add_zero] at hsplit
  have htk : (S.1.take n).length = n := by simp; omega
  have htb := val_lt b (S.1.take n) (fun d hd => hSlt d (List.mem_of_mem_take hd))
  rw [htk] at htb
  obtain ⟨sn, hsn⟩ : ∃ s, S.1.getD n 0 = s := ⟨_, rfl⟩
  rw [hsn] at hsplit
  constructor
  · intro h0
    rw [h0, Nat.mul_zero, Nat.add_zero] at hSv
    have hqQ : qh = Q := by
      rcases Nat.lt_or_ge Q qh with h | h
      · have e : qh = Q + 1 := by omega
        rw [e, Nat.mul_add, Nat.mul_one] at hSv
        omega
      · omega
    subst hqQ
    have hval : val b S.1 = R := by omega
    refine ⟨rfl, hval, ?_⟩
    have hsn0 : sn = 0 := by
      rcases Nat.eq_zero_or_pos sn with h | h
      · exact h
      · have := Nat.mul_le_mul_left (b ^ n) h
        rw [Nat.mul_one] at this
        omega
    rw [List.getElem?_eq_getElem (by omega)]
    have : S.1.getD n 0 = S.1[n] := by simp [List.getD_eq_getElem?_getD, show n < S.1.length from by omega]
    rw [← this, hsn, hsn0]
  · intro h0
    have hS2 : S.2 = 1 := by omega
    rw [hS2, Nat.mul_one] at hSv
    have hqQ : qh = Q + 1 := by
      rcases Nat.lt_or_ge Q qh with h | h
      · omega
      · have e : qh = Q := by omega
        rw [e] at hSv
        omega
    subst hqQ
    have hA := addV_val b (S.1.take n) vs 0 (by rw [htk, hv])
    have hAc := addV_c b (S.1.take n) vs 0 (fun d hd => hSlt d (List.mem_of_mem_take hd)) hvl (by omega)
    have hAlt := val_lt b (addV b (S.1.take n) vs 0).1 (addV_lt b hb _ _ _)
    rw [addV_len b _ _ _ (by rw [htk, hv]), htk] at hAlt
    rw [htk, hVe, Nat.add_zero] at hA
    obtain ⟨T, hT⟩ : ∃ T, val b (addV b (S.1.take n) vs 0).1 = T := ⟨_, rfl⟩
    obtain ⟨c, hc⟩ : ∃ c, (addV b (S.1.take n) vs 0).2 = c := ⟨_, rfl⟩
    rw [hT, hc] at hA
    rw [hT] at hAlt ⊢
    rw [hc, hsn]
    rw [Nat.mul_add, Nat.mul_one] at hSv
    have htot : T + b ^ n * (sn + c) = R + b ^ n * b := by
      rw [Nat.mul_add, ← hpow]
      omega
    have hsc : sn + c = b := by
      rcases Nat.lt_trichotomy (sn + c) b with h | h | h
      · have := Nat.mul_le_mul_left (b ^ n) (show sn + c + 1 ≤ b by omega)
        rw [Nat.mul_add, Nat.mul_one] at this
        omega
      · exact h
      · have := Nat.mul_le_mul_left (b ^ n) (show b + 1 ≤ sn + c by omega)
        rw [Nat.mul_add, Nat.mul_one] at this
        omega
    rw [hsc] at htot ⊢
    exact ⟨rfl, by omega, Nat.mod_self b⟩
theorem split2 {l : List Nat} {k : Nat} (h : l.length = k + 2) : l = l.take k ++ [l.getD k 0, l.getD (k + 1) 0] := by
  have e : l.drop k = [l.getD k 0, l.getD (k + 1) 0] := by
    rw [List.drop_eq_getElem_cons (by omega : k < l.length), List.drop_eq_getElem_cons (by omega : k + 1 < l.length), List.drop_of_length_le (by omega)]
    simp [List.getD_eq_getElem?_getD, show k < l.length from by omega, show k + 1 < l.length from by omega]
  rw [← e, List.take_append_drop]
theorem val_three (b : Nat) (lo : List Nat) (a0 a1 a2 : Nat) : val b (lo ++ [a0, a1, a2]) = ((a2 * b + a1) * b + a0) * b ^ lo.length + val b lo := by
  rw [val_append]
  simp only [val, Nat.mul_zero, Nat.add_zero]
  rw [Nat.mul_comm (b ^ lo.length), Nat.add_comm]
  congr 2
  rw [Nat.add_comm, Nat.mul_comm b, Nat.add_comm a1, Nat.mul_comm b a2]
theorem val_two (b : Nat) (lo : List Nat) (y0 y1 : Nat) : val b (lo ++ [y0, y1]) = (y1 * b + y0) * b ^ lo.length + val b lo := by
  rw [val_append]
  simp only [val, Nat.mul_zero, Nat.add_zero]
  rw [Nat.mul_comm (b ^ lo.length), Nat.add_comm]
  congr 2
  rw [Nat.add_comm, Nat.mul_comm b]
theorem digit_guess {b k : Nat} {lo vlo : List Nat} {a0 a1 a2 y0 y1 : Nat} (hlo : lo.length = k) (hvlo : vlo.length = k) (hl : ∀ d ∈ lo, d < b) (hvl : ∀ d ∈ vlo, d < b) (h0 : a0 < b) (h1 : a1 < b) (hy0 : y0 < b) (hb : 2 ≤ b) (hnorm : b ≤ 2 * y1)
    (hlt : val b (lo ++ [a0, a1, a2]) < val b (vlo ++ [y0, y1]) * b) :
    a2 ≤ y1 ∧
    (a2 = y1 → val b (lo ++ [a0, a1, a2]) / val b (vlo ++ [y0, y1]) ≤ b - 1 ∧ b - 1 ≤ val b (lo ++ [a0, a1, a2]) / val b (vlo ++ [y0, y1]) + 1) ∧
    (a2 < y1 → ((a2 * b + a1) * b + a0) / (y1 * b + y0) < b ∧ val b (lo ++ [a0, a1, a2]) / val b (vlo ++ [y0, y1]) ≤ ((a2 * b + a1) * b + a0) / (y1 * b + y0) ∧ ((a2 * b + a1) * b + a0) / (y1 * b + y0) ≤ val b (lo ++ [a0, a1, a2]) / val b (vlo ++ [y0, y1]) + 1 ∧
      (a2 = 0 → ((a2 * b + a1) * b + a0) / (y1 * b + y0) ≤ 1)) := by
  have hN := val_three b lo a0 a1 a2
  have hV := val_two b vlo y0 y1
  have hlb := val_lt b lo hl
  have hvb := val_lt b vlo hvl
  rw [hlo] at hN hlb
  rw [hvlo] at hV hvb
  rw [hN, hV] at hlt ⊢
  obtain ⟨B, hB⟩ : ∃ B, b ^ k = B := ⟨_, rfl⟩
  rw [hB] at hlt hlb hvb ⊢
  have hBp : 0 < B := by rw [← hB]; exact Nat.pow_pos (by omega)
  generalize val b lo = Nl at *
  generalize val b vlo = Vl at *
  clear hN hV hB
  have hU : a2 * b + a1 < a2 * b + b := by omega
  refine ⟨?_, ?_, ?_⟩
  · rcases Nat.lt_or_ge y1 a2 with h | h
    · exfalso
      have e1 : (y1 + 1) * b * b * B ≤ ((a2 * b + a1) * b + a0) * B := by
        refine Nat.mul_le_mul_right _ ?_
        have := Nat.mul_le_mul_right b (Nat.mul_le_mul_right b (show y1 + 1 ≤ a2 by omega))
        rw [Nat.add_mul (a2 * b)]
        omega
      have e2 : ((y1 * b + y0) * B + Vl) * b ≤ (y1 + 1) * b * b * B := by
        have e3 : (y1 * b + y0) * B + Vl ≤ (y1 + 1) * b * B := by
          have e4 : (y1 * b + y0 + 1) * B ≤ (y1 + 1) * b * B := Nat.mul_le_mul_right _ (by rw [Nat.add_mul, Nat.one_mul]; omega)
          rw [Nat.add_mul, Nat.one_mul] at e4
          omega
        have := Nat.mul_le_mul_right b e3
        rw [Nat.mul_right_comm ((y1 + 1) * b)] at this
        exact this
      omega
    · exact h
  · rintro rfl
    have e1 : ((a2 * b + a1) * b + a0) * B + Nl = a2 * b * (b * B) + (a1 * b * B + a0 * B + Nl) := by
      rw [Nat.add_mul, Nat.add_mul, Nat.add_mul, Nat.mul_assoc (a2 * b)]
      omega
    have e2 : (a2 * b + y0) * B + Vl = a2 * (b * B) + (y0 * B + Vl) := by
      rw [Nat.add_mul, Nat.mul_assoc]; omega
    rw [e1, e2] at hlt ⊢
    have hVr : y0 * B + Vl < b * B := by
      have := Nat.mul_le_mul_right B (show y0 + 1 ≤ b by omega)
      rw [Nat.add_mul, Nat.one_mul] at this
      omega
    exact guess_top hnorm hVr hb hlt
  · intro ha
    have hU2 : a2 * b + a1 < y1 * b + y0 := by
      have := Nat.mul_le_mul_right b (show a2 + 1 ≤ y1 by omega)
      rw [Nat.add_mul, Nat.one_mul] at this
      omega
    have hqb := dig_lt (H := b) (U := a2 * b + a1) (y1 := y1) (y0 := y0) (d := a0) hU2 h0
    have hV2 : b ≤ y1 * b + y0 := by
      have := Nat.mul_le_mul_right b (show 1 ≤ y1 by omega)
      omega
    obtain ⟨g1, g2⟩ := guess32 (M := b) (V2 := y1 * b + y0) (Vl := Vl) (B := B) (N3 := (a2 * b + a1) * b + a0) (Nl := Nl) hBp hV2 (by omega) hvb hlb hqb
    refine ⟨hqb, g1, g2, ?_⟩
    rintro rfl
    have h3 : ((0 * b + a1) * b + a0) / (y1 * b + y0) < 2 := by
      rw [Nat.div_lt_iff_lt_mul (by omega)]
      rw [Nat.zero_mul, Nat.zero_add]
      have h4 := Nat.mul_le_mul_right b (show a1 + 1 ≤ b by omega)
      rw [Nat.add_mul, Nat.one_mul] at h4
      have h5 := Nat.mul_le_mul_right b hnorm
      rw [Nat.mul_add, ← Nat.mul_assoc]
      omega
    omega
theorem subV_append (b : Nat) : ∀ (x1 y1 x2 y2 : List Nat) (c : Nat), x1.length = y1.length → subV b (x1 ++ x2) (y1 ++ y2) c = ((subV b x1 y1 c).1 ++ (subV b x2 y2 (subV b x1 y1 c).2).1, (subV b x2 y2 (subV b x1 y1 c).2).2)
  | [], [], x2, y2, c, _ => by simp [subV]
  | [], _ :: _, _, _, _, h => by simp at h
  | _ :: _, [], _, _, _, h => by simp at h
  | x :: r, y :: q, x2, y2, c, h => by
    rw [List.cons_append, List.cons_append, subV_cons, subV_cons, subV_append b r q x2 y2 _ (by simpa using h)]
    rfl
theorem val_zeros (b : Nat) : ∀ (l : List Nat), (∀ d ∈ l, d = 0) → val b l = 0
  | [], _ => rfl
  | x :: r, h => by
    rw [val, val_zeros b r (fun d hd => h d (List.mem_cons_of_mem _ hd)), h x (by simp)]
    simp
structure KInv (b : Nat) (us vs : List Nat) (i : Nat) (us' qs' : List Nat) : Prop where
  lu : us'.length = us.length
  ult : ∀ d ∈ us', d < b
  qlt : ∀ d ∈ qs', d < b
  low : us'.take i = us.take i
  zer : ∀ d ∈ us'.drop (i + vs.length), d = 0
  rem : val b (us'.drop i) = val b (us.drop i) % val b vs
  quo : val b (qs'.drop i) = val b (us.drop i) / val b vs
section
variable {b : Nat} {us vs us' qs' qs'' rs : List Nat} {j L : Nat}
theorem KInv.seg (_h : KInv b us vs (j + 1) us' qs') (hrest : ∀ d ∈ us'.drop (j + L), d = 0) : val b ((us'.drop j).take L) = val b (us'.drop j) := by
  have e := val_append b ((us'.drop j).take L) ((us'.drop j).drop L)
  rw [List.take_append_drop, List.drop_drop, val_zeros b _ hrest, Nat.mul_zero, Nat.add_zero] at e
  exact e.symm
theorem KInv.head (h : KInv b us vs (j + 1) us' qs') (hj : j < us.length) : val b (us'.drop j) = us.getD j 0 + b * (val b (us.drop (j + 1)) % val b vs) ∧ val b (us.drop j) = us.getD j 0 + b * val b (us.drop (j + 1)) := by
  have h1 : us'[j]'(by rw [h.lu]; exact hj) = us[j] := by
    have e := congrArg (fun l : List Nat => l[j]?) h.low
    simp only [List.getElem?_take, show j < j + 1 from by omega, if_true] at e
    rw [List.getElem?_eq_getElem (by rw [h.lu]; exact hj), List.getElem?_eq_getElem hj] at e
    exact Option.some.inj e
  have h2 : us.getD j 0 = us[j] := by simp [List.getD_eq_getElem?_getD, hj]
  constructor
  · rw [List.drop_eq_getElem_cons (by rw [h.lu]; exact hj), val, h.rem, h1, h2]
  · rw [List.drop_eq_getElem_cons hj, val, h2]
theorem KInv.lt (h : KInv b us vs (j + 1) us' qs') (hj : j < us.length) (hV : 0 < val b vs) (_hb : 0 < b) : val b (us'.drop j) < val b vs * b := by
  obtain ⟨h1, _⟩ := h.head hj
  have h2 := Nat.mod_lt (val b (us.drop (j + 1))) hV
  have h3 : us.getD j 0 < b := by
    have e : us.getD j 0 = us'[j]'(by rw [h.lu]; exact hj) := by
      have e := congrArg (fun l : List Nat => l[j]?) h.low
      simp only [List.getElem?_take, show j < j + 1 from by omega, if_true] at e
      rw [List.getElem?_eq_getElem (by rw [h.lu]; exact hj), List.getElem?_eq_getElem hj] at e
      simp [List.getD_eq_getElem?_getD, hj, Option.some.inj e]
    rw [e]
    exact h.ult _ (List.getElem_mem _)
  have h4 := Nat.mul_le_mul_left b (show val b (us.drop (j + 1)) % val b vs + 1 ≤ val b vs by omega)
  rw [Nat.mul_add, Nat.mul_one] at h4
  rw [h1, Nat.mul_comm (val b vs)]
  omega
theorem KInv.step (h : KInv b us vs (j + 1) us' qs') (hj : j < us.length) (hV : 0 < val b vs) (hL : rs.length = L) (hjL : j + L ≤ us.length) (hrest : ∀ d ∈ us'.drop (j + L), d = 0) (hrlt : ∀ d ∈ rs, d < b) (hrz : ∀ d ∈ rs.drop vs.length, d = 0) (hnL : vs.length ≤ L)
    (hval : val b rs = val b ((us'.drop j).take L) % val b vs) (hq : val b (qs''.drop j) = val b ((us'.drop j).take L) / val b vs + b * val b (qs'.drop (j + 1))) (hqlt : ∀ d ∈ qs'', d < b) :
    KInv b us vs j (us'.take j ++ rs ++ us'.drop (j + L)) qs'' := by
  have hseg := h.seg hrest
  rw [hseg] at hval hq
  obtain ⟨e1, e2⟩ := h.head hj
  have hlen : (us'.take j).length = j := by rw [List.length_take, h.lu]; omega
  have hD : (us'.take j ++ rs ++ us'.drop (j + L)).drop j = rs ++ us'.drop (j + L) := by
    rw [List.append_assoc, List.drop_append_of_le_length (by omega), List.drop_of_length_le (by omega), List.nil_append]
  have hdm := Nat.div_add_mod (val b (us.drop (j + 1))) (val b vs)
  obtain ⟨N, hN⟩ : ∃ N, val b (us'.drop j) = N := ⟨_, rfl⟩
  have hD0 : val b (us.drop j) = val b vs * (b * (val b (us.drop (j + 1)) / val b vs)) + N := by
    rw [e2, ← hN, e1]
    conv => lhs; rw [← hdm]
    rw [Nat.mul_add, Nat.mul_left_comm]
    omega
  rw [hN] at hval hq
  refine ⟨?_, ?_, hqlt, ?_, ?_, ?_, ?_⟩
  · simp only [List.length_append, List.length_drop, hlen, hL, h.lu]; omega
  · intro d hd
    rcases List.mem_append.1 hd with hd | hd
    · rcases List.mem_append.1 hd with hd | hd
      · exact h.ult d (List.mem_of_mem_take hd)
      · exact hrlt d hd
    · exact h.ult d (List.mem_of_mem_drop hd)
  · rw [List.append_assoc, List.take_append_of_le_length (by omega), List.take_of_length_le (by omega)]
    have := congrArg (List.take j) h.low
    rwa [List.take_take, List.take_take, Nat.min_eq_left (by omega)] at this
  · intro d hd
    have e3 : (us'.take j ++ rs ++ us'.drop (j + L)).drop (j + vs.length) = rs.drop vs.length ++ us'.drop (j + L) := by
      rw [← List.drop_drop, hD, List.drop_append_of_le_length (by omega)]
    rw [e3] at hd
    rcases List.mem_append.1 hd with hd | hd
    · exact hrz d hd
    · exact hrest d hd
  · rw [hD, val_append, val_zeros b _ hrest, Nat.mul_zero, Nat.add_zero, hval, hD0, Nat.mul_add_mod]
  · rw [hq, hD0, Nat.mul_add_div hV, h.quo]
    omega
theorem val_seg {l : List Nat} {k : Nat} (h : k + 2 ≤ l.length) (hz : ∀ d ∈ l.drop (k + 3), d = 0) : val b l = val b (l.take k ++ [l.getD k 0, l.getD (k + 1) 0, l.getD (k + 2) 0]) := by
  have e := val_take_drop b l k (by omega)
  rw [val_append]
  have hlt : (l.take k).length = k := by rw [List.length_take]; omega
  rw [hlt, e]
  congr 2
  rw [List.drop_eq_getElem_cons (by omega : k < l.length), List.drop_eq_getElem_cons (by omega : k + 1 < l.length)]
  simp only [val]
  have g0 : l.getD k 0 = l[k] := by simp [List.getD_eq_getElem?_getD, show k < l.length from by omega]
  have g1 : l.getD (k + 1) 0 = l[k + 1] := by simp [List.getD_eq_getElem?_getD, show k + 1 < l.length from by omega]
  rw [g0, g1]
  congr 4
  rcases Nat.lt_or_ge (k + 2) l.length with h2 | h2
  · rw [List.drop_eq_getElem_cons h2, val, val_zeros b _ hz]
    simp [List.getD_eq_getElem?_getD, h2]
  · rw [List.drop_of_length_le h2]
    simp [List.getD_eq_getElem?_getD, List.getElem?_eq_none h2, val]
theorem drop_set (l : List Nat) (j Q : Nat) (hj : j < l.length) : (l.set j Q).drop j = Q :: l.drop (j + 1) := by
  rw [List.drop_eq_getElem_cons (by simpa using hj)]
  simp
  rw [List.drop_set_of_lt (by omega)]
end
theorem mulV_small {b qh : Nat} {vs : List Nat} (hb : 0 < b) (hvl : ∀ d ∈ vs, d < b) (hq : qh ≤ 1) : (mulV b vs qh 0).2 = 0 := by
  have h1 := mulAdd_val b hb vs qh 0
  have h2 := val_lt b vs hvl
  have h3 : val b vs * qh ≤ val b vs * 1 := Nat.mul_le_mul_left _ hq
  rcases Nat.eq_zero_or_pos (mulV b vs qh 0).2 with h | h
  · exact h
  · exfalso
    have h4 := Nat.mul_le_mul_left (b ^ vs.length) h
    rw [val_append, mulV_len] at h1
    simp only [val, Nat.mul_zero, Nat.mul_one, Nat.add_zero] at *
    omega
theorem digit_row {b n L qh : Nat} {ss vs : List Nat} (hL : L = n + 1 ∨ (L = n ∧ qh ≤ 1)) (hs : ss.length = L) (hv : vs.length = n) (hsl : ∀ d ∈ ss, d < b) (hvl : ∀ d ∈ vs, d < b) (hb : 2 ≤ b) (hqb : qh < b)
    (h1 : val b ss / val b vs ≤ qh) (h2 : qh ≤ val b ss / val b vs + 1) (hV : 0 < val b vs) :
    ((subV b ss (((mulV b vs qh 0).1 ++ [(mulV b vs qh 0).2]).take L) 0).2 = 0 → val b ss / val b vs = qh ∧ val b (subV b ss (((mulV b vs qh 0).1 ++ [(mulV b vs qh 0).2]).take L) 0).1 = val b ss % val b vs ∧ ∀ d ∈ (subV b ss (((mulV b vs qh 0).1 ++ [(mulV b vs qh 0).2]).take L) 0).1.drop n, d = 0) ∧
    ((subV b ss (((mulV b vs qh 0).1 ++ [(mulV b vs qh 0).2]).take L) 0).2 ≠ 0 → val b ss / val b vs + 1 = qh ∧ val b (addV b ((subV b ss (((mulV b vs qh 0).1 ++ [(mulV b vs qh 0).2]).take L) 0).1.take n) vs 0).1 = val b ss % val b vs ∧
      (L = n + 1 → ((subV b ss (((mulV b vs qh 0).1 ++ [(mulV b vs qh 0).2]).take L) 0).1.getD n 0 + (addV b ((subV b ss (((mulV b vs qh 0).1 ++ [(mulV b vs qh 0).2]).take L) 0).1.take n) vs 0).2) % b = 0)) := by
  have hb0 : 0 < b := by omega
  rcases hL with rfl | ⟨rfl, hq1⟩
  · have hT : ((mulV b vs qh 0).1 ++ [(mulV b vs qh 0).2]).take (n + 1) = (mulV b vs qh 0).1 ++ [(mulV b vs qh 0).2] := List.take_of_length_le (by simp [mulV_len, hv])
    rw [hT]
    obtain ⟨d1, d2⟩ := digit_sub hs hv hsl hvl hb0 hqb h1 h2 hV
    refine ⟨fun h => ?_, fun h => ?_⟩
    · obtain ⟨e1, e2, e3⟩ := d1 h
      refine ⟨e1, e2, fun d hd => ?_⟩
      have hlen := subV_len b ss ((mulV b vs qh 0).1 ++ [(mulV b vs qh 0).2]) 0 (by rw [hs]; simp [mulV_len, hv])
      rw [hs] at hlen
      rw [List.drop_eq_getElem_cons (by omega), List.drop_of_length_le (by omega)] at hd
      rw [List.getElem?_eq_getElem (by omega)] at e3
      rw [List.mem_singleton] at hd
      rw [hd]
      exact Option.some.inj e3
    · obtain ⟨e1, e2, e3⟩ := d2 h
      exact ⟨e1, e2, fun _ => e3⟩
  · have hc := mulV_small hb0 hvl hq1
    have hml := mulV_len b vs qh 0
    have hT : ((mulV b vs qh 0).1 ++ [(mulV b vs qh 0).2]).take L = (mulV b vs qh 0).1 := by
      rw [List.take_append_of_le_length (by omega), List.take_of_length_le (by omega)]
    rw [hT]
    have hvs0 : val b (ss ++ [0]) = val b ss := by rw [val_append]; simp [val]
    have hD := digit_sub (b := b) (n := L) (ss := ss ++ [0]) (vs := vs) (qh := qh) (by simp [hs]) hv (by
      intro d hd
      rcases List.mem_append.1 hd with hd | hd
      · exact hsl d hd
      · rw [List.mem_singleton] at hd; omega) hvl hb0 hqb (by rw [hvs0]; exact h1) (by rw [hvs0]; exact h2) hV
    simp only [hc, hvs0] at hD
    rw [subV_append b ss (mulV b vs qh 0).1 [0] [0] 0 (by rw [hs, hml, hv])] at hD
    have hS1 := subV_c b ss (mulV b vs qh 0).1 0 (by omega)
    have hSl := subV_len b ss (mulV b vs qh 0).1 0 (by rw [hs, hml, hv])
    rw [hs] at hSl
    generalize subV b ss (mulV b vs qh 0).1 0 = S at *
    have htk : (S.1 ++ (subV b [0] [0] S.2).1).take L = S.1 := by rw [List.take_append_of_le_length (by omega), List.take_of_length_le (by omega)]
    have htk2 : S.1.take L = S.1 := List.take_of_length_le (by omega)
    have hdr : S.1.drop L = [] := List.drop_of_length_le (by omega)
    obtain ⟨d1, d2⟩ := hD
    simp only [htk] at d2
    rw [htk2, hdr]
    refine ⟨fun h => ?_, fun h => ?_⟩
    · have hz : subV b [0] [0] 0 = ([0], 0) := by simp [subV]
      rw [h, hz] at d1
      obtain ⟨e1, e2, _⟩ := d1 rfl
      rw [val_append] at e2
      exact ⟨e1, by simpa [val] using e2, fun d hd => by cases hd⟩
    · have hs1 : S.2 = 1 := by omega
      have hz : (subV b [0] [0] 1).2 = 1 := by simp [subV]
      rw [hs1, hz] at d2
      obtain ⟨e1, e2, _⟩ := d2 (by omega)
      exact ⟨e1, e2, fun h => by omega⟩
end Go.Proofs.YtgfkdjmoflbmdaaGreatDoor.Pl
