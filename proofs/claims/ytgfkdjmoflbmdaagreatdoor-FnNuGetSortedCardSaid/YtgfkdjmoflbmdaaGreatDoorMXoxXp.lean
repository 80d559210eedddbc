/- Words: a version's parts come back. Words: a version's parts built anew out of a version's parts: the state of the region. Contracts: beUint32, beUint64, bigEndianWord. Contracts: nat.setBytes, Int.SetBytes, zzBig. Contracts: bigs, SetBytes, zzBig, zzBigs. -/
import Derived.Test.YtgfkdjmoflbmdaaGreatDoorMWexXl
import Derived.Deep.RegionWith
import Derived.Deep.RegionHeld3
import Derived.Test.YtgfkdjmoflbmdaaGreatDoorMWnxVe
import Derived.Test.YtgfkdjmoflbmdaaGreatDoorMXhxWc
import Derived.Lib.EndianBits
import Derived.Laws.BitsAllLaws
import Derived.Test.YtgfkdjmoflbmdaaGreatDoorMPl8xPl9
import Derived.Lib.ConvBytes
namespace Go.Proofs.YtgfkdjmoflbmdaaGreatDoor
open Go.RowKit
open Go.Proofs

/-- a version's parts come back, the numbers in a row of one's own -/
def PartsBack (t : TypeId) (w : World) (v : Bool) (ns : List Nat) (bd og : ByteArray) (e : Ending) (w' : World) : Prop :=
  ∃ A c, e = .returned (.agg #[.bool v, .slice A ns.length c, .string bd, .string og]) ∧ w'.ownsRow w.heap.size t 2 (.slice A ns.length c) ns.length (IntC ns) ∧ Below w.heap.size w w'
theorem parts_end {w w1 : World} {g B n : Nat} {t tr : TypeId} {cs : Array Value} {sl : Value} {xs : List Value} (hown : w1.ownsRow B t 2 sl n xs) (hR : Blk w1 g tr cs) (ht : t ≠ tr) (hB : w.heap.size ≤ B) (hg : w.heap.size ≤ g) (hb : Below w.heap.size w w1) (a b c d : Value) :
    ((((w1.setCell ⟨g, 0, none⟩ a).setCell ⟨g, 1, none⟩ b).setCell ⟨g, 2, none⟩ c).setCell ⟨g, 3, none⟩ d).ownsRow w.heap.size t 2 sl n xs ∧ Below w.heap.size w ((((w1.setCell ⟨g, 0, none⟩ a).setCell ⟨g, 1, none⟩ b).setCell ⟨g, 2, none⟩ c).setCell ⟨g, 3, none⟩ d) := by
  have hne := own_blk_ne hown hR ht
  refine ⟨own_lower ?_ hB, (((hb.setCell hg _).setCell hg _).setCell hg _).setCell hg _⟩
  exact own_far (own_far (own_far (own_far hown hne _) hne _) hne _) hne _
end Go.Proofs.YtgfkdjmoflbmdaaGreatDoor

namespace Go.Proofs.YtgfkdjmoflbmdaaGreatDoor
open Go.RowKit
open Go.Proofs

/-- what a cell holds -/
def rcell (w : World) (a : Addr) : Value := (w.cell? a).getD undef
theorem rcell_at {w : World} {g i : Nat} {t : TypeId} {cs : Array Value} (h : Blk w g t cs) (hi : i < cs.size) : w.cell? ⟨g, i, none⟩ = some (rcell w ⟨g, i, none⟩) := by
  unfold rcell
  rw [h.cell i, Array.getElem?_eq_getElem hi]; rfl
/-- the version's block (of kind t), the result's block (of kind r) -/
structure TurnSt (t r : TypeId) (w : World) (v : Bool) (A : Option Addr) (n c : Nat) (bd og : ByteArray) (w' : World) : Prop where
  par : Blk w' w.heap.size t #[.bool v, .slice A n c, .string bd, .string og]
  res : ∃ cs, Blk w' (w.heap.size + 1) r cs ∧ cs.size = 4
  bel : Below w.heap.size w w'
section
variable {t r : TypeId} {w w' w1 : World} {v : Bool} {A : Option Addr} {n c : Nat} {bd og : ByteArray}
theorem TurnSt.start (h : (w.alloc (.cells #[.bool v, .slice A n c, .string bd, .string og] t)).alloc (.cells #[.bool false, .slice none 0 0, .string ⟨#[]⟩, .string ⟨#[]⟩] r) = w') : TurnSt t r w v A n c bd og w' := by
  refine ⟨?_, ⟨#[.bool false, .slice none 0 0, .string ⟨#[]⟩, .string ⟨#[]⟩], ?_, rfl⟩, ?_⟩
  · rw [← h]; exact (Blk.new _ _ _).alloc _
  · rw [← h]
    have := Blk.new (w.alloc (.cells #[.bool v, .slice A n c, .string bd, .string og] t)) r #[.bool false, .slice none 0 0, .string ⟨#[]⟩, .string ⟨#[]⟩]
    rw [World.size_alloc] at this
    exact this
  · rw [← h]; exact ((Below.refl _ _).alloc (Nat.le_refl _) _).alloc (by simp) _
theorem TurnSt.all (h : TurnSt t r w v A n c bd og w') :
    w'.cell? ⟨w.heap.size, 0, none⟩ = some (.bool v) ∧ w'.cell? ⟨w.heap.size, 1, none⟩ = some (.slice A n c) ∧ w'.cell? ⟨w.heap.size, 2, none⟩ = some (.string bd) ∧ w'.cell? ⟨w.heap.size, 3, none⟩ = some (.string og) ∧ w'.cell? ⟨w.heap.size + 1, 0, none⟩ = some (rcell w' ⟨w.heap.size + 1, 0, none⟩) ∧ w'.cell? ⟨w.heap.size + 1, 1, none⟩ = some (rcell w' ⟨w.heap.size + 1, 1, none⟩) ∧ w'.cell? ⟨w.heap.size + 1, 2, none⟩ = some (rcell w' ⟨w.heap.size + 1, 2, none⟩) ∧ w'.cell? ⟨w.heap.size + 1, 3, none⟩ = some (rcell w' ⟨w.heap.size + 1, 3, none⟩) ∧ w'.frozen? ⟨w.heap.size + 1, 0, none⟩ = false ∧ w'.frozen? ⟨w.heap.size + 1, 1, none⟩ = false ∧ w'.frozen? ⟨w.heap.size + 1, 2, none⟩ = false ∧ w'.frozen? ⟨w.heap.size + 1, 3, none⟩ = false ∧ TurnSt t r w v A n c bd og w' := by
  obtain ⟨cs, h1, h2⟩ := h.res
  exact ⟨by simpa using h.par.cell 0, by simpa using h.par.cell 1, by simpa using h.par.cell 2, by simpa using h.par.cell 3, rcell_at h1 (by omega), rcell_at h1 (by omega), rcell_at h1 (by omega), rcell_at h1 (by omega), h1.frozen 0, h1.frozen 1, h1.frozen 2, h1.frozen 3, h⟩
theorem TurnSt.drew (h : TurnSt t r w v A n c bd og w') : TurnSt t r w v A n c bd og w'.drew := ⟨h.par, h.res, h.bel.drew⟩
theorem TurnSt.below (h : TurnSt t r w v A n c bd og w') (hb : Below w'.heap.size w' w1) : TurnSt t r w v A n c bd og w1 := by
  obtain ⟨cs, h1, h2⟩ := h.res
  exact ⟨h.par.below hb h.par.lt, ⟨cs, h1.below hb h1.lt, h2⟩, h.bel.trans (hb.mono h.bel.size)⟩
theorem TurnSt.stored (h : TurnSt t r w v A n c bd og w') (x0 x1 x2 x3 : Value) :
    TurnSt t r w v A n c bd og ((((w'.setCell ⟨w.heap.size + 1, 0, none⟩ x0).setCell ⟨w.heap.size + 1, 1, none⟩ x1).setCell ⟨w.heap.size + 1, 2, none⟩ x2).setCell ⟨w.heap.size + 1, 3, none⟩ x3) := by
  have hne : w.heap.size ≠ w.heap.size + 1 := by omega
  obtain ⟨cs, h1, h2⟩ := h.res
  exact ⟨(((h.par.far hne _).far hne _).far hne _).far hne _, ⟨_, (((h1.set_ 0 x0).set_ 1 x1).set_ 2 x2).set_ 3 x3, by simp [h2]⟩, (((h.bel.setCell (by simp) _).setCell (by simp) _).setCell (by simp) _).setCell (by simp) _⟩
end
end Go.Proofs.YtgfkdjmoflbmdaaGreatDoor

namespace Go.Proofs.YtgfkdjmoflbmdaaGreatDoor
open Go.RowKit
open Go.Proofs

/-- so many bytes at an address -/
def ByAt (w : World) (b o : Nat) (xs : List Nat) : Prop := ∀ j (h : j < xs.length), w.cell? ⟨b, o + j, none⟩ = some (.int .u8 ((xs[j] : Nat) : Int))
set_option maxRecDepth 100000 in
set_option maxHeartbeats 1000000 in
theorem be32_any (b o n c x0 x1 x2 x3 : Nat) (W : World) (h4 : 4 ≤ n) (h0 : x0 < 256) (h1 : x1 < 256) (h2 : x2 < 256) (h3 : x3 < 256) (c0 : W.cell? ⟨b, o, none⟩ = some (.int .u8 (x0 : Int))) (c1 : W.cell? ⟨b, o + 1, none⟩ = some (.int .u8 (x1 : Int))) (c2 : W.cell? ⟨b, o + 2, none⟩ = some (.int .u8 (x2 : Int))) (c3 : W.cell? ⟨b, o + 3, none⟩ = some (.int .u8 (x3 : Int))) :
    Calls Tryz.prog 188 #[.slice (some ⟨b, o, none⟩) n c] W fun e w' => e = .returned (.int .u32 ((x3 + 256 * x2 + 65536 * x1 + 16777216 * x0 : Nat) : Int)) ∧ ∃ q, w' = W.drewN q := by
  have i0 : (0 : Int) < (n : Int) := by omega
  have i1 : (1 : Int) < (n : Int) := by omega
  have i2 : (2 : Int) < (n : Int) := by omega
  have i3 : (3 : Int) < (n : Int) := by omega
  have p0 : 0 < n := by omega
  have p1 : 1 < n := by omega
  have p2 : 2 < n := by omega
  have p3 : 3 < n := by omega
  go_enter Tryz.func188, Tryz.ntmps188
  go_wp2_with fail
  go_quiet (fail)
  go_wp2
  go_ret
  refine ⟨ret_int ?_, _, rfl⟩
  rw [u32_or8 (x3 : Int) ((x2 : Int) * 256) (by omega) (by omega) (by omega) (by omega) (by omega), u32_or16 ((x3 : Int) + (x2 : Int) * 256) ((x1 : Int) * 65536) (by omega) (by omega) (by omega) (by omega) (by omega), u32_or24 ((x3 : Int) + (x2 : Int) * 256 + (x1 : Int) * 65536) ((x0 : Int) * 16777216) (by omega) (by omega) (by omega) (by omega) (by omega)]
  omega
theorem quiet_of_draws {P : Program} {f : FuncId} {args : Array Value} {v : Value} (w : World) (n : Nat) (h : Calls P f args (w.drewN n) fun e w' => e = .returned v ∧ ∃ q, w' = (w.drewN n).drewN q) :
    Calls P f args (w.drewN n) fun e w'' => e = .returned v ∧ ∃ m, w'' = w.drewN m :=
  h.mono fun _ _ ⟨he, q, hq⟩ => ⟨he, n + q, by rw [hq, World.drewN_drewN]⟩
theorem ByAt.at0 {w : World} {b o : Nat} {x : Nat} {xs : List Nat} (h : ByAt w b o (x :: xs)) : w.cell? ⟨b, o, none⟩ = some (.int .u8 (x : Int)) := h 0 (by simp)
theorem ByAt.tail {w : World} {b o : Nat} {x : Nat} {xs : List Nat} (h : ByAt w b o (x :: xs)) : ByAt w b (o + 1) xs := fun j hj => by
  have := h (j + 1) (by simpa using hj)
  rw [show o + 1 + j = o + (j + 1) from by omega]
  simpa using this
/-- the number of four bytes, the highest first -/
def be4 (x0 x1 x2 x3 : Nat) : Nat := x3 + 256 * x2 + 65536 * x1 + 16777216 * x0
theorem be4_lt {x0 x1 x2 x3 : Nat} (h0 : x0 < 256) (h1 : x1 < 256) (h2 : x2 < 256) (h3 : x3 < 256) : be4 x0 x1 x2 x3 < 4294967296 := by unfold be4; omega
theorem u64_or32_high (y x : Int) (hy₀ : 0 ≤ y) (hy : y < 4294967296) (hx₀ : 0 ≤ x) (hx : x % 4294967296 = 0) (hx₁ : x < 18446744073709551616) : bits .or .u64 x y = x + y :=
  bits_join .u64 64 (by decide) wraps_u64 32 x y hx₀ hx hx₁ hy₀ hy (by omega)
set_option maxRecDepth 100000 in
set_option maxHeartbeats 1000000 in
theorem be64_any (b o n c x0 x1 x2 x3 x4 x5 x6 x7 : Nat) (W : World) (h8 : 8 ≤ n) (hnc : n ≤ c) (h0 : x0 < 256) (h1 : x1 < 256) (h2 : x2 < 256) (h3 : x3 < 256) (h4 : x4 < 256) (h5 : x5 < 256) (h6 : x6 < 256) (h7 : x7 < 256) (hc : ByAt W b o [x0, x1, x2, x3, x4, x5, x6, x7]) :
    Calls Tryz.prog 187 #[.slice (some ⟨b, o, none⟩) n c] W fun e w' => e = .returned (.int .u64 ((be4 x4 x5 x6 x7 + 4294967296 * be4 x0 x1 x2 x3 : Nat) : Int)) ∧ ∃ q, w' = W.drewN q := by
  have e0 := hc.at0
  have e1 := hc.tail.at0
  have e2 := hc.tail.tail.at0
  have e3 := hc.tail.tail.tail.at0
  have e4 := hc.tail.tail.tail.tail.at0
  have e5 := hc.tail.tail.tail.tail.tail.at0
  have e6 := hc.tail.tail.tail.tail.tail.tail.at0
  have e7 := hc.tail.tail.tail.tail.tail.tail.tail.at0
  have l1 := be4_lt h0 h1 h2 h3
  have l2 := be4_lt h4 h5 h6 h7
  have A1 := Lib.hid (fun k => be32_any b o n c x0 x1 x2 x3 (W.drewN k) (by omega) h0 h1 h2 h3 e0 e1 e2 e3)
  have A2 := Lib.hid (fun k => be32_any b (o + 4) (n - 4) (c - 4) x4 x5 x6 x7 (W.drewN k) (by omega) h4 h5 h6 h7 e4 e5 e6 e7)
  rw [show x3 + 256 * x2 + 65536 * x1 + 16777216 * x0 = be4 x0 x1 x2 x3 from rfl] at A1
  rw [show x7 + 256 * x6 + 65536 * x5 + 16777216 * x4 = be4 x4 x5 x6 x7 from rfl] at A2
  obtain ⟨hi, hhi⟩ : ∃ hi, be4 x0 x1 x2 x3 = hi := ⟨_, rfl⟩
  obtain ⟨lo, hlo⟩ : ∃ lo, be4 x4 x5 x6 x7 = lo := ⟨_, rfl⟩
  rw [hhi] at l1 A1 ⊢
  rw [hlo] at l2 A2 ⊢
  have i7 : (7 : Int) < (n : Int) := by omega
  have p7 : 7 < n := by omega
  have i4 : (4 : Int) ≤ (n : Int) := by omega
  have p4 : 4 ≤ n := by omega
  have e7' : W.cell? ⟨b, o + 7, none⟩ = some (.int .u8 (x7 : Int)) := e7
  clear hhi hlo e0 e1 e2 e3 e4 e5 e6 e7
  go_enter Tryz.func187, Tryz.ntmps187
  go_wp2_with fail
  go_quiet ((first | (go_at_call_of 188 (Value.slice (some ⟨b, o, none⟩) n c); exact quiet_of_draws W _ (A1.out _)) | (go_at_call 188; exact quiet_of_draws W _ (A2.out _))))
  go_wp2
  go_ret
  refine ⟨ret_int ?_, _, rfl⟩
  rw [u64_or32_high (lo : Int) ((hi : Int) * 4294967296) (by omega) (by omega) (by omega) (by omega) (by omega)]
  omega
theorem beWord_any (b o n c : Nat) (ys : List Nat) (W : World) (h8 : 8 ≤ n) (hnc : n ≤ c) (hy : ys.length = 8) (hlt : ∀ y ∈ ys, y < 256) (hc : ByAt W b o ys.reverse) :
    Calls Tryz.prog 169 #[.slice (some ⟨b, o, none⟩) n c] W fun e w' => e = .returned (.int .u64 ((Pl.val 256 ys : Nat) : Int)) ∧ ∃ q, w' = W.drewN q := by
  match ys, hy with
  | [y0, y1, y2, y3, y4, y5, y6, y7], _ =>
    have hm : ∀ y ∈ [y0, y1, y2, y3, y4, y5, y6, y7], y < 256 := hlt
    have HB := Lib.hid (be64_any b o n c y7 y6 y5 y4 y3 y2 y1 y0 W h8 hnc (hm _ (by simp)) (hm _ (by simp)) (hm _ (by simp)) (hm _ (by simp)) (hm _ (by simp)) (hm _ (by simp)) (hm _ (by simp)) (hm _ (by simp)) hc)
    have hv : Pl.val 256 [y0, y1, y2, y3, y4, y5, y6, y7] = be4 y3 y2 y1 y0 + 4294967296 * be4 y7 y6 y5 y4 := by
      simp only [Pl.val, be4]; omega
    rw [← hv] at HB
    obtain ⟨v, hv2⟩ : ∃ v, Pl.val 256 [y0, y1, y2, y3, y4, y5, y6, y7] = v := ⟨_, rfl⟩
    rw [hv2] at HB ⊢
    clear hm hlt hv hv2 hc
    go_enter Tryz.func169, Tryz.ntmps169
    go_wp2_with (go_at_call 187; refine HB.out.mono ?_; rintro e w1 ⟨rfl, q, rfl⟩)
    go_ret
    exact ⟨rfl, q, rfl⟩
end Go.Proofs.YtgfkdjmoflbmdaaGreatDoor

namespace Go.Proofs.YtgfkdjmoflbmdaaGreatDoor
open Go.RowKit
open Go.Proofs

theorem make_none (w : World) : Calls Tryz.prog 168 #[.slice none 0 0, .int .i64 0] w fun e w' => e = .returned (.slice none 0 0) ∧ w = w' := by
  go_enter Tryz.func168, Tryz.ntmps168
  go_wp2
  go_ret
  exact ⟨rfl, rfl⟩
/-- a natural number comes back -/
def SetBytesBack (w : World) (N : Nat) (e : Ending) (w' : World) : Prop := ∃ v, e = .returned v ∧ NatAt w' w.heap.size v N ∧ Below w.heap.size w w'
theorem setBytes_nil (c : Nat) (A : Option Addr) (w : World) : Calls Tryz.prog 157 #[.slice none 0 0, .slice A 0 c] w (SetBytesBack w 0) := by
  have HN := Lib.hid (norm_any none 0 0 [] w rfl (Nat.le_refl _) (by omega) (Rd.nil _ _ _) (by simp))
  rw [show Pl.val M [] = 0 from rfl, Pl.digs_zero] at HN
  go_enter Tryz.func157, Tryz.ntmps157
  go_wp2_with fail
  refine (make_none w).mono ?_; rintro e w1 ⟨rfl, rfl⟩
  go_wp2
  go_loop [5] (fun iv => iv = .int .i64 0) (fun _ => 0)
  case atStart => rfl
  case round =>
    obtain rfl := hrel
    go_wp2_with (go_at_call 170; refine HN.out.mono ?_; rintro e w' ⟨rfl, _, _, rfl⟩)
    go_ret
    exact ⟨_, rfl, by unfold NatAt; rw [Pl.digs_zero]; exact World.ownsRow_nil _ _ _ _, Below.refl _ _⟩
theorem or_byte (d x j : Nat) (hd : d < 256 ^ j) (hx : x < 256) (hj : j < 8) : bits .or .u64 (d : Int) (IntKind.u64.wrap ((x : Int) * 2 ^ (8 * j))) = ((d + x * 256 ^ j : Nat) : Int) := by
  have e : (2 : Int) ^ (8 * j) = ((256 ^ j : Nat) : Int) := by
    rw [show ((256 ^ j : Nat) : Int) = (256 : Int) ^ j from by simp, Int.pow_mul]; rfl
  have h1 : 256 ^ j * 256 ≤ 18446744073709551616 := by
    have := Nat.pow_le_pow_right (n := 256) (by omega) (show j + 1 ≤ 8 by omega)
    rw [Nat.pow_succ] at this
    exact this
  have h2 : x * 256 ^ j ≤ 255 * 256 ^ j := Nat.mul_le_mul_right _ (by omega)
  have e2 : (x : Int) * ((256 ^ j : Nat) : Int) = ((x * 256 ^ j : Nat) : Int) := by simp
  rw [e, e2]
  rw [u64_wrap_id _ (by omega) (by omega)]
  rw [bits_join_low .u64 64 (by decide) wraps_u64 (8 * j) (d : Int) ((x * 256 ^ j : Nat) : Int) (by omega) (by rw [e]; omega) (by omega) (by omega) (by rw [e, ← e2]; exact Int.mul_emod_left _ _) (by omega)]
  omega
theorem rev_part (L : List Nat) (a r : Nat) (h : a + r ≤ L.length) : ((L.drop a).take r).reverse = (L.reverse.drop (L.length - a - r)).take r := by
  apply List.ext_getElem
  · simp; omega
  · intro i h1 h2
    simp only [List.length_reverse, List.length_take, List.length_drop] at h1
    rw [List.getElem_reverse, List.getElem_take, List.getElem_drop, List.getElem_take, List.getElem_drop, List.getElem_reverse]
    congr 1
    simp; omega
theorem ByAt.sub {w : World} {b o : Nat} {xs : List Nat} (h : ByAt w b o xs) (p r : Nat) : ByAt w b (o + p) ((xs.drop p).take r) := by
  intro j hj
  rw [List.length_take, List.length_drop] at hj
  have := h (p + j) (by omega)
  rw [show o + p + j = o + (p + j) from by omega, this]
  simp
theorem ByAt.keep {w w' : World} {b o : Nat} {xs : List Nat} (h : ByAt w b o xs) (hk : ∀ p u, p.block = b → w.cell? p = some u → w'.cell? p = some u) : ByAt w' b o xs := fun j hj => hk _ _ rfl (h j hj)
theorem Rd.of_words {w : World} {g : Nat} {ws : List Nat} {tl : List Value} (h : Blk w g 179 (WC ws ++ tl).toArray) : Rd w 1 (some ⟨g, 0, none⟩) ws.length (WC ws) := by
  refine ⟨by rw [WC_len]; omega, fun _ => ⟨g, 0, rfl, fun j u hu => ?_⟩⟩
  rw [Nat.zero_add, h.cell j]
  have hj := (List.getElem?_eq_some_iff.1 hu).1
  simp [List.getElem?_append_left hj, hu]
set_option maxRecDepth 100000 in
set_option maxHeartbeats 1000000 in
theorem setBytes_any (b o c : Nat) (L : List Nat) (w : World) (h0 : 0 < L.length) (hl : L.length ≤ 100000) (hc : L.length ≤ c) (hlt : ∀ d ∈ L, d < 256) (hB : ByAt w b o L.reverse) :
    Calls Tryz.prog 157 #[.slice none 0 0, .slice (some ⟨b, o, none⟩) L.length c] w (SetBytesBack w (Pl.val 256 L)) := by
  obtain ⟨m, hm⟩ : ∃ m, (L.length + 7) / 8 = m := ⟨_, rfl⟩
  have hm1 : 1 ≤ m ∧ m ≤ 100000 ∧ L.length ≤ 8 * m ∧ 8 * m < L.length + 8 := by omega
  obtain ⟨hm1, hm2, hm3, hm4⟩ := hm1
  have HLT := Lib.hid hlt
  have HB := Lib.hid hB
  have HMK := Lib.hid (make_any w.heap.size 0 0 m none [] w (World.ownsRow_nil _ _ _ _) hm1 (by omega) (Nat.le_refl _))
  have HM := Lib.hid hm
  clear hlt hB hm
  go_enter Tryz.func157, Tryz.ntmps157
  have hq : ((L.length : Int) + 8 - 1) / 8 = (m : Int) := by omega
  have HQ := Lib.hid hq
  clear hq
  go_wp2_with fail
  rw [HQ.out]
  refine HMK.out.mono ?_; rintro e w1 ⟨g, cap', tail, rfl, hg0, hBlk, hts, hmc, hcm, hb1, hor⟩
  clear hor
  have hbw : b < w.heap.size := World.block_lt_of_cell? w _ (HB.out 0 (by simpa using h0))
  have HB1 : Hid (ByAt w1 b o L.reverse) := Lib.hid (HB.out.keep fun p u hp hu => (hb1.cell (by omega)).trans hu)
  go_wp2
  go_loopw [5, 6] (fun iv kv wr => ∃ (k p : Nat) (ws : List Nat), ws.length = k ∧ 8 * k + p = L.length ∧ iv = .int .i64 (p : Int) ∧ kv = .int .i64 (k : Int) ∧ Blk wr g 179 (WC ws ++ tail.toList.drop k).toArray ∧ Pl.val M ws = Pl.val 256 (L.take (8 * k)) ∧ (∀ d ∈ ws, d < M) ∧ w1.grownBy wr (some g)) (fun iv _ _ => (intOf iv).toNat)
  case atStart => exact ⟨0, L.length, [], rfl, by omega, rfl, rfl, by simpa [WC] using hBlk, by simp [Pl.val], by simp, World.grownBy.refl _ _⟩
  case round =>
    obtain ⟨k, p, ws, hwk, hkp, rfl, rfl, hblk, hval, hws, hgr⟩ := hrel
    have HVAL := Lib.hid hval
    have HWS := Lib.hid hws
    have HWK := Lib.hid hwk
    clear hval hws hwk
    have HBR : Hid (ByAt wr b o L.reverse) := Lib.hid (HB1.out.keep fun p u hp hu => hgr.cell hu (by intro e; injection e with e; omega))
    by_cases h8 : 8 ≤ p
    · obtain ⟨q, rfl⟩ : ∃ q, p = q + 8 := ⟨p - 8, by omega⟩
      have hby : ByAt wr b (o + q) ((L.drop (8 * k)).take 8).reverse := by
        rw [rev_part L (8 * k) 8 (by omega), show L.length - 8 * k - 8 = q from by omega]
        exact HBR.out.sub q 8
      have hyl : ((L.drop (8 * k)).take 8).length = 8 := by simp; omega
      have hylt : ∀ y ∈ (L.drop (8 * k)).take 8, y < 256 := fun y hy => HLT.out y (List.mem_of_mem_drop (List.mem_of_mem_take hy))
      have HW := Lib.hid (beWord_any b (o + q) 8 (c - q) _ wr (by omega) (by omega) hyl hylt hby)
      have hst := Pl.word_step L ws k 8 HWK.out HVAL.out (by omega)
      have hwl := Pl.word_lt L HLT.out (8 * k) 8 (by omega)
      obtain ⟨x, hx⟩ : ∃ x, Pl.val 256 ((L.drop (8 * k)).take 8) = x := ⟨_, rfl⟩
      rw [hx] at HW hst hwl
      have HST := Lib.hid hst
      clear hst hx hby hyl hylt
      have hkm : k < m := by omega
      have hkc : k < cap' := by omega
      obtain ⟨u, hu⟩ : ∃ u, wr.cell? ⟨g, k, none⟩ = some u := by
        rw [hblk.cell k]
        have : k < (WC ws ++ tail.toList.drop k).toArray.size := by have := HWK.out; simp [WC]; omega
        exact ⟨_, Array.getElem?_eq_getElem this⟩
      have hf := hblk.frozen k
      go_wp2_with fail
      refine HW.out.mono ?_; rintro e w2 ⟨rfl, nq, rfl⟩
      have hblk2 : Blk (wr.drewN nq) g 179 (WC ws ++ tail.toList.drop k).toArray := hblk
      have hu2 : (wr.drewN nq).cell? ⟨g, k, none⟩ = some u := hu
      have hf2 : (wr.drewN nq).frozen? ⟨g, k, none⟩ = false := hf
      have hgr2 : w1.grownBy (wr.drewN nq) (some g) := hgr.trans (grown_drewN _ _ _)
      generalize wr.drewN nq = W2 at hblk2 hu2 hf2 hgr2 ⊢
      clear hu hf hblk hgr
      go_wp2
      go_roundw
      case rel =>
        refine ⟨k + 1, q, ws ++ [x], by simp [HWK.out], by omega, by go_num, by go_num, ?_, ?_, ?_, hgr2.trans (grown_set _ _ _ _)⟩
        · have := hblk2.set_ k (.int .u64 (x : Int))
          rw [set_mid (WC ws) tail.toList k (by rw [Array.length_toList]; omega) (by rw [WC_len, HWK.out])] at this
          rw [WC_append]; exact this
        · rw [show 8 * (k + 1) = 8 * k + 8 from by omega]; exact HST.out
        · intro d hd
          rcases List.mem_append.1 hd with hd | hd
          · exact HWS.out d hd
          · rw [List.mem_singleton] at hd; subst hd; exact hwl
      case measure => simp [intOf] <;> omega
    · by_cases hp0 : p = 0
      · subst hp0
        have hkm : k = m := by omega
        subst hkm
        have htk : L.take (8 * k) = L := List.take_of_length_le (by omega)
        have hrd := Rd.of_words hblk
        rw [HWK.out] at hrd
        have HN := Lib.hid (norm_any (some ⟨g, 0, none⟩) k cap' ws wr HWK.out hmc (by omega) hrd HWS.out)
        have HV2 : Hid (Pl.val M ws = Pl.val 256 L) := Lib.hid (by rw [HVAL.out, htk])
        rw [HV2.out] at HN
        clear htk hrd
        go_wp2_with (go_at_call 170; refine HN.out.mono ?_; rintro e w' ⟨rfl, hn1, hn2, rfl⟩)
        go_ret
        refine ⟨_, rfl, ?_, ?_⟩
        · unfold NatAt
          have := own_of_blk (base := w.heap.size) (n := (Pl.digs M (Pl.val 256 L)).length) (cap := cap') hblk hg0 (by have := HWK.out; omega) (by have := HWK.out; simp; omega) hcm
          rw [hn2] at this; exact this
        · exact hb1.grown hgr hb1.size (fun k hk => by injection hk with hk; omega)
      · have hm : m = k + 1 := by omega
        subst hm
        obtain ⟨R, hR⟩ : ∃ R, L.drop (8 * k) = R := ⟨_, rfl⟩
        have hRl : R.length = p := by rw [← hR, List.length_drop]; omega
        have hRlt : ∀ y ∈ R, y < 256 := fun y hy => HLT.out y (List.mem_of_mem_drop (by rw [hR]; exact hy))
        have hRc : ∀ j (h : j < R.length), wr.cell? ⟨b, o + (p - 1 - j), none⟩ = some (.int .u8 ((R[j] : Nat) : Int)) := by
          intro j hj
          rw [HBR.out (p - 1 - j) (by simp; omega), List.getElem_reverse]
          congr 3
          subst hR
          rw [List.getElem_drop]
          congr 1
          omega
        have HR := Lib.hid hR
        have HRL := Lib.hid hRl
        have HRLT := Lib.hid hRlt
        have HRC := Lib.hid hRc
        clear hR hRl hRlt hRc
        go_wp2
        go_loop [5, 7, 8] (fun iv dv sv => ∃ j : Nat, j ≤ p ∧ iv = .int .i64 ((p - j : Nat) : Int) ∧ dv = .int .u64 ((Pl.val 256 (R.take j) : Nat) : Int) ∧ sv = .int .u64 ((8 * j : Nat) : Int)) (fun iv _ _ => (intOf iv).toNat)
        case atStart => exact ⟨0, Nat.zero_le _, rfl, by simp [Pl.val], rfl⟩
        case round =>
          obtain ⟨j, hj, rfl, rfl, rfl⟩ := hrel
          by_cases hjp : j < p
          · obtain ⟨q, hq⟩ : ∃ q, p - j = q + 1 := ⟨p - j - 1, by omega⟩
            have hcell := HRC.out j (by rw [HRL.out]; exact hjp)
            have hx256 := HRLT.out _ (List.getElem_mem (show j < R.length by rw [HRL.out]; exact hjp))
            have hstep := Pl.byte_step R j (by rw [HRL.out]; exact hjp)
            have hvl := Pl.val_lt 256 (R.take j) (fun y hy => HRLT.out y (List.mem_of_mem_take hy))
            rw [List.length_take, HRL.out, Nat.min_eq_left (by omega)] at hvl
            obtain ⟨x, hx⟩ : ∃ x, R[j]'(by rw [HRL.out]; exact hjp) = x := ⟨_, rfl⟩
            obtain ⟨d, hd⟩ : ∃ d, Pl.val 256 (R.take j) = d := ⟨_, rfl⟩
            rw [hx] at hcell hx256 hstep
            rw [show p - 1 - j = q from by omega] at hcell
            rw [hd] at hstep hvl ⊢
            rw [hq]
            have HSTEP := Lib.hid hstep
            have HVL := Lib.hid hvl
            have HQ2 := Lib.hid hq
            have hql : q < L.length := by omega
            have hj7 : j < 7 := by omega
            clear hx hd hstep hvl hq
            go_wp2
            go_round
            case rel =>
              refine ⟨j + 1, by omega, ?_, ?_, ?_⟩
              · rw [show p - (j + 1) = q from by have := HQ2.out; omega]
              · rw [or_byte d x j HVL.out hx256 (by omega), HSTEP.out]
              · go_num
            case measure => simp [intOf] <;> omega
          · obtain rfl : j = p := by omega
            have htk : R.take j = R := List.take_of_length_le (by rw [HRL.out]; exact Nat.le_refl _)
            rw [htk]
            have hst := Pl.word_step L ws k j HWK.out HVAL.out (by omega)
            rw [HR.out, htk, show L.take (8 * k + j) = L from List.take_of_length_le (by omega)] at hst
            have hwl := Pl.word_lt L HLT.out (8 * k) j (by omega)
            rw [HR.out, htk] at hwl
            obtain ⟨x, hx⟩ : ∃ x, Pl.val 256 R = x := ⟨_, rfl⟩
            rw [hx] at hst hwl ⊢
            have hblk3 := hblk.set_ k (.int .u64 (x : Int))
            rw [set_mid (WC ws) tail.toList k (by rw [Array.length_toList]; omega) (by rw [WC_len, HWK.out])] at hblk3
            have hblk4 : Blk (wr.setCell ⟨g, k, none⟩ (.int .u64 (x : Int))) g 179 (WC (ws ++ [x]) ++ tail.toList.drop (k + 1)).toArray := by rw [WC_append]; exact hblk3
            have hrd := Rd.of_words hblk4
            rw [show (ws ++ [x]).length = k + 1 from by simp [HWK.out]] at hrd
            have hall : ∀ d ∈ ws ++ [x], d < M := by
              intro d hd
              rcases List.mem_append.1 hd with hd | hd
              · exact HWS.out d hd
              · rw [List.mem_singleton] at hd; subst hd; exact hwl
            have HN := Lib.hid (norm_any (some ⟨g, 0, none⟩) (k + 1) cap' (ws ++ [x]) _ (by simp [HWK.out]) hmc (by omega) hrd hall)
            rw [show Pl.val M (ws ++ [x]) = Pl.val 256 L from hst] at HN
            obtain ⟨u, hu⟩ : ∃ u, wr.cell? ⟨g, k, none⟩ = some u := by
              rw [hblk.cell k]
              have : k < (WC ws ++ tail.toList.drop k).toArray.size := by have := HWK.out; simp [WC]; omega
              exact ⟨_, Array.getElem?_eq_getElem this⟩
            have hf := hblk.frozen k
            have hkc : k < cap' := by omega
            have hgr3 : w1.grownBy (wr.setCell ⟨g, k, none⟩ (.int .u64 (x : Int))) (some g) := hgr.trans (grown_set _ _ _ _)
            have HX := Lib.hid hx
            clear hst hx htk hrd hall hblk3
            go_wp2_with (go_at_call 170; refine HN.out.mono ?_; rintro e w' ⟨rfl, hn1, hn2, rfl⟩)
            go_ret
            refine ⟨_, rfl, ?_, ?_⟩
            · unfold NatAt
              have := own_of_blk (base := w.heap.size) (n := (Pl.digs M (Pl.val 256 L)).length) (cap := cap') hblk4 hg0 (by have := HWK.out; simp; omega) (by have := HWK.out; simp; omega) hcm
              rw [hn2] at this; exact this
            · exact hb1.grown hgr3 hb1.size (fun k hk => by injection hk with hk; omega)
end Go.Proofs.YtgfkdjmoflbmdaaGreatDoor

namespace Go.Proofs.YtgfkdjmoflbmdaaGreatDoor
open Go.RowKit
open Go.Proofs

set_option maxRecDepth 100000 in
set_option maxHeartbeats 1000000 in
theorem bigs_any (A : Option Addr) (c : Nat) (ns : List Nat) (w : World) (hr : Rd w 2 A ns.length (IntC ns)) (hl : ns.length ≤ 40000) :
    Calls Tryz.prog 88 #[.slice A ns.length c] w (PlainsBack 118 w ns) := by
  obtain ⟨i0, hi, hz0, hz1, hz2⟩ := info_parts info118
  go_enter Tryz.func88, Tryz.ntmps88
  go_wp2
  go_loopw [3, 8] (fun v iv wr => ∃ k : Nat, k ≤ ns.length ∧ iv = .int .i64 (k : Int) ∧ wr.ownsRow w.heap.size 118 2 v k (IntC (ns.take k)) ∧ Below w.heap.size w wr) (fun _ iv _ => ns.length - (intOf iv).toNat)
  case atStart => exact ⟨0, Nat.zero_le _, rfl, World.ownsRow_nil _ _ _ _, Below.refl _ _⟩
  case round =>
    obtain ⟨k, hk, rfl, hown, hbel⟩ := hrel
    by_cases hlt : k < ns.length
    · obtain ⟨b, o, rfl, hc0, hc1⟩ := (hr.below hbel).int_at hlt
      obtain ⟨l1, l2, l3, l4⟩ := cell_lts hc0
      have hsn := IntC_snoc ns k hlt
      obtain ⟨x, hx⟩ : ∃ x, Pl.magOf ns[k] = x := ⟨_, rfl⟩
      rw [hx] at hc1 hsn
      have HSN := Lib.hid hsn
      clear hx hsn
      have hown1 := hown.alloc (.cells #[.bool false, S x] 46)
      have hbel1 := hbel.alloc hbel.size (.cells #[.bool false, S x] 46)
      have hs1 : w.heap.size ≤ (wr.alloc (.cells #[.bool false, S x] 46)).heap.size := hbel1.size
      go_wp2_with (at_builtin; refine wpList_app2 _ rfl (.tmp 12) (.tmp 14) 60 rfl w.heap.size 118 i0 _ 24 Tryz.underlying60 hi hz0 hz1 hz2 rfl _ _ _ rfl hown1 _ _ (show Value.slice (some ⟨wr.heap.size + 1, 0, none⟩) 1 1 = _ by rw [World.size_alloc]) rfl rfl (by omega) (by omega) hs1 ?_; intro g cap w2 hown2 hg2 hat2 hb2; clear hg2 hat2)
      go_roundw
      case rel => exact ⟨k + 1, by omega, by go_num, own_cast hown2 rfl HSN.out, hbel1.trans hb2⟩
      case measure => simp [intOf]; omega
    · obtain rfl : k = ns.length := by omega
      rw [List.take_length] at hown
      obtain ⟨A', c', rfl⟩ := own_form hown
      go_wp2
      go_ret
      exact ⟨A', c', rfl, hown, hbel⟩

/-- a text as bytes of its own -/
theorem conv_bytes (s : ByteArray) (w : World) (hs : s.size ≤ 1000000) : ∃ cap w', (convert 9 91 (.string s)).run Tryz.prog w = .ok (.slice (some ⟨w.heap.size, 0, none⟩) s.size cap) w' ∧ ByAt w' w.heap.size 0 (s.data.toList.map UInt8.toNat) ∧ s.size ≤ cap ∧ cap ≤ maxLen ∧
    w'.heap.size = w.heap.size + 1 ∧ Below w.heap.size w w' := by
  refine ⟨_, _, Lib.run_convert_string_bytes (P := Tryz.prog) w 9 91 5 s Tryz.underlying9 Tryz.underlying91 Tryz.underlying5, ?_, grownCap_ge _ _ _ _, grownCap_le_maxLen _ _ _ _ (by unfold maxLen; omega), Lib.bytesWorld_size _ _ _, ?_⟩
  · intro j hj
    rw [List.length_map, len_list] at hj
    rw [Nat.zero_add, Lib.bytesWorld_cell w 5 s j hj]
    congr 3
    rw [List.getElem_map, List.getD_eq_getElem?_getD, List.getElem?_eq_getElem (by rw [len_list]; exact hj)]
    rfl
  · exact ⟨rfl, rfl, rfl, by rw [Lib.bytesWorld_size]; omega, fun k hk => Lib.bytesWorld_at_old w 5 s k hk⟩

/-- a number comes back in block Z -/
def IntBack (Z B : Nat) (w : World) (N : Nat) (e : Ending) (w' : World) : Prop := e = .returned (.pointer (some ⟨Z, 0, none⟩)) ∧ IntAt w' Z B false N ∧ Below Z w w'
theorem SetBytes_any (Z b o n c : Nat) (L : List Nat) (w : World) (hn : L.length = n) (hl : n ≤ 100000) (hc : n ≤ c) (hlt : ∀ d ∈ L, d < 256) (hB : ByAt w b o L.reverse) (hZ : Blk w Z 128 #[.bool false, .slice none 0 0]) :
    Calls Tryz.prog 140 #[.pointer (some ⟨Z, 0, none⟩), .slice (some ⟨b, o, none⟩) n c] w (IntBack Z w.heap.size w (Pl.val 256 L)) := by
  have hS : Calls Tryz.prog 157 #[.slice none 0 0, .slice (some ⟨b, o, none⟩) n c] w (SetBytesBack w (Pl.val 256 L)) := by
    by_cases h0 : n = 0
    · subst h0
      have hL : L = [] := List.eq_nil_of_length_eq_zero hn
      rw [hL]
      exact setBytes_nil c _ w
    · subst hn
      exact setBytes_any b o c L w (by omega) hl hc hlt hB
  have HS := Lib.hid hS
  have z0 := hZ.cell 0
  have z1 := hZ.cell 1
  simp at z0 z1
  clear hS hn hB hlt
  obtain ⟨N, hN⟩ : ∃ N, Pl.val 256 L = N := ⟨_, rfl⟩
  rw [hN] at HS ⊢
  clear hN
  go_enter Tryz.func140, Tryz.ntmps140
  go_wp2_with fail
  refine HS.out.mono ?_; rintro e w1 ⟨v, rfl, hNat, hb1⟩
  have hZ1 := hZ.below hb1 hZ.lt
  have c0 := hZ1.cell 0
  have c1 := hZ1.cell 1
  have f0 := hZ1.frozen 0
  have f1 := hZ1.frozen 1
  simp at c0 c1
  obtain ⟨A, cp, rfl⟩ := own_form hNat
  go_wp2
  go_ret
  have hlZ := hZ.lt
  have hZ2 := (hZ1.set_ 1 (.slice A (Pl.digs M N).length cp)).set_ 0 (.bool false)
  refine ⟨rfl, ⟨_, hZ2, own_far (own_far hNat ?_ _) ?_ _⟩, ((hb1.mono (Nat.le_of_lt hlZ)).setCell (Nat.le_refl _) _).setCell (Nat.le_refl _) _⟩
  · intro e; have := (World.ownsRow.lt hNat _ e).1; simp only at this; omega
  · intro e; have := (World.ownsRow.lt hNat _ e).1; simp only at this; omega
theorem mag_bytes (N : Nat) : ((Pl.magOf N).map UInt8.toNat).reverse = Pl.digs 256 N := by
  rw [Pl.magOf, List.map_map, ← List.map_reverse, List.reverse_reverse]
  have : ∀ d ∈ Pl.digs 256 N, (UInt8.toNat ∘ UInt8.ofNat) d = d := fun d hd => by
    have := Pl.digs_lt 256 N (by omega) d hd
    simp; omega
  rw [List.map_congr_left this, List.map_id']
/-- a pointer to a number of its own comes back -/
def BigNew (w : World) (N : Nat) (e : Ending) (w' : World) : Prop := ∃ Z B, e = .returned (.pointer (some ⟨Z, 0, none⟩)) ∧ IntAt w' Z B false N ∧ Below w.heap.size w w'
set_option maxRecDepth 100000 in
theorem zzBig_any (N : Nat) (w : World) (hl : (Pl.magOf N).length ≤ 30000) :
    Calls Tryz.prog 120 #[.agg #[.bool false, S (Pl.magOf N)]] w (BigNew w N) := by
  obtain ⟨W, hW⟩ : ∃ W, (w.alloc (.cells #[.bool false, S (Pl.magOf N)] 118)).alloc (.cells #[.bool false, .slice none 0 0] 128) = W := ⟨_, rfl⟩
  have hbW : Below w.heap.size w W := by rw [← hW]; exact ((Below.refl _ _).alloc (Nat.le_refl _) _).alloc (by simp) _
  have hP : Blk W w.heap.size 118 #[.bool false, S (Pl.magOf N)] := by rw [← hW]; exact (Blk.new _ _ _).alloc _
  have hZ : Blk W (w.heap.size + 1) 128 #[.bool false, .slice none 0 0] := by
    rw [← hW]
    have := Blk.new (w.alloc (.cells #[.bool false, S (Pl.magOf N)] 118)) 128 #[.bool false, .slice none 0 0]
    rw [World.size_alloc] at this
    exact this
  obtain ⟨cap, W2, hcv, hby, hc1, hc2, hsz, hb2⟩ := conv_bytes ⟨(Pl.magOf N).toArray⟩ W (by rw [S_size]; omega)
  have hZ2 := hZ.below hb2 hZ.lt
  have hP2 := hP.below hb2 hP.lt
  have hby2 : ByAt W2 W.heap.size 0 (Pl.digs 256 N).reverse := by
    rw [← mag_bytes, List.reverse_reverse]; exact hby
  rw [S_size] at hcv hc1
  have hml : (Pl.digs 256 N).length = (Pl.magOf N).length := (Pl.magOf_length N).symm
  have HS := Lib.hid (SetBytes_any (w.heap.size + 1) W.heap.size 0 (Pl.magOf N).length cap (Pl.digs 256 N) W2 hml (by omega) hc1 (Pl.digs_lt 256 N (by omega)) hby2 hZ2)
  rw [Pl.val_digs 256 N (by omega)] at HS
  have p0 := hP.cell 0
  have p1 := hP.cell 1
  simp at p0 p1
  have HW := Lib.hid hW
  have hbel2 := hbW.trans (hb2.mono hbW.size)
  have HCV := Lib.hid hcv
  clear hW hml hcv
  go_enter Tryz.func120, Tryz.ntmps120
  go_wp2_with fail
  rw [HW.out, HCV.out]
  go_wp2_with fail
  refine HS.out.mono ?_; rintro e w3 ⟨rfl, hI, hb3⟩
  have hP3 := hP2.below hb3 (by omega)
  have q0 := hP3.cell 0
  simp at q0
  go_wp2
  go_ret
  exact ⟨_, _, rfl, hI, hbel2.trans (hb3.mono (by omega))⟩
/-- an own row of pointers to numbers comes back -/
def BigsBack (w : World) (ns : List Nat) (e : Ending) (w' : World) : Prop := ∃ A c, e = .returned (.slice A ns.length c) ∧ OwnBigs w' w.heap.size (.slice A ns.length c) ns ∧ Below w.heap.size w w'
set_option maxRecDepth 100000 in
set_option maxHeartbeats 1000000 in
theorem zzBigs_any (A : Option Addr) (c : Nat) (ns : List Nat) (w : World) (hr : Rd w 2 A ns.length (IntC ns)) (hl : ns.length ≤ 40000) (hw : ∀ n ∈ ns, (Pl.magOf n).length ≤ 30000) :
    Calls Tryz.prog 106 #[.slice A ns.length c] w (BigsBack w ns) := by
  obtain ⟨i0, hi, hz0, hz1, hz2⟩ := info_parts info123
  have HWN := Lib.hid hw
  clear hw
  go_enter Tryz.func106, Tryz.ntmps106
  go_wp2
  go_loopw [3, 8] (fun v iv wr => ∃ k : Nat, k ≤ ns.length ∧ iv = .int .i64 (k : Int) ∧ OwnBigs wr w.heap.size v (ns.take k) ∧ Below w.heap.size w wr) (fun _ iv _ => ns.length - (intOf iv).toNat)
  case atStart => exact ⟨0, Nat.zero_le _, rfl, ⟨[], rfl, World.ownsRow_nil _ _ _ _, fun k h => absurd h (by simp)⟩, Below.refl _ _⟩
  case round =>
    obtain ⟨k, hk, rfl, hob, hbel⟩ := hrel
    by_cases hlt : k < ns.length
    · obtain ⟨b, o, rfl, hc0, hc1⟩ := (hr.below hbel).int_at hlt
      obtain ⟨l1, l2, l3, l4⟩ := cell_lts hc0
      have hwk := HWN.out _ (List.getElem_mem hlt)
      have htk : ns.take (k + 1) = ns.take k ++ [ns[k]] := List.take_succ_eq_append_getElem hlt
      have hkl : (ns.take k).length = k := by rw [List.length_take]; omega
      obtain ⟨N, hN⟩ : ∃ N, ns[k] = N := ⟨_, rfl⟩
      rw [hN] at hc1 hwk htk
      have HTK := Lib.hid htk
      have HKL := Lib.hid hkl
      clear hN htk hkl
      have HZB := Lib.hid (zzBig_any N (wr.alloc (.cells #[.bool false, S (Pl.magOf N)] 118)) hwk)
      have hob1 := hob.below (w' := wr.alloc (.cells #[.bool false, S (Pl.magOf N)] 118)) ((Below.refl _ _).alloc (Nat.le_refl _) _)
      have hbel1 := hbel.alloc hbel.size (.cells #[.bool false, S (Pl.magOf N)] 118)
      go_wp2_with fail
      refine HZB.out.mono ?_; rintro e w1 ⟨Z, B, rfl, hI, hb1⟩
      obtain ⟨Zs, z1, z2, z3⟩ := hob1.below hb1
      have hbel2 := hbel1.trans (hb1.mono hbel1.size)
      rw [HKL.out] at z2
      go_wp2_with (at_builtin; refine wpList_app1 _ rfl (.tmp 12) (.tmp 15) 53 rfl w.heap.size 123 i0 _ 8 Tryz.underlying53 hi hz0 hz1 hz2 rfl _ _ _ rfl z2 (PtrV Z) rfl rfl (by omega) (by omega) hbel2.size ?_; intro g cap w2 hown2 hg2 hat2 hb2)
      go_roundw
      case rel =>
        refine ⟨k + 1, by omega, by go_num, ?_, hbel2.trans hb2⟩
        have := OwnBigs.append z1 (by rw [HKL.out]; exact z2) z3 hI (by rw [HKL.out]; exact hown2) hg2
        rw [HKL.out] at this
        rw [HTK.out]; exact this
      case measure => simp [intOf]; omega
    · obtain rfl : k = ns.length := by omega
      rw [List.take_length] at hob
      obtain ⟨Zs, z1, z2, z3⟩ := hob
      obtain ⟨A', c', rfl⟩ := own_form z2
      go_wp2
      go_ret
      exact ⟨A', c', rfl, ⟨Zs, z1, z2, z3⟩, hbel⟩
/-- a version of the package comes back -/
def VersBack (w : World) (v : Bool) (ns : List Nat) (bd og : ByteArray) (e : Ending) (w' : World) : Prop :=
  ∃ A c, e = .returned (.agg #[.bool v, .slice A ns.length c, .string bd, .string og]) ∧ OwnBigs w' w.heap.size (.slice A ns.length c) ns ∧ Below w.heap.size w w'
theorem bigs_end {w w1 : World} {g B : Nat} {cs : Array Value} {sl : Value} {ns : List Nat} (hown : OwnBigs w1 B sl ns) (hR : Blk w1 g 56 cs) (hB : w.heap.size ≤ B) (hg : w.heap.size ≤ g) (hb : Below w.heap.size w w1) (a b c d : Value) :
    OwnBigs ((((w1.setCell ⟨g, 0, none⟩ a).setCell ⟨g, 1, none⟩ b).setCell ⟨g, 2, none⟩ c).setCell ⟨g, 3, none⟩ d) w.heap.size sl ns ∧ Below w.heap.size w ((((w1.setCell ⟨g, 0, none⟩ a).setCell ⟨g, 1, none⟩ b).setCell ⟨g, 2, none⟩ c).setCell ⟨g, 3, none⟩ d) :=
  ⟨OwnBigs.lower (OwnBigs.four hown hR) hB, (((hb.setCell hg _).setCell hg _).setCell hg _).setCell hg _⟩
end Go.Proofs.YtgfkdjmoflbmdaaGreatDoor
