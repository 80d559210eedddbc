/- Contracts: zzFits1; likes of one text's parts. -/
import Derived.Test.YtgfkdjmoflbmdaaGreatDoorMXuxZb
import Derived.Test.YtgfkdjmoflbmdaaGreatDoorMNlxNd
import Derived.Test.YtgfkdjmoflbmdaaGreatDoorMPlFxHf
namespace Go.Proofs.YtgfkdjmoflbmdaaGreatDoor
open Go.RowKit
open Go.Proofs

def FitsE (xs : List Pl.Bytes) (e : Ending) : Prop := ∃ b, e = .returned (.bool b) ∧ (b = true → xs.length ≤ 2147483647 ∧ ∀ x ∈ xs, x.length ≤ 2147483647)
theorem FitsE.no {xs : List Pl.Bytes} : FitsE xs (.returned (.bool false)) := ⟨false, rfl, fun h => by cases h⟩
theorem zzFits1_any (A : Option Addr) (c : Nat) (xs : List Pl.Bytes) (w : World) (hr : Rd w 1 A xs.length (xs.map S)) (hl : xs.length ≤ maxLen) (hm : ∀ s ∈ xs, s.length ≤ maxLen) :
    Calls Tryz.prog 34 #[.slice A xs.length c] w fun e w' => FitsE xs e ∧ w = w' := by
  unfold maxLen at hl
  have HM := Lib.hid hm
  clear hm
  rcases Nat.lt_or_ge 2147483647 xs.length with h1 | h1
  · have h1z : (2147483647 : Int) < (xs.length : Int) := by omega
    go_enter Tryz.func34, Tryz.ntmps34
    go_wp2
    go_ret
    exact ⟨FitsE.no, rfl⟩
  have h1z : ¬ (2147483647 : Int) < (xs.length : Int) := by omega
  go_enter Tryz.func34, Tryz.ntmps34
  go_wp2
  go_loopw [4, 10] (fun _ i wr => ∃ k : Nat, k ≤ xs.length ∧ i = .int .i64 k ∧ (∀ x ∈ xs.take k, x.length ≤ 2147483647) ∧ w = wr) (fun _ i _ => xs.length - (intOf i).toNat)
  case atStart => exact ⟨0, Nat.zero_le _, rfl, by simp, rfl⟩
  case round =>
    obtain ⟨k, hk, rfl, hgood, rfl⟩ := hrel
    have HG := Lib.hid hgood
    clear hgood
    by_cases ha : k < xs.length
    · obtain ⟨b1, o1, rfl, hc⟩ := hr.str_at ha
      have hxm := HM.out xs[k] (List.getElem_mem ha)
      obtain ⟨x, hx⟩ : ∃ x, xs[k] = x := ⟨_, rfl⟩
      rw [hx] at hc hxm
      have HX := Lib.hid hx
      clear hx
      unfold maxLen at hxm
      by_cases hlen : 2147483647 < x.length
      · go_wp2
        go_ret
        exact ⟨FitsE.no, rfl⟩
      · go_wp2
        go_roundw
        case rel => exact ⟨k + 1, by omega, by go_num, Pl.take_all HG.out ha (by rw [HX.out]; omega), trivial⟩
        case measure => simp [intOf]; omega
    · obtain rfl : k = xs.length := by omega
      go_wp2
      go_ret
      exact ⟨⟨true, rfl, fun _ => ⟨h1, by have := HG.out; rwa [List.take_length] at this⟩⟩, rfl⟩

/-- a text's parts in a row of one's own -/
theorem one_like {w w1 : World} (a : ByteArray) (A1 : Option Addr) (c1 : Nat) {B1 : Nat} (ha : a.size ≤ 1500)
    (h1 : w1.ownsRow B1 46 2 (.slice A1 (Pl.numsOf a.data.toList).length c1) (Pl.numsOf a.data.toList).length (IntC (Pl.numsOf a.data.toList)))
    (hw : w1.alloc (.cells #[.bool (Pl.startsV a.data.toList), .slice A1 (Pl.numsOf a.data.toList).length c1, S (Pl.buildOf a.data.toList), .string a] 27) = w) :
    Calls Tryz.prog 24 #[.slice (some ⟨w1.heap.size, 0, none⟩) 1 1] w fun e w' => e = .returned (.bool (lkOf a A1 c1).test) ∧ Below w.heap.size w w' := by
  have hbk : Blk w w1.heap.size 27 #[.bool (Pl.startsV a.data.toList), .slice A1 (Pl.numsOf a.data.toList).length c1, S (Pl.buildOf a.data.toList), .string a] := by rw [← hw]; exact Blk.new _ _ _
  have hb3 : Below w1.heap.size w1 w := by rw [← hw]; exact (Below.refl _ _).alloc (Nat.le_refl _) _
  have hr : Rd w 4 (some ⟨w1.heap.size, 0, none⟩) 1 (LkC [lkOf a A1 c1]) := Rd.of_blk hbk 4 1 rfl
  have := likes_any (some ⟨w1.heap.size, 0, none⟩) 1 [lkOf a A1 c1] w hr (by simp) (by
    intro l hl
    rw [List.mem_singleton] at hl; subst hl; exact lkOf_ok ha ((Rd.of_own h1).below hb3))
  simpa using this
/-- a text that the law of lists lets in -/
structure Good (x : Pl.Bytes) : Prop where
  len : x.length ≤ 1500
  ready : Ready ⟨x.toArray⟩
  few : ((Pl.numsOf x).length : Int) ≤ 4
theorem Good.text {x y : Pl.Bytes} (hx : Good x) (hy : Good y) (pe pn pi : Addr) (w : World) (hV : PkgVars w pe pn pi) :
    Calls Tryz.prog 32 #[S x, S y] w fun e w' => e = .returned (.tuple #[.int .i64 (Pl.nugetT x y), .bool true]) ∧ Below w.heap.size w w' :=
  NuGetText_any ⟨x.toArray⟩ ⟨y.toArray⟩ pe pn pi w hV hx.ready hy.ready hx.few hy.few
theorem Good.order {x y : Pl.Bytes} (hx : Good x) (hy : Good y) (A B : Option Addr) (ca cb : Nat) (w : World) (ha : Rd w 2 A (Pl.numsOf x).length (IntC (Pl.numsOf x))) (hb : Rd w 2 B (Pl.numsOf y).length (IntC (Pl.numsOf y))) :
    Calls Tryz.prog 35 #[VV (Pl.startsV x) A (Pl.numsOf x).length ca ⟨(Pl.buildOf x).toArray⟩ ⟨x.toArray⟩, VV (Pl.startsV y) B (Pl.numsOf y).length cb ⟨(Pl.buildOf y).toArray⟩ ⟨y.toArray⟩] w fun e w' =>
      e = .returned (.tuple #[.int .i64 (Pl.nugetT x y), .bool true]) ∧ Below w.heap.size w w' :=
  NuGetCompare_any (Pl.startsV x) (Pl.startsV y) A B ca cb (Pl.numsOf x) (Pl.numsOf y) ⟨(Pl.buildOf x).toArray⟩ ⟨(Pl.buildOf y).toArray⟩ ⟨x.toArray⟩ ⟨y.toArray⟩ w ha hb
    (nums_fits (s := ⟨x.toArray⟩) (by have := hx.len; rw [S_size]; omega)) (nums_fits (s := ⟨y.toArray⟩) (by have := hy.len; rw [S_size]; omega)) hx.ready.build hy.ready.build
theorem mem_insert {o : List Pl.Bytes} {s : Pl.Bytes} {k : Nat} {P : Pl.Bytes → Prop} (ho : ∀ x ∈ o, P x) (hs : P s) : ∀ x ∈ o.take k ++ s :: o.drop k, P x := by
  intro x hx
  rcases List.mem_append.1 hx with h | h
  · exact ho x (List.mem_of_mem_take h)
  · rcases List.mem_cons.1 h with h | h
    · rw [h]; exact hs
    · exact ho x (List.mem_of_mem_drop h)
theorem len_insert (o : List Pl.Bytes) (s : Pl.Bytes) (k : Nat) (hk : k ≤ o.length) : (o.take k ++ s :: o.drop k).length = o.length + 1 := by
  simp only [List.length_append, List.length_take, List.length_cons, List.length_drop]; omega
end Go.Proofs.YtgfkdjmoflbmdaaGreatDoor
