/- Contracts: LikeKnown, few. Walk: FnSemverTexts. What the rows' listed variables give: the two tables, the errors. -/
import Derived.Test.YtgfkdjmoflbmdaaGreatDoorMWexXl
import Derived.Test.YtgfkdjmoflbmdaaGreatDoorMVs2
import Derived.Test.YtgfkdjmoflbmdaaGreatDoorMYp2xXw
import Derived.Test.YtgfkdjmoflbmdaaGreatDoorRows
import Derived.Test.YtgfkdjmoflbmdaaGreatDoorMWvxWz
import Derived.Lib.LaidU8T
import Derived.PinnedBridge
import Derived.LaidLaws
import Derived.Deep.DeepHandedRow
import Derived.Deep.DeepWitnessRowRef
import Derived.Lib.LaidIn
import Derived.ProofKit
import Derived.OpenShut
import Derived.SizedLaws
namespace Go.Proofs.YtgfkdjmoflbmdaaGreatDoor
open Go.RowKit
open Go.Proofs

theorem LikeKnown_any (s : ByteArray) (w : World) (hs : s.size ≤ 30000) (hT : VTabs w) : Calls Tryz.prog 42 #[.string s] w fun e w' => SomeBool e ∧ Below w.heap.size w w' := by
  go_enter Tryz.func42, Tryz.ntmps42
  go_wp2_with fail
  refine (validString_any s w hs hT).mono ?_; rintro e w1 ⟨⟨b, rfl⟩, hb1⟩
  go_wp2
  go_ret
  exact ⟨someBool_mk _, hb1⟩
/-- some bool comes back; true only where the text is short, ASCII, and of few numbers -/
def FewE (s : ByteArray) (m : Int) (e : Ending) : Prop := ∃ b, e = .returned (.bool b) ∧ (b = true → s.size ≤ 1500 ∧ Pl.ascii s.data.toList = true ∧ ((Pl.numsOf s.data.toList).length : Int) ≤ m)
theorem FewE.no {s : ByteArray} {m : Int} : FewE s m (.returned (.bool false)) := ⟨false, rfl, fun h => by cases h⟩
theorem short1 (l : Pl.Bytes) : Pl.shortB [l] = decide (l.length ≤ 1500) := by simp [Pl.shortB]
set_option maxRecDepth 100000 in
theorem few_any (s : ByteArray) (m : Int) (w : World) (hs : s.size ≤ 2147483647) (hT : VTabs w) : Calls Tryz.prog 23 #[.string s, .int .i64 m] w fun e w' => FewE s m e ∧ Below w.heap.size w w' := by
  obtain ⟨W, hW⟩ : ∃ W, w.alloc (.cells #[.string s] 9) = W := ⟨_, rfl⟩
  have hbW : Below w.heap.size w W := by rw [← hW]; exact (Below.refl _ _).alloc (Nat.le_refl _) _
  have hBS : Blk W w.heap.size 9 #[.string s] := by rw [← hW]; exact Blk.new _ _ _
  have HS := Lib.hid (short_any (some ⟨w.heap.size, 0, none⟩) 1 [s.data.toList] W (Rd.of_blk hBS 1 1 rfl) (by simp) (by simp; unfold maxLen; omega))
  rw [short1, len_list] at HS
  have hTW := hT.below hbW
  have HW := Lib.hid hW
  clear hW hT
  by_cases h1 : s.size ≤ 1500
  · rw [show decide (s.size ≤ 1500) = true from decide_eq_true h1] at HS
    have HK := Lib.hid (LikeKnown_any s W (by omega) hTW)
    have HF := Lib.hid (fun w => FewNumbers_any s m w (by omega))
    cases hasc : Pl.ascii s.data.toList with
    | true =>
      have HA := Lib.hid (fun w => Ascii_any s w (by unfold maxLen; omega))
      rw [hasc] at HA
      have HAS := Lib.hid hasc
      obtain ⟨f, hf⟩ : ∃ f, decide (((Pl.numsOf s.data.toList).length : Int) ≤ m) = f := ⟨_, rfl⟩
      have HFF := Lib.hid hf
      rw [hf] at HF
      clear hasc hf
      go_enter Tryz.func23, Tryz.ntmps23
      go_wp2_with fail
      rw [HW.out]
      refine HS.out.mono ?_; rintro e w1 ⟨rfl, rfl⟩
      go_wp2_with fail
      refine HK.out.mono ?_; rintro e w2 ⟨⟨b, rfl⟩, hb2⟩
      cases b with
      | false =>
        go_wp2
        go_ret
        exact ⟨FewE.no, hbW.trans (hb2.mono hbW.size)⟩
      | true =>
        go_wp2_with fail
        refine (HA.out _).mono ?_; rintro e w3 ⟨rfl, rfl⟩
        go_wp2_with fail
        refine (HF.out _).mono ?_; rintro e w4 ⟨rfl, hb4⟩
        go_wp2
        go_ret
        refine ⟨⟨f, rfl, fun h => ⟨h1, HAS.out, ?_⟩⟩, hbW.trans ((hb2.mono hbW.size).trans (hb4.mono (Nat.le_trans hbW.size hb2.size)))⟩
        have := HFF.out
        rw [h] at this
        exact of_decide_eq_true this
    | false =>
      have HA := Lib.hid (fun w => Ascii_any s w (by unfold maxLen; omega))
      rw [hasc] at HA
      clear hasc
      go_enter Tryz.func23, Tryz.ntmps23
      go_wp2_with fail
      rw [HW.out]
      refine HS.out.mono ?_; rintro e w1 ⟨rfl, rfl⟩
      go_wp2_with fail
      refine HK.out.mono ?_; rintro e w2 ⟨⟨b, rfl⟩, hb2⟩
      cases b with
      | false =>
        go_wp2
        go_ret
        exact ⟨FewE.no, hbW.trans (hb2.mono hbW.size)⟩
      | true =>
        go_wp2_with fail
        refine (HA.out _).mono ?_; rintro e w3 ⟨rfl, rfl⟩
        go_wp2
        go_ret
        exact ⟨FewE.no, hbW.trans (hb2.mono hbW.size)⟩
  · rw [show decide (s.size ≤ 1500) = false from decide_eq_false h1] at HS
    go_enter Tryz.func23, Tryz.ntmps23
    go_wp2_with fail
    rw [HW.out]
    refine HS.out.mono ?_; rintro e w1 ⟨rfl, rfl⟩
    go_wp2
    go_ret
    exact ⟨FewE.no, hbW⟩
end Go.Proofs.YtgfkdjmoflbmdaaGreatDoor

namespace Go.Proofs.YtgfkdjmoflbmdaaGreatDoor
open Go.RowKit
open Go.Proofs

def lkOf (s : ByteArray) (A : Option Addr) (c : Nat) : Lk := ⟨Pl.startsV s.data.toList, A, Pl.numsOf s.data.toList, c, ⟨(Pl.buildOf s.data.toList).toArray⟩, s⟩
theorem lkOf_ok {w : World} {s : ByteArray} {A : Option Addr} {c : Nat} (hs : s.size ≤ 1500) (h : Rd w 2 A (Pl.numsOf s.data.toList).length (IntC (Pl.numsOf s.data.toList))) : (lkOf s A c).Ok w :=
  ⟨h, nums_fits (by omega), by show (⟨(Pl.buildOf s.data.toList).toArray⟩ : ByteArray).size ≤ 30000; rw [S_size]; have := buildOf_len s.data.toList; rw [len_list] at this; omega, by show s.size ≤ 30000; omega⟩
theorem lkOf_test {s : ByteArray} {A : Option Addr} {c : Nat} (h : (lkOf s A c).test = true) : Pl.buildKnown (Pl.buildOf s.data.toList) = true := by
  have h' : (Pl.shortB [Pl.buildOf s.data.toList, s.data.toList] && (Pl.numbersB (Pl.numsOf s.data.toList) && Pl.likeOK (Pl.buildOf s.data.toList))) = true := h
  rw [Bool.and_eq_true, Bool.and_eq_true] at h'
  have := h'.2.2
  rw [Pl.likeOK, Bool.and_eq_true] at this
  exact this.1
/-- two versions in a row of one's own -/
theorem two_likes {w w1 w2 : World} (a b : ByteArray) (A1 A2 : Option Addr) (c1 c2 : Nat) {B1 B2 : Nat} (ha : a.size ≤ 1500) (hb : b.size ≤ 1500)
    (h1 : w1.ownsRow B1 46 2 (.slice A1 (Pl.numsOf a.data.toList).length c1) (Pl.numsOf a.data.toList).length (IntC (Pl.numsOf a.data.toList))) (hb2 : Below w1.heap.size w1 w2)
    (h2 : w2.ownsRow B2 46 2 (.slice A2 (Pl.numsOf b.data.toList).length c2) (Pl.numsOf b.data.toList).length (IntC (Pl.numsOf b.data.toList)))
    (hw : w2.alloc (.cells #[.bool (Pl.startsV a.data.toList), .slice A1 (Pl.numsOf a.data.toList).length c1, S (Pl.buildOf a.data.toList), .string a, .bool (Pl.startsV b.data.toList), .slice A2 (Pl.numsOf b.data.toList).length c2, S (Pl.buildOf b.data.toList), .string b] 27) = w) :
    Calls Tryz.prog 24 #[.slice (some ⟨w2.heap.size, 0, none⟩) 2 2] w fun e w' => e = .returned (.bool ((lkOf a A1 c1).test && (lkOf b A2 c2).test)) ∧ Below w.heap.size w w' := by
  have hbk : Blk w w2.heap.size 27 #[.bool (Pl.startsV a.data.toList), .slice A1 (Pl.numsOf a.data.toList).length c1, S (Pl.buildOf a.data.toList), .string a, .bool (Pl.startsV b.data.toList), .slice A2 (Pl.numsOf b.data.toList).length c2, S (Pl.buildOf b.data.toList), .string b] := by rw [← hw]; exact Blk.new _ _ _
  have hb3 : Below w2.heap.size w2 w := by rw [← hw]; exact (Below.refl _ _).alloc (Nat.le_refl _) _
  have hr : Rd w 4 (some ⟨w2.heap.size, 0, none⟩) 2 (LkC [lkOf a A1 c1, lkOf b A2 c2]) := Rd.of_blk hbk 4 2 rfl
  have := likes_any (some ⟨w2.heap.size, 0, none⟩) 2 [lkOf a A1 c1, lkOf b A2 c2] w hr (by simp) (by
    intro l hl
    rcases List.mem_cons.1 hl with hl | hl
    · subst hl; exact lkOf_ok ha (((Rd.of_own h1).below hb2).below hb3)
    · rw [List.mem_singleton] at hl; subst hl; exact lkOf_ok hb ((Rd.of_own h2).below hb3))
  simpa using this

theorem lkOf_ready {s : ByteArray} {A : Option Addr} {c : Nat} {m : Int} (h : (lkOf s A c).test = true) (hf : s.size ≤ 1500 ∧ Pl.ascii s.data.toList = true ∧ ((Pl.numsOf s.data.toList).length : Int) ≤ m) : Ready s :=
  ⟨by omega, hf.2.1, lkOf_test h⟩
theorem likeIn_of {w : World} {t : TypeId} {B : Nat} {A : Option Addr} {c : Nat} {s : ByteArray} (h : w.ownsRow B t 2 (.slice A (Pl.numsOf s.data.toList).length c) (Pl.numsOf s.data.toList).length (IntC (Pl.numsOf s.data.toList))) (hs : Ready s) (h15 : s.size ≤ 1500) :
    LikeIn w A (Pl.numsOf s.data.toList) ⟨(Pl.buildOf s.data.toList).toArray⟩ := ⟨Rd.of_own h, nums_fits (by omega), nums_small hs.size, hs.build, hs.known⟩
set_option maxRecDepth 100000 in
set_option maxHeartbeats 4000000 in
theorem semverTexts_walk (a b : ByteArray) (pe pn pi : Addr) (w : World) (ha : a.size ≤ maxLen) (hb : b.size ≤ maxLen) (hV : PkgVars w pe pn pi) (hT : VTabs w) :
    Calls Tryz.prog 4 #[.string a, .string b] w fun e w' => e = .returned (.bool true) ∧ Below w.heap.size w w' := by
  unfold maxLen at ha hb
  by_cases h1 : a.size ≤ 2147483647
  · by_cases h2 : b.size ≤ 2147483647
    · have h1z : ¬ (2147483647 : Int) < (a.size : Int) := by omega
      have h2z : ¬ (2147483647 : Int) < (b.size : Int) := by omega
      go_enter Tryz.func4, Tryz.ntmps4
      go_wp2_with fail
      refine (few_any a 3 w h1 hT).mono ?_; rintro e w1 ⟨⟨fa, rfl, hfa⟩, hb1⟩
      cases fa with
      | false =>
        go_wp2
        go_ret
        exact ⟨rfl, hb1⟩
      | true =>
        have HFA := Lib.hid (hfa rfl)
        clear hfa
        go_wp2_with fail
        refine (few_any b 3 w1 h2 (hT.below hb1)).mono ?_; rintro e w2 ⟨⟨fb, rfl, hfb⟩, hb2⟩
        have hbb2 := hb1.trans (hb2.mono hb1.size)
        cases fb with
        | false =>
          go_wp2
          go_ret
          exact ⟨rfl, hbb2⟩
        | true =>
          have HFB := Lib.hid (hfb rfl)
          clear hfb
          have hsa := HFA.out.1
          have hsb := HFB.out.1
          go_wp2_with fail
          refine (LikeParse_any a w2 (by omega)).mono ?_; rintro e w3 ⟨A1, c1, rfl, hown1, hb3⟩
          have hbb3 := hbb2.trans (hb3.mono hbb2.size)
          go_wp2_with fail
          refine (LikeParse_any b w3 (by omega)).mono ?_; rintro e w4 ⟨A2, c2, rfl, hown2, hb4⟩
          have hbb4 := hbb3.trans (hb4.mono hbb3.size)
          obtain ⟨X, hX⟩ : ∃ X, w4.alloc (.cells #[.bool (Pl.startsV a.data.toList), .slice A1 (Pl.numsOf a.data.toList).length c1, S (Pl.buildOf a.data.toList), .string a, .bool (Pl.startsV b.data.toList), .slice A2 (Pl.numsOf b.data.toList).length c2, S (Pl.buildOf b.data.toList), .string b] 27) = X := ⟨_, rfl⟩
          have hL := Lib.hid (two_likes a b A1 A2 c1 c2 hsa hsb hown1 hb4 hown2 hX)
          have hbX : Below w4.heap.size w4 X := by rw [← hX]; exact (Below.refl _ _).alloc (Nat.le_refl _) _
          have hbbX := hbb4.trans (hbX.mono hbb4.size)
          have HX := Lib.hid hX
          obtain ⟨tt, htt⟩ : ∃ tt, ((lkOf a A1 c1).test && (lkOf b A2 c2).test) = tt := ⟨_, rfl⟩
          rw [htt] at hL
          have HTT := Lib.hid htt
          clear hX htt
          go_wp2_with fail
          rw [HX.out]
          refine hL.out.mono ?_; rintro e w5 ⟨rfl, hb5⟩
          have hbb5 := hbbX.trans (hb5.mono hbbX.size)
          cases tt with
          | false =>
            go_wp2
            go_ret
            exact ⟨rfl, hbb5⟩
          | true =>
            have hra : Ready a := lkOf_ready (Bool.and_eq_true_iff.1 HTT.out).1 HFA.out
            have hrb : Ready b := lkOf_ready (Bool.and_eq_true_iff.1 HTT.out).2 HFB.out
            have HRA := Lib.hid hra
            have HRB := Lib.hid hrb
            obtain ⟨R, hR⟩ : ∃ R, Pl.likeOrd (Pl.numsOf a.data.toList) (Pl.numsOf b.data.toList) (Pl.buildOf a.data.toList) (Pl.buildOf b.data.toList) = R := ⟨_, rfl⟩
            have hC := Lib.hid (fun (w' : World) A c B d (h1 : Rd w' 2 A (Pl.numsOf a.data.toList).length (IntC (Pl.numsOf a.data.toList))) (h2 : Rd w' 2 B (Pl.numsOf b.data.toList).length (IntC (Pl.numsOf b.data.toList))) =>
              SemverCompare_any (Pl.startsV a.data.toList) (Pl.startsV b.data.toList) A B c d (Pl.numsOf a.data.toList) (Pl.numsOf b.data.toList) ⟨(Pl.buildOf a.data.toList).toArray⟩ ⟨(Pl.buildOf b.data.toList).toArray⟩ a b w' h1 h2 (nums_fits (by omega)) (nums_fits (by omega)) hra.build hrb.build)
            have hT2 := Lib.hid (fun (w' : World) (h : Below w.heap.size w w') => SemverText_any a b pe pn pi w' (hV.below h) hra hrb HFA.out.2.2 HFB.out.2.2)
            have hI := Lib.hid (fun (w' : World) (h : Below w.heap.size w w') A c B d (h1 : LikeIn w' A (Pl.numsOf a.data.toList) ⟨(Pl.buildOf a.data.toList).toArray⟩) (h2 : LikeIn w' B (Pl.numsOf b.data.toList) ⟨(Pl.buildOf b.data.toList).toArray⟩) =>
              implSemver_any (Pl.startsV a.data.toList) (Pl.startsV b.data.toList) A B c d (Pl.numsOf a.data.toList) (Pl.numsOf b.data.toList) ⟨(Pl.buildOf a.data.toList).toArray⟩ ⟨(Pl.buildOf b.data.toList).toArray⟩ a b pe pn pi w' h1 h2 (hV.below h))
            simp only at hC hI
            rw [hR] at hC hT2 hI
            clear hR hra hrb
            go_wp2_with fail
            refine (LikeParse_any a w5 (by omega)).mono ?_; rintro e w6 ⟨A3, c3, rfl, hown3, hb6⟩
            have hbb6 := hbb5.trans (hb6.mono hbb5.size)
            go_wp2_with fail
            refine (LikeParse_any b w6 (by omega)).mono ?_; rintro e w7 ⟨A4, c4, rfl, hown4, hb7⟩
            have hbb7 := hbb6.trans (hb7.mono hbb6.size)
            go_wp2_with fail
            refine (hC.out w7 A3 c3 A4 c4 ((Rd.of_own hown3).below hb7) (Rd.of_own hown4)).mono ?_; rintro e w8 ⟨rfl, hb8⟩
            have hbb8 := hbb7.trans (hb8.mono hbb7.size)
            go_wp2_with fail
            refine (hT2.out w8 hbb8).mono ?_; rintro e w9 ⟨rfl, hb9⟩
            have hbb9 := hbb8.trans (hb9.mono hbb8.size)
            go_wp2_with fail
            refine (implLikeParse_any a pe pn pi w9 HRA.out.size (hV.below hbb9) HRA.out.asc).mono ?_; rintro e wA ⟨A5, c5, rfl, hown5, hbA⟩
            have hbbA := hbb9.trans (hbA.mono hbb9.size)
            go_wp2_with fail
            refine (implLikeParse_any b pe pn pi wA HRB.out.size (hV.below hbbA) HRB.out.asc).mono ?_; rintro e wB ⟨A6, c6, rfl, hown6, hbB⟩
            have hbbB := hbbA.trans (hbB.mono hbbA.size)
            go_wp2_with fail
            refine (hI.out wB hbbB A5 c5 A6 c6 ((likeIn_of hown5 HRA.out hsa).below hbB) (likeIn_of hown6 HRB.out hsb)).mono ?_; rintro e wC ⟨rfl, hbC⟩
            have hbbC := hbbB.trans (hbC.mono hbbB.size)
            go_wp2
            go_ret
            exact ⟨ret_bool (by simp), hbbC⟩
    · have h1z : ¬ (2147483647 : Int) < (a.size : Int) := by omega
      have h2z : (2147483647 : Int) < (b.size : Int) := by omega
      go_enter Tryz.func4, Tryz.ntmps4
      go_wp2
      go_ret
      exact ⟨rfl, Below.refl _ _⟩
  · have h1z : (2147483647 : Int) < (a.size : Int) := by omega
    go_enter Tryz.func4, Tryz.ntmps4
    go_wp2
    go_ret
    exact ⟨rfl, Below.refl _ _⟩
end Go.Proofs.YtgfkdjmoflbmdaaGreatDoor

namespace Go.Proofs.YtgfkdjmoflbmdaaGreatDoor
open Go.ChangeShapes Go.WideShapes Go.ChangeAt Go.RowKit
open Go.Proofs Go.Lib

theorem own : ownKnob Tryz.prog.godebug = none := by kernel_rfl
/-- a listed variable: what it reads as, and that its cells are among the places -/
theorem laid_var {P : Program} {w : World} : ∀ {l : List (String × DataW Unit)} {ps : List MemPlace}, DataW.LaidVars P w l ps → ∀ n d, (n, d) ∈ l →
    ∃ g t cs fuel p, P.globalNamed n = some g ∧ (P.globals[g]?).map (·.type) = some t ∧ w.var? P n = some cs ∧ DataW.trod (fun _ => ()) P w 0 (fun _ => true) false fuel t cs.toList = some (d, p) ∧ ∀ x ∈ MemPlace.row ⟨g, 0, none⟩ cs.size, x ∈ ps
  | [], _, _, _, _, hm => by cases hm
  | (n', d') :: r, ps, h, n, d, hm => by
    obtain ⟨g, t, cs, fuel, p, q, h1, h2, h3, h4, h5, h6⟩ := h
    rcases List.mem_cons.1 hm with hm | hm
    · injection hm with e1 e2
      subst e1; subst e2
      exact ⟨g, t, cs, fuel, p, h1, h2, h3, h4, fun x hx => by rw [h6]; simp [hx]⟩
    · obtain ⟨g', t', cs', f', p', k1, k2, k3, k4, k5⟩ := laid_var h5 n d hm
      exact ⟨g', t', cs', f', p', k1, k2, k3, k4, fun x hx => by rw [h6]; simp [k5 x hx]⟩
theorem row305 (u : TypeId) (h : Tryz.prog.typeName? 3 u = some "*errors.errorString") : u = 305 :=
  typeName_ptr_named (nm := "errors.errorString") (by kernel_rfl) (by kernel_rfl) (by decide) u h
theorem cells320 : Tryz.prog.cellsOf 320 = 1 := by kernel_rfl
theorem cells9 : Tryz.prog.cellsOf 9 = 1 := by kernel_rfl
set_option maxRecDepth 100000 in
/-- a listed error holds a pointer to an error of errors.New -/
theorem laid_err {l : List (String × DataW Unit)} {w : World} {n : String} {text : List UInt8} {g : Nat} (h : laidMet Tryz.prog l w) (hm : (n, (.iface "*errors.errorString" (.ptr (.agg [.lit (.string text)])) : DataW Unit)) ∈ l)
    (hg : Tryz.prog.globalNamed n = some g) (ht : (Tryz.prog.globals[g]?).map (·.type) = some 51) : ∃ a, w.cell? ⟨g, 0, none⟩ = some (.iface 305 (.pointer (some a))) := by
  obtain ⟨ps, hv, _, hrows⟩ := h
  obtain ⟨g', t, cs, fuel, p, h1, h2, h3, h4, h5⟩ := laid_var hv n _ hm
  obtain rfl := Option.some.inj (hg.symm.trans h1)
  obtain rfl := Option.some.inj (ht.symm.trans h2)
  obtain ⟨l0⟩ := cs
  have ok : ∀ u v, l0 = [.iface u v] → Value.okWide Tryz.prog w .any 0 u v := fun u v e => by
    subst e
    exact (hrows g 0 (h5 _ (by simp [MemPlace.row]))).2 u v (by simpa using World.var?_cell hg h3 0)
  obtain ⟨a, s, hcs, _⟩ := errorString_of_trod Tryz.underlying51 row305 Tryz.underlying305 Tryz.underlying320 rfl rfl Tryz.underlying9 cells320 cells9 h4 ok
  refine ⟨a, ?_⟩
  have := World.var?_cell hg h3 0
  rw [this]
  have e : l0 = [.iface 305 (.pointer (some a))] := hcs
  subst e
  rfl
def uRen : Go.Shelf.Ren := ⟨fun n => n, fun | 119 => 109 | 138 => 111 | 139 => 112 | n => n, fun | 3 => 2 | 4 => 3 | n => n⟩
theorem uTypes : U8Types Tryz.prog uRen := { t5 := Tryz.underlying5, t119 := Tryz.underlying109, t138 := Tryz.underlying111, t139 := Tryz.underlying112 }
theorem accept_eq : (Rows.laid_unicode_utf8_acceptRanges : DataW Unit) = acceptData := by kernel_rfl
theorem first_eq : (Rows.laid_unicode_utf8_first : DataW Unit) = firstData := Pinned.utf8First_eq
theorem vtabs_of {l : List (String × DataW Unit)} {w : World} (h : laidMet Tryz.prog l w) (h1 : ("unicode/utf8.first", (Rows.laid_unicode_utf8_first : DataW Unit)) ∈ l) (h2 : ("unicode/utf8.acceptRanges", (Rows.laid_unicode_utf8_acceptRanges : DataW Unit)) ∈ l) : VTabs w := by
  rw [first_eq] at h1
  rw [accept_eq] at h2
  have ht := utf8Tabs_of_readsT uTypes ⟨by kernel_rfl, by kernel_rfl, by kernel_rfl, by kernel_rfl, by kernel_rfl, by kernel_rfl, by kernel_rfl⟩ (Lib.laidMet.reads h h1) (Lib.laidMet.reads h h2)
  obtain ⟨t1, t2⟩ := ht
  refine ⟨fun c hc => ?_, fun i hi => ?_⟩
  · have hv := t1 c hc
    have hr : 0 ≤ firstT c ∧ firstT c < 256 := by
      rcases firstT_cases c with h | h | h | h | h | h | h | h | h <;> rw [h] <;> omega
    exact ⟨firstT c, by omega, hv⟩
  · obtain ⟨v1, v2⟩ := t2 i hi
    refine ⟨accLo i, accHi i, ?_, ?_⟩
    · rw [Nat.mul_comm]; exact v1
    · rw [Nat.mul_comm]; exact v2
end Go.Proofs.YtgfkdjmoflbmdaaGreatDoor
