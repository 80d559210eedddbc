/- FnNuGetSorted: every list of texts: the law returns true. Conditions: the listed variables as the program's text lays them. -/
import Derived.Test.YtgfkdjmoflbmdaaGreatDoorMPb
import Derived.Test.YtgfkdjmoflbmdaaGreatDoorMZg
import Derived.SliceStrings
import Derived.Carry
import Derived.Test.YtgfkdjmoflbmdaaGreatDoorCards
import Derived.Test.YtgfkdjmoflbmdaaGreatDoorTie
import Derived.Test.YtgfkdjmoflbmdaaGreatDoorMCe9B
namespace Go.Proofs.YtgfkdjmoflbmdaaGreatDoor.NuGetSorted
open Go.ChangeShapes Go.WideShapes Go.ChangeAt Go.RowKit
open Go.Proofs Go.Lib

theorem witness_row (os : Os) {H : Type} (enc : TypeId × Value → H) :
    (OpenSpec.ofChange Rows.fnNuGetSortedSpec).preRow enc Tryz.prog Tryz.f9 Rows.fnNuGetSortedRow.domain false Rows.fnNuGetSortedRow.laid ((laidWorldC os).forCall (fun _ _ => 0) ⟨#[], #[.slice none 0 0], []⟩).memory #[.slice none 0 0] := by
  have hw : (DataW.whole enc Tryz.prog ((laidWorldC os).forCall (fun _ _ => 0) ⟨#[], #[.slice none 0 0], []⟩).memory Tryz.f9.params.toList Rows.fnNuGetSortedSpec.vars false #[Value.slice none 0 0].toList 8).map (fun x => (x.1, x.2.1)) =
      some ([.nil], []) := by kernel_rfl
  obtain ⟨⟨x1, x2, x3⟩, hx, hx1⟩ := Option.map_eq_some_iff.1 hw
  simp only [Prod.mk.injEq] at hx1
  obtain ⟨rfl, rfl⟩ := hx1
  exact OpenSpec.preRow_of_cond 8 hx (by kernel_rfl) (fun k hk => by cases hk) (by kernel_rfl) (laid_metN os _)

set_option maxRecDepth 100000 in
set_option maxHeartbeats 2000000 in
theorem lifted (os : Os) (started : os.Started) (H : Type) (enc : TypeId × Value → H) (F : Stop.Interp) :
    ReturnsInHanded {} Tryz.checked os 9 .any ((OpenSpec.ofChange Rows.fnNuGetSortedSpec).preRow enc Tryz.prog Tryz.f9 Rows.fnNuGetSortedRow.domain false Rows.fnNuGetSortedRow.laid) (((OpenSpec.ofChange Rows.fnNuGetSortedSpec).at F).post enc Tryz.prog Tryz.f9 false true false false) := by
  refine returnsInHanded_of_row (C := Tryz.checked) (s := OpenSpec.ofChange Rows.fnNuGetSortedSpec) own started (by kernel_rfl) Tryz.func9
    (witness_row_atRef (enc := enc) (C := Tryz.checked) false (laidWorldC os) #[.slice none 0 0] rfl (by kernel_rfl) (by kernel_rfl) (by kernel_rfl) (witness_row os enc)) ?_
  intro W base args ds gs before hval0 hW _ _ _ hL _ _
  have hval : ∀ (j : Nat) t v, Tryz.f9.params[j]? = some t → args[j]? = some v → Value.okWide Tryz.prog W .any base t v := hval0
  have hW' := hW
  obtain ⟨p, q, hA0, hV0, rfl, _, _⟩ := hW
  have hA : DataW.TrodAll enc Tryz.prog W 0 (fun _ => true) true Tryz.f9.params.toList args.toList ds p := hA0
  rw [Tryz.params9] at hA hval
  obtain ⟨v0, d0, rfl, rfl, h0⟩ := trodAll_one hA
  obtain ⟨rfl, rfl⟩ := trodVars_none hV0
  obtain ⟨a0, len, cap, rfl⟩ := okWide_slice Tryz.underlying38 (hval 0 38 v0 rfl rfl)
  have h0k := h0
  obtain ⟨fuel, hf⟩ := h0
  clear hA0 hV0 hval0
  simp only [List.append_nil] at hW'
  have hlt : ∀ x ∈ p, x.block < W.heap.size := fun x hx => by simpa using hW'.lt x hx
  have hargs : ∀ (W' : World), Below W.heap.size W W' → DataW.Trod enc Tryz.prog W' 0 (fun b => decide (b < W.heap.size)) true 38 (.slice a0 len cap) d0 p :=
    fun W' hn => Below.trod k1 (by kernel_rfl) (of_decide_eq_true (by kernel_rfl)) h0k hn hlt
  have hLM : laidMet Tryz.prog Rows.fnNuGetSortedRow.laid W := hL
  have hT : VTabs W := vtabs_of hLM (by simp [Rows.fnNuGetSortedRow]) (by simp [Rows.fnNuGetSortedRow])
  obtain ⟨pe, he⟩ := laid_err hLM (n := "io.EOF") (g := 4) (by simp [Rows.fnNuGetSortedRow]; rfl) (by kernel_rfl) (by kernel_rfl)
  obtain ⟨pn, hn⟩ := laid_err hLM (n := "pub-seniority/pub/bigall.errNoDigits") (g := 8) (by simp [Rows.fnNuGetSortedRow]; rfl) (by kernel_rfl) (by kernel_rfl)
  obtain ⟨pi, hi⟩ := laid_err hLM (n := "pub-seniority/pub/scalibr/semantic.ErrInvalidVersion") (g := 1) (by simp [Rows.fnNuGetSortedRow]; rfl) (by kernel_rfl) (by kernel_rfl)
  have hV : PkgVars W pe pn pi := ⟨⟨he, hn⟩, hi⟩
  have fin : ∀ (e : Ending) (W' : World), (e = .returned (.bool true) ∧ Below W.heap.size W W') → ∃ v, e = Ending.returned v ∧ ((OpenSpec.ofChange Rows.fnNuGetSortedSpec).at F).post enc Tryz.prog Tryz.f9 false true false false W #[.slice a0 len cap] v W' := by
    rintro e W' ⟨rfl, bel⟩
    have e1 : ((OpenSpec.ofChange Rows.fnNuGetSortedSpec).at F).fn H ([d0] ++ []) = { results := [.lit (.bool true)], args := [d0] } := rfl
    refine ⟨_, rfl, _, _, _, [], p, [], hW', ?_, ?_, ?_, bel.frame _, fun h => by cases h⟩
    · rw [e1]; exact trodAll_mk1 (shut_bool Tryz.underlying4 _)
    · rw [e1]; exact trodAll_mk1 (hargs _ bel)
    · rw [e1]; rfl
  rcases open_strings Tryz.underlying38 Tryz.underlying9 (by kernel_rfl) hf with ⟨hcs, hx⟩ | ⟨a, len', cap', ss, hcs, _, hl, hm, hz, hx, hcell, hsz⟩
  · simp [Value.cells] at hcs
    obtain ⟨rfl, rfl, rfl⟩ := hcs
    exact (nugetSorted_walk none 0 [] pe pn pi W (Rd.nil _ _ _) (by simp) (by intro x hx; cases hx) hV hT).mono fin
  · simp [Value.cells] at hcs
    obtain ⟨rfl, rfl, rfl⟩ := hcs
    simp only [if_true] at hz
    have hlen : ((ss.take len).map fun s : ByteArray => s.data.toList).length = len := by simp; omega
    have hr : DataW.Trod enc Tryz.prog W 0 (fun _ => true) true 38 (.slice (some a) len cap) d0 p := h0k
    have hRd : Rd W 1 (some a) len (((ss.take len).map fun s : ByteArray => s.data.toList).map S) := by
      refine ⟨by simp; omega, fun h0 => ?_⟩
      obtain ⟨b, off, spot⟩ := a
      have hspot : spot = none := by simpa [Addr.add] using World.cell?_spot (hcell 0 (by omega))
      subst hspot
      refine ⟨b, off, rfl, fun j u hu => ?_⟩
      have hj : j < len := by
        have := (List.getElem?_eq_some_iff.1 hu).1
        simp at this; omega
      have hc := hcell j (by omega)
      rw [add_plain] at hc
      rw [hc]
      have hjs : j < ss.length := by omega
      simp [hj, hjs] at hu
      rw [← hu]
      simp [List.getD_eq_getElem?_getD, hjs]
    have hw := nugetSorted_walk (some a) cap ((ss.take len).map fun s : ByteArray => s.data.toList) pe pn pi W (by rw [hlen]; exact hRd) (by rw [hlen]; omega)
      (by
        intro x hx
        obtain ⟨s, hs, rfl⟩ := List.mem_map.1 hx
        rw [len_list]
        exact hsz s (List.mem_of_mem_take hs)) hV hT
    rw [hlen] at hw
    exact hw.mono fin
theorem said : Rows.FnNuGetSortedSaid :=
  OpenClaim.holds_of_cond 9 Tryz.f9 rfl rfl rfl rfl rfl rfl rfl ⟨rfl, rfl, rfl, rfl, rfl⟩ rfl rfl rfl rfl rfl (by kernel_rfl) Tryz.func9 closed
    (of_decide_eq_true (by kernel_rfl)) (by unfold Func.isWrapper; rw [if_neg (of_decide_eq_false (by kernel_rfl))]; exact ⟨rfl, rfl⟩)
    (fun os started H enc _ F => by rw [OpenClaim.pre_eq_preRow]; exact lifted os started H enc F)
theorem plain (f : FuncId) (fn : Func) (hf : Tryz.pinned.checked.prog.funcNamed "pub-seniority/laws.FnNuGetSorted" = some f) (hfn : Tryz.pinned.checked.prog.funcs[f]? = some fn) :
    true = Tryz.pinned.checked.prog.looks [] ∧ ∀ (j : Nat) t, fn.params[j]? = some t → Tryz.pinned.checked.prog.wantsStandIn t = false := by
  obtain rfl : f = 9 := Option.some.inj ((show Tryz.prog.funcNamed "pub-seniority/laws.FnNuGetSorted" = some 9 by kernel_rfl).symm.trans hf) |>.symm
  obtain rfl : fn = Tryz.f9 := (Option.some.inj (Tryz.func9.symm.trans hfn)).symm
  refine ⟨by kernel_rfl, fun j t ht => ?_⟩
  rw [Tryz.params9] at ht
  obtain rfl : t = 38 := by
    have := Array.mem_of_getElem? ht
    simpa using this
  exact (show Tryz.prog.wantsStandIn 38 = false by kernel_rfl)
theorem card : Rows.FnNuGetSortedCardSaid :=
  Claim7.holds_tied_plain_at .later [] _ _ _ _ said (fun _ h => by cases h) (by kernel_rfl) (fun _ h => by cases h) fnNuGetSorted_row_tie rfl ⟨rfl, rfl⟩ (by kernel_rfl) rfl plain (by kernel_rfl)
end Go.Proofs.YtgfkdjmoflbmdaaGreatDoor.NuGetSorted
