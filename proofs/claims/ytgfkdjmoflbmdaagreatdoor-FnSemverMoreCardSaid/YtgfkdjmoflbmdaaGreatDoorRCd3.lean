/- FnSemverMore: every input of texts: the law returns true. Conditions: the listed variables as the program's text lays them. -/
import Derived.Test.YtgfkdjmoflbmdaaGreatDoorRTfxTm
import Derived.Test.YtgfkdjmoflbmdaaGreatDoorCards
import Derived.Test.YtgfkdjmoflbmdaaGreatDoorTie
import Derived.Test.YtgfkdjmoflbmdaaGreatDoorRCe3B
namespace Go.Proofs.YtgfkdjmoflbmdaaGreatDoor.SemverMore
open Go.ChangeShapes Go.WideShapes Go.ChangeAt Go.RowKit
open Go.Proofs Go.Lib
open Go.ChangeMaps (open_string shut_string)
theorem witness_row (os : Os) {H : Type} (enc : TypeId × Value → H) :
    (OpenSpec.ofChange Rows.fnSemverMoreSpec).preRow enc Tryz.prog Tryz.f3 Rows.fnSemverMoreRow.domain false Rows.fnSemverMoreRow.laid ((laidWorld os).forCall (fun _ _ => 0) ⟨#[], #[.string ⟨#[]⟩, .string ⟨#[]⟩], []⟩).memory #[.string ⟨#[]⟩, .string ⟨#[]⟩] := by
  have hw : (DataW.whole enc Tryz.prog ((laidWorld os).forCall (fun _ _ => 0) ⟨#[], #[.string ⟨#[]⟩, .string ⟨#[]⟩], []⟩).memory Tryz.f3.params.toList Rows.fnSemverMoreSpec.vars false #[Value.string ⟨#[]⟩, Value.string ⟨#[]⟩].toList 8).map (fun x => (x.1, x.2.1)) =
      some ([.lit (.string []), .lit (.string [])], []) := by kernel_rfl
  obtain ⟨⟨x1, x2, x3⟩, hx, hx1⟩ := Option.map_eq_some_iff.1 hw
  simp only [Prod.mk.injEq] at hx1
  obtain ⟨rfl, rfl⟩ := hx1
  exact OpenSpec.preRow_of_cond 8 hx (by kernel_rfl) (fun k hk => by cases hk) (by kernel_rfl) (laid_met os _)
set_option maxRecDepth 100000 in
set_option maxHeartbeats 2000000 in
theorem lifted (os : Os) (started : os.Started) (H : Type) (enc : TypeId × Value → H) (F : Stop.Interp) :
    ReturnsInHanded {} Tryz.checked os 3 .any ((OpenSpec.ofChange Rows.fnSemverMoreSpec).preRow enc Tryz.prog Tryz.f3 Rows.fnSemverMoreRow.domain false Rows.fnSemverMoreRow.laid) (((OpenSpec.ofChange Rows.fnSemverMoreSpec).at F).post enc Tryz.prog Tryz.f3 false true false false) := by
  refine returnsInHanded_of_row (C := Tryz.checked) (s := OpenSpec.ofChange Rows.fnSemverMoreSpec) own started (by kernel_rfl) Tryz.func3
    (witness_row_atRef (enc := enc) (C := Tryz.checked) false (laidWorld os) #[.string ⟨#[]⟩, .string ⟨#[]⟩] rfl (by kernel_rfl) (by kernel_rfl) (by kernel_rfl) (witness_row os enc)) ?_
  intro W base args ds gs before hval0 hW _ _ _ hL _ _
  have hval : ∀ (j : Nat) t v, Tryz.f3.params[j]? = some t → args[j]? = some v → Value.okWide Tryz.prog W .any base t v := hval0
  have hW' := hW
  obtain ⟨p, q, hA0, hV0, rfl, _, _⟩ := hW
  have hA : DataW.TrodAll enc Tryz.prog W 0 (fun _ => true) true Tryz.f3.params.toList args.toList ds p := hA0
  rw [Tryz.params3] at hA hval
  obtain ⟨v0, vs0, d0, ds0, p0, q0, hargs, rfl, rfl, h0, r0⟩ := trodAll_cons hA
  obtain ⟨v1, vs1, d1, ds1, p1, q1, rfl, rfl, rfl, h1, r1⟩ := trodAll_cons r0
  obtain ⟨rfl, rfl, rfl⟩ := trodAll_nil r1
  obtain rfl : args = #[v0, v1] := by cases args; simp_all
  obtain ⟨rfl, rfl⟩ := trodVars_none hV0
  obtain ⟨a, rfl, rfl, rfl, wa⟩ := open_string Tryz.underlying9 (hval 0 9 v0 rfl rfl) h0
  obtain ⟨b, rfl, rfl, rfl, wb⟩ := open_string Tryz.underlying9 (hval 1 9 v1 rfl rfl) h1
  clear hA0 hV0 hval0
  have hLM : laidMet Tryz.prog Rows.fnSemverMoreRow.laid W := hL
  have hT : VTabs W := vtabs_of hLM (by simp [Rows.fnSemverMoreRow]) (by simp [Rows.fnSemverMoreRow])
  obtain ⟨pe, he⟩ := laid_err hLM (n := "io.EOF") (g := 4) (by simp [Rows.fnSemverMoreRow]; rfl) (by kernel_rfl) (by kernel_rfl)
  obtain ⟨pn, hn⟩ := laid_err hLM (n := "pub-seniority/pub/bigall.errNoDigits") (g := 8) (by simp [Rows.fnSemverMoreRow]; rfl) (by kernel_rfl) (by kernel_rfl)
  obtain ⟨pi, hi⟩ := laid_err hLM (n := "pub-seniority/pub/scalibr/semantic.ErrInvalidVersion") (g := 1) (by simp [Rows.fnSemverMoreRow]; rfl) (by kernel_rfl) (by kernel_rfl)
  have hV : PkgVars W pe pn pi := ⟨⟨he, hn⟩, hi⟩
  have hBV : BigVars W := bigvars_of hLM (by simp [Rows.fnSemverMoreRow]) (by simp [Rows.fnSemverMoreRow]) (by simp [Rows.fnSemverMoreRow]) (by simp [Rows.fnSemverMoreRow]) (by simp [Rows.fnSemverMoreRow])
  refine (semverMore_walk a b pe pn pi W wa wb hV hBV hT).mono ?_
  rintro e W' ⟨rfl, bel⟩
  have e1 : ((OpenSpec.ofChange Rows.fnSemverMoreSpec).at F).fn H ([.lit (.string a.data.toList), .lit (.string b.data.toList)] ++ []) = { results := [.lit (.bool true)], args := [.lit (.string a.data.toList), .lit (.string b.data.toList)] } := rfl
  refine ⟨_, rfl, _, _, _, [], [], [], hW', ?_, ?_, ?_, bel.frame _, fun h => by cases h⟩
  · rw [e1]; exact trodAll_mk1 (shut_bool Tryz.underlying4 _)
  · rw [e1]; exact trodAll_cons_mk (shut_string Tryz.underlying9 wa) (trodAll_mk1 (shut_string Tryz.underlying9 wb))
  · rw [e1]; rfl
theorem said : Rows.FnSemverMoreSaid :=
  OpenClaim.holds_of_cond 3 Tryz.f3 rfl rfl rfl rfl rfl rfl rfl ⟨rfl, rfl, rfl, rfl, rfl⟩ rfl rfl rfl rfl rfl (by kernel_rfl) Tryz.func3 closed
    (of_decide_eq_true (by kernel_rfl)) (by unfold Func.isWrapper; rw [if_neg (of_decide_eq_false (by kernel_rfl))]; exact ⟨rfl, rfl⟩)
    (fun os started H enc _ F => by rw [OpenClaim.pre_eq_preRow]; exact lifted os started H enc F)
theorem plain (f : FuncId) (fn : Func) (hf : Tryz.pinned.checked.prog.funcNamed "pub-seniority/laws.FnSemverMore" = some f) (hfn : Tryz.pinned.checked.prog.funcs[f]? = some fn) :
    true = Tryz.pinned.checked.prog.looks [] ∧ ∀ (j : Nat) t, fn.params[j]? = some t → Tryz.pinned.checked.prog.wantsStandIn t = false := by
  obtain rfl : f = 3 := Option.some.inj ((show Tryz.prog.funcNamed "pub-seniority/laws.FnSemverMore" = some 3 by kernel_rfl).symm.trans hf) |>.symm
  obtain rfl : fn = Tryz.f3 := (Option.some.inj (Tryz.func3.symm.trans hfn)).symm
  refine ⟨by kernel_rfl, fun j t ht => ?_⟩
  rw [Tryz.params3] at ht
  obtain rfl : t = 9 := by
    have := Array.mem_of_getElem? ht
    simpa using this
  exact (show Tryz.prog.wantsStandIn 9 = false by kernel_rfl)
theorem goes : false = Rows.fnSemverMoreRow.goesBy Tryz.pinned.checked.prog := by kernel_rfl
theorem main_is : Tryz.pinned.checked.prog.mainIs = some (true, "426c7cf15be2ad6f236438a6108a4ce0372a8041b9e27b6cc57b6b57d7dfd9b0".toList) := by kernel_rfl
theorem card : Rows.FnSemverMoreCardSaid :=
  Claim7.holds_tied_plain_at .later [] _ _ _ _ said (fun _ h => by cases h) (by kernel_rfl) (fun _ h => by cases h) fnSemverMore_row_tie rfl ⟨rfl, rfl⟩ main_is rfl plain goes
end Go.Proofs.YtgfkdjmoflbmdaaGreatDoor.SemverMore
