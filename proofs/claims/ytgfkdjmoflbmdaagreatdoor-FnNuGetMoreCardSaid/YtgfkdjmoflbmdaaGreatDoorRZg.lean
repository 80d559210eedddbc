/- A world that fits the rows that list unicode.CaseRanges, too. -/
import Derived.Test.YtgfkdjmoflbmdaaGreatDoorRSjxZc
import Derived.Lib.LaidCaseMet
namespace Go.Proofs.YtgfkdjmoflbmdaaGreatDoor
open Go.ChangeShapes Go.WideShapes Go.ChangeAt Go.RowKit
open Go.Proofs Go.Lib
theorem laidVars_split {P : Program} {w : World} : ∀ {l l' : List (String × DataW Unit)} {ps : List MemPlace}, DataW.LaidVars P w (l ++ l') ps → ∃ p q, DataW.LaidVars P w l p ∧ DataW.LaidVars P w l' q ∧ ps = p ++ q
  | [], _, ps, h => ⟨[], ps, rfl, h, rfl⟩
  | (n, d) :: r, l', ps, h => by
    obtain ⟨g, t, cs, fuel, p, q, h1, h2, h3, h4, h5, rfl⟩ := h
    obtain ⟨p1, q1, k1, k2, rfl⟩ := laidVars_split h5
    exact ⟨MemPlace.row ⟨g, 0, none⟩ cs.size ++ p ++ p1, q1, ⟨g, t, cs, fuel, p, p1, h1, h2, h3, h4, k1, rfl⟩, k2, by simp [List.append_assoc]⟩
theorem laid_swap {P : Program} {w : World} {l : List (String × DataW Unit)} {x y : String × DataW Unit} (h : laidMet P (l ++ [x] ++ [y]) w) : laidMet P (l ++ [y, x]) w := by
  obtain ⟨ps, h1, h2, h3⟩ := h
  obtain ⟨p, q, k1, k2, rfl⟩ := laidVars_split h1
  obtain ⟨a, b, m1, m2, rfl⟩ := laidVars_split k1
  have hv : DataW.LaidVars P w (l ++ ([y] ++ [x])) (a ++ (q ++ b)) := LaidVars_app m1 (LaidVars_app k2 m2)
  have hp : (a ++ (q ++ b)).Perm (a ++ b ++ q) := by
    rw [List.append_assoc]
    exact List.Perm.append_left a List.perm_append_comm
  refine ⟨_, hv, hp.nodup_iff.2 h2, fun c off hc => h3 c off (hp.mem_iff.1 hc)⟩
noncomputable def laidWorldC (os : Os) : World :=
  let N := (World.settled Tryz.prog os).heap.size
  let w0 := World.holding Tryz.prog os ⟨#[errObj [69, 79, 70], errObj [110, 117, 109, 98, 101, 114, 32, 104, 97, 115, 32, 110, 111, 32, 100, 105, 103, 105, 116, 115],
    errObj [39, 95, 39, 32, 109, 117, 115, 116, 32, 115, 101, 112, 97, 114, 97, 116, 101, 32, 115, 117, 99, 99, 101, 115, 115, 105, 118, 101, 32, 100, 105, 103, 105, 116, 115], errObj [105, 110, 118, 97, 108, 105, 100, 32, 118, 101, 114, 115, 105, 111, 110],
    errObj [118, 101, 114, 115, 105, 111, 110, 32, 105, 115, 32, 110, 111, 116, 32, 111, 102, 32, 116, 104, 101, 32, 115, 97, 109, 101, 32, 101, 99, 111, 115, 121, 115, 116, 101, 109], .cells Lib.caseCells5 238], #[], []⟩
  let put (h : Array Obj) (g : Nat) (cs : Array Value) : Array Obj := h.modify g fun
    | .cells _ t frozen => .cells cs t frozen
    | o => o
  let err (k : Nat) : Array Value := #[.iface 305 (.pointer (some ⟨N + k, 0, none⟩))]
  let h := put w0.heap 2 (Lib.firstTab.map fun z => Value.int .u8 z).toArray
  let h := put h 3 ((List.range 16).flatMap fun i => [Value.int .u8 (accLo i), Value.int .u8 (accHi i)]).toArray
  let h := put h 4 (err 0)
  let h := put h 8 (err 1)
  let h := put h 7 (err 2)
  let h := put h 1 (err 3)
  let h := put h 0 (err 4)
  let h := put h 10 #[.int .i64 8]
  let h := put h 15 #[.int .i64 40]
  let h := put h 16 #[.int .i64 40]
  let h := put h 13 #[.int .i64 12]
  let h := put h 14 #[.int .i64 80]
  let h := put h 11 #[.int .u8 0, .int .u8 1, .int .u8 28, .int .u8 2, .int .u8 29, .int .u8 14, .int .u8 24, .int .u8 3, .int .u8 30, .int .u8 22, .int .u8 20, .int .u8 15, .int .u8 25, .int .u8 17, .int .u8 4, .int .u8 8, .int .u8 31, .int .u8 27, .int .u8 13, .int .u8 23, .int .u8 21, .int .u8 19, .int .u8 16, .int .u8 7, .int .u8 26, .int .u8 12, .int .u8 18, .int .u8 6, .int .u8 11, .int .u8 5, .int .u8 10, .int .u8 9]
  let h := put h 12 #[.int .u8 0, .int .u8 1, .int .u8 56, .int .u8 2, .int .u8 57, .int .u8 49, .int .u8 28, .int .u8 3, .int .u8 61, .int .u8 58, .int .u8 42, .int .u8 50, .int .u8 38, .int .u8 29, .int .u8 17, .int .u8 4, .int .u8 62, .int .u8 47, .int .u8 59, .int .u8 36, .int .u8 45, .int .u8 43, .int .u8 51, .int .u8 22, .int .u8 53, .int .u8 39, .int .u8 33, .int .u8 30, .int .u8 24, .int .u8 18, .int .u8 12, .int .u8 5, .int .u8 63, .int .u8 55, .int .u8 48, .int .u8 27, .int .u8 60, .int .u8 41, .int .u8 37, .int .u8 16, .int .u8 46, .int .u8 35, .int .u8 44, .int .u8 21, .int .u8 52, .int .u8 32, .int .u8 23, .int .u8 11, .int .u8 54, .int .u8 26, .int .u8 40, .int .u8 15, .int .u8 34, .int .u8 20, .int .u8 31, .int .u8 10, .int .u8 25, .int .u8 14, .int .u8 19, .int .u8 9, .int .u8 13, .int .u8 8, .int .u8 7, .int .u8 6]
  let h := put h 6 #[.slice (some ⟨N + 5, 0, none⟩) caseA.size caseA.size]
  { w0 with heap := h }
set_option maxRecDepth 100000 in
theorem laid_metH (os : Os) (args : Array Value) : laidMet Tryz.prog Rows.fnHackageTextsRow.laid ((laidWorldC os).forCall (fun _ _ => 0) ⟨#[], args, []⟩).memory := by
  have h := laidMet_with_case (ρ := Tryz.lays204_ren) { Tryz.lays204 with } Tryz.underlying236 ⟨by kernel_rfl, by kernel_rfl, by kernel_rfl, by kernel_rfl, by kernel_rfl, by kernel_rfl⟩ (w := ((laidWorldC os).forCall (fun _ _ => 0) ⟨#[], args, []⟩).memory)
    (l := [("math/bits.deBruijn32tab", Rows.laid_math_bits_deBruijn32tab), ("math/bits.deBruijn64tab", Rows.laid_math_bits_deBruijn64tab), ("unicode/utf8.acceptRanges", Rows.laid_unicode_utf8_acceptRanges), ("io.EOF", Rows.laid_io_EOF), ("pub-seniority/pub/bigall.errNoDigits", Rows.laid_pub_seniority_pub_bigall_errNoDigits), ("pub-seniority/pub/bigall.errInvalSep", Rows.laid_pub_seniority_pub_bigall_errInvalSep), ("pub-seniority/pub/bigall.leafSize", Rows.laid_pub_seniority_pub_bigall_leafSize), ("pub-seniority/pub/bigall.divRecursiveThreshold", Rows.laid_pub_seniority_pub_bigall_divRecursiveThreshold), ("pub-seniority/pub/bigall.karatsubaThreshold", Rows.laid_pub_seniority_pub_bigall_karatsubaThreshold), ("pub-seniority/pub/bigall.basicSqrThreshold", Rows.laid_pub_seniority_pub_bigall_basicSqrThreshold), ("pub-seniority/pub/bigall.karatsubaSqrThreshold", Rows.laid_pub_seniority_pub_bigall_karatsubaSqrThreshold), ("pub-seniority/pub/scalibr/semantic.ErrInvalidVersion", Rows.laid_pub_seniority_pub_scalibr_semantic_ErrInvalidVersion), ("pub-seniority/pub/scalibr/semantic.ErrNotSameEcosystem", Rows.laid_pub_seniority_pub_scalibr_semantic_ErrNotSameEcosystem), ("unicode/utf8.first", Rows.laid_unicode_utf8_first)])
    10 (by kernel_rfl) (by kernel_rfl) (by kernel_rfl) ((World.settled Tryz.prog default).heap.size + 5) 238 (of_decide_eq_true (by kernel_rfl)) (by kernel_rfl) (by kernel_rfl) (by kernel_rfl)
  have h2 := laid_swap (l := [("math/bits.deBruijn32tab", Rows.laid_math_bits_deBruijn32tab), ("math/bits.deBruijn64tab", Rows.laid_math_bits_deBruijn64tab), ("unicode/utf8.acceptRanges", Rows.laid_unicode_utf8_acceptRanges), ("io.EOF", Rows.laid_io_EOF), ("pub-seniority/pub/bigall.errNoDigits", Rows.laid_pub_seniority_pub_bigall_errNoDigits), ("pub-seniority/pub/bigall.errInvalSep", Rows.laid_pub_seniority_pub_bigall_errInvalSep), ("pub-seniority/pub/bigall.leafSize", Rows.laid_pub_seniority_pub_bigall_leafSize), ("pub-seniority/pub/bigall.divRecursiveThreshold", Rows.laid_pub_seniority_pub_bigall_divRecursiveThreshold), ("pub-seniority/pub/bigall.karatsubaThreshold", Rows.laid_pub_seniority_pub_bigall_karatsubaThreshold), ("pub-seniority/pub/bigall.basicSqrThreshold", Rows.laid_pub_seniority_pub_bigall_basicSqrThreshold), ("pub-seniority/pub/bigall.karatsubaSqrThreshold", Rows.laid_pub_seniority_pub_bigall_karatsubaSqrThreshold), ("pub-seniority/pub/scalibr/semantic.ErrInvalidVersion", Rows.laid_pub_seniority_pub_scalibr_semantic_ErrInvalidVersion), ("pub-seniority/pub/scalibr/semantic.ErrNotSameEcosystem", Rows.laid_pub_seniority_pub_scalibr_semantic_ErrNotSameEcosystem)]) h
  rw [show (caseData : DataW Unit) = Rows.laid_unicode_CaseRanges from Pinned.caseRanges_eq.symm] at h2
  exact h2
end Go.Proofs.YtgfkdjmoflbmdaaGreatDoor
