/- Contract: unicode/utf8.word (some number comes back). -/
import Derived.Test.YtgfkdjmoflbmdaaGreatDoorMPl1xPl2
namespace Go.Proofs.YtgfkdjmoflbmdaaGreatDoor
open Go.RowKit
open Go.Proofs

def wordE (x0 x1 x2 x3 x4 x5 x6 x7 : Int) : Int :=
  bits .or .u64 (bits .or .u64 (bits .or .u64 (bits .or .u64 (bits .or .u64 (bits .or .u64 (bits .or .u64 (IntKind.u64.wrap x0) (IntKind.u64.wrap (IntKind.u64.wrap x1 * 256)))
    (IntKind.u64.wrap (IntKind.u64.wrap x2 * 65536))) (IntKind.u64.wrap (IntKind.u64.wrap x3 * 16777216))) (IntKind.u64.wrap (IntKind.u64.wrap x4 * 4294967296))) (IntKind.u64.wrap (IntKind.u64.wrap x5 * 1099511627776)))
    (IntKind.u64.wrap (IntKind.u64.wrap x6 * 281474976710656))) (IntKind.u64.wrap (IntKind.u64.wrap x7 * 72057594037927936))
set_option maxRecDepth 100000 in
set_option maxHeartbeats 2000000 in
theorem word_any (t : ByteArray) (h8 : 8 ≤ t.size) : ∃ A : Int, ∀ W : World, Calls Tryz.prog 102 #[.string t] W fun e w' => e = .returned (.int .u64 A) ∧ ∃ q, w' = W.drewN q := by
  have i0 : (0 : Int) < (t.size : Int) := by omega
  have i1 : (1 : Int) < (t.size : Int) := by omega
  have i2 : (2 : Int) < (t.size : Int) := by omega
  have i3 : (3 : Int) < (t.size : Int) := by omega
  have i4 : (4 : Int) < (t.size : Int) := by omega
  have i5 : (5 : Int) < (t.size : Int) := by omega
  have i6 : (6 : Int) < (t.size : Int) := by omega
  have i7 : (7 : Int) < (t.size : Int) := by omega
  have p0 : 0 < t.size := by omega
  have p1 : 1 < t.size := by omega
  have p2 : 2 < t.size := by omega
  have p3 : 3 < t.size := by omega
  have p4 : 4 < t.size := by omega
  have p5 : 5 < t.size := by omega
  have p6 : 6 < t.size := by omega
  have p7 : 7 < t.size := by omega
  refine ⟨wordE t[0].toNat t[1].toNat t[2].toNat t[3].toNat t[4].toNat t[5].toNat t[6].toNat t[7].toNat, fun W => ?_⟩
  obtain ⟨R, hR⟩ : ∃ R, wordE t[0].toNat t[1].toNat t[2].toNat t[3].toNat t[4].toNat t[5].toNat t[6].toNat t[7].toNat = R := ⟨_, rfl⟩
  rw [hR]
  have HR := Lib.hid hR
  clear hR
  go_enter Tryz.func102, Tryz.ntmps102
  go_wp2_with fail
  go_quiet (fail)
  go_wp2
  go_ret
  exact ⟨ret_int HR.out, _, rfl⟩
end Go.Proofs.YtgfkdjmoflbmdaaGreatDoor
