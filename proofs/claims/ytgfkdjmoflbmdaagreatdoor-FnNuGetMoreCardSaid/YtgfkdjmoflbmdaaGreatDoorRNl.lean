/- The shelf's contract of strings.ToLower at ASCII texts, laid at this dump in plain words (written by the kit's lay-shelf.mjs and lay-plain.mjs), and spoken in this seat's words. -/
import Derived.Shelf.Strings.OnBuilder
import Derived.Test.YtgfkdjmoflbmdaaGreatDoorRQaxPlJ
namespace Go.Proofs
open Go.Shelf
def Tryz.lays159_ren : Go.Shelf.Ren := ⟨fun | 159 => 117 | 165 => 136 | 166 => 131 | 167 => 137 | 169 => 133 | 230 => 138 | 204 => 139 | 240 => 148 | 241 => 151 | 197 => 152 | 118 => 153 | 168 => 154 | 270 => 155 | 262 => 156 | 276 => 162 | 277 => 164 | 260 => 165 | 242 => 166 | 313 => 167 | 278 => 184 | 274 => 185 | 275 => 186 | n => n, fun | 9 => 9 | 4 => 4 | 3 => 3 | 5 => 5 | 72 => 149 | 0 => 0 | 76 => 52 | 75 => 51 | 107 => 154 | 70 => 147 | 20 => 20 | 37 => 91 | 127 => 172 | 21 => 21 | 105 => 173 | 164 => 185 | 162 => 192 | 203 => 190 | 119 => 109 | 46 => 113 | 139 => 112 | 138 => 111 | 51 => 212 | 160 => 213 | 208 => 238 | 206 => 236 | 80 => 150 | n => n, fun | 13 => 6 | 3 => 2 | 4 => 3 | n => n⟩
theorem Tryz.lays159 : Go.Proofs.Lays.n159 Tryz.prog Tryz.lays159_ren := {
  mixed := by kernel_rfl
  f118 := Tryz.func153.trans (congrArg some (by kernel_rfl))
  f159 := Tryz.func117.trans (congrArg some (by kernel_rfl))
  f165 := Tryz.func136.trans (congrArg some (by kernel_rfl))
  f166 := Tryz.func131.trans (congrArg some (by kernel_rfl))
  f167 := Tryz.func137.trans (congrArg some (by kernel_rfl))
  f168 := Tryz.func154.trans (congrArg some (by kernel_rfl))
  f169 := Tryz.func133.trans (congrArg some (by kernel_rfl))
  f197 := Tryz.func152.trans (congrArg some (by kernel_rfl))
  f204 := Tryz.func139.trans (congrArg some (by kernel_rfl))
  f230 := Tryz.func138.trans (congrArg some (by kernel_rfl))
  f240 := Tryz.func148.trans (congrArg some (by kernel_rfl))
  f241 := Tryz.func151.trans (congrArg some (by kernel_rfl))
  f242 := Tryz.func166.trans (congrArg some (by kernel_rfl))
  f260 := Tryz.func165.trans (congrArg some (by kernel_rfl))
  f262 := Tryz.func156.trans (congrArg some (by kernel_rfl))
  f270 := Tryz.func155.trans (congrArg some (by kernel_rfl))
  f274 := Tryz.func185.trans (congrArg some (by kernel_rfl))
  f275 := Tryz.func186.trans (congrArg some (by kernel_rfl))
  f276 := Tryz.func162.trans (congrArg some (by kernel_rfl))
  f277 := Tryz.func164.trans (congrArg some (by kernel_rfl))
  f278 := Tryz.func184.trans (congrArg some (by kernel_rfl))
  f313 := Tryz.func167.trans (congrArg some (by kernel_rfl))
  t0 := Tryz.underlying0
  a0 := Tryz.isAgg0
  z0 := Tryz.sizeOf0
  v0 := Tryz.zeroValue0
  t3 := Tryz.underlying3
  a3 := Tryz.isAgg3
  z3 := Tryz.sizeOf3
  v3 := Tryz.zeroValue3
  t4 := Tryz.underlying4
  a4 := Tryz.isAgg4
  z4 := Tryz.sizeOf4
  v4 := Tryz.zeroValue4
  t5 := Tryz.underlying5
  a5 := Tryz.isAgg5
  z5 := Tryz.sizeOf5
  v5 := Tryz.zeroValue5
  t9 := Tryz.underlying9
  a9 := Tryz.isAgg9
  z9 := Tryz.sizeOf9
  v9 := Tryz.zeroValue9
  t20 := Tryz.underlying20
  a20 := Tryz.isAgg20
  z20 := Tryz.sizeOf20
  v20 := Tryz.zeroValue20
  t21 := Tryz.underlying21
  a21 := Tryz.isAgg21
  z21 := Tryz.sizeOf21
  v21 := Tryz.zeroValue21
  t37 := Tryz.underlying91
  a37 := Tryz.isAgg91
  z37 := Tryz.sizeOf91
  v37 := Tryz.zeroValue91
  t46 := Tryz.underlying113
  a46 := Tryz.isAgg113
  z46 := Tryz.sizeOf113
  v46 := Tryz.zeroValue113
  t51 := Tryz.underlying212
  a51 := Tryz.isAgg212
  z51 := Tryz.sizeOf212
  v51 := Tryz.zeroValue212
  t70 := Tryz.underlying147
  a70 := Tryz.isAgg147
  z70 := Tryz.sizeOf147
  v70 := Tryz.zeroValue147
  t72 := Tryz.underlying149
  a72 := Tryz.isAgg149
  z72 := Tryz.sizeOf149
  v72 := Tryz.zeroValue149
  t75 := Tryz.underlying51
  a75 := Tryz.isAgg51
  z75 := Tryz.sizeOf51
  v75 := Tryz.zeroValue51
  t76 := Tryz.underlying52
  a76 := Tryz.isAgg52
  z76 := Tryz.sizeOf52
  v76 := Tryz.zeroValue52
  t105 := Tryz.underlying173
  a105 := Tryz.isAgg173
  z105 := Tryz.sizeOf173
  v105 := Tryz.zeroValue173
  t107 := Tryz.underlying154
  a107 := Tryz.isAgg154
  z107 := Tryz.sizeOf154
  v107 := Tryz.zeroValue154
  t119 := Tryz.underlying109
  a119 := Tryz.isAgg109
  z119 := Tryz.sizeOf109
  t127 := Tryz.underlying172
  a127 := Tryz.isAgg172
  z127 := Tryz.sizeOf172
  v127 := Tryz.zeroValue172
  t138 := Tryz.underlying111
  a138 := Tryz.isAgg111
  z138 := Tryz.sizeOf111
  v138 := Tryz.zeroValue111
  t139 := Tryz.underlying112
  a139 := Tryz.isAgg112
  z139 := Tryz.sizeOf112
  v139 := Tryz.zeroValue112
  t160 := Tryz.underlying213
  a160 := Tryz.isAgg213
  z160 := Tryz.sizeOf213
  v160 := Tryz.zeroValue213
  t162 := Tryz.underlying192
  a162 := Tryz.isAgg192
  z162 := Tryz.sizeOf192
  v162 := Tryz.zeroValue192
  t164 := Tryz.underlying185
  a164 := Tryz.isAgg185
  z164 := Tryz.sizeOf185
  v164 := Tryz.zeroValue185
  t203 := Tryz.underlying190
  a203 := Tryz.isAgg190
  z203 := Tryz.sizeOf190
  v203 := Tryz.zeroValue190
  t206 := Tryz.underlying236
  a206 := Tryz.isAgg236
  z206 := Tryz.sizeOf236
  v206 := Tryz.zeroValue236
  t208 := Tryz.underlying238
  a208 := Tryz.isAgg238
  z208 := Tryz.sizeOf238
  v208 := Tryz.zeroValue238
  g3 := by kernel_rfl
  g4 := by kernel_rfl
  g13 := by kernel_rfl }
theorem Tryz.Builder_Extra_159 : Builder.Extra Tryz.prog Tryz.lays159_ren := {
  sizeBuilder := by kernel_rfl
  liesBuilder := by kernel_rfl
  t5 := Tryz.underlying5
  a5 := Tryz.isAgg5
  z5 := Tryz.sizeOf5
  v5 := Tryz.zeroValue5
  infoByte := by kernel_rfl
  cellsByte := by kernel_rfl
  sizeByte := by kernel_rfl
  neB5 := by decide }
open Go.RowKit in
theorem Tryz.strings_ToLower_ascii (s : ByteArray) (w : World) (hs : s.size ≤ 140737488355328) (hascii : ∀ (j : Nat) (b : UInt8), s.data.toList[j]? = some b → b.toNat < 128) :
    Calls Tryz.prog 117 #[.string s] w fun e w' => e = .returned (.string ⟨(Lib.toLowerA s.data.toList).toArray⟩) ∧ Below w.heap.size w w' := Any.strings_ToLower_ascii Tryz.lays159 Tryz.Builder_Extra_159 s w hs hascii
end Go.Proofs
namespace Go.Proofs.YtgfkdjmoflbmdaaGreatDoor
open Go.RowKit
open Go.Proofs
theorem toLowerA_lower (l : Pl.Bytes) : Lib.toLowerA l = Pl.lower l := by
  rw [Lib.toLowerA, Pl.lower]
  refine List.map_congr_left fun c _ => ?_
  rw [Lib.lowerB, Pl.lowB, Lib.isUpperB]
  by_cases h : 65 ≤ c.toNat ∧ c.toNat ≤ 90
  · rw [if_pos h, if_pos (by simpa [UInt8.le_iff_toNat_le] using h)]
  · rw [if_neg h, if_neg (by simpa [UInt8.le_iff_toNat_le] using h)]
theorem toLower_any (s : ByteArray) (w : World) (hs : s.size ≤ 30000) (ha : Pl.ascii s.data.toList = true) :
    Calls Tryz.prog 117 #[.string s] w fun e w' => e = .returned (S (Pl.lower s.data.toList)) ∧ Below w.heap.size w w' := by
  refine (Tryz.strings_ToLower_ascii s w (by omega) fun j b hb => ?_).mono ?_
  · have := List.all_eq_true.1 ha b (List.mem_of_getElem? hb)
    simp at this
    omega
  · rintro e w' ⟨rfl, h⟩
    rw [toLowerA_lower]
    exact ⟨rfl, h⟩
end Go.Proofs.YtgfkdjmoflbmdaaGreatDoor
