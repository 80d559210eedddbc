/- The shelf's contract of strings.ToLower at ASCII texts, laid at this dump in plain words (written by the kit's lay-shelf.mjs and lay-plain.mjs), and spoken in this seat's words. Contracts: NuGetVersion.compare, ParseNuGetVersion. Contracts: NuGetVersion.CompareStr, NuGetCompareText. Contracts: NuGetVersion.Compare, ZZNuGet, NuGetCompare (the thin package's). Walk: FnNuGetTexts. -/
import Derived.Shelf.Strings.OnBuilder
import Derived.Test.YtgfkdjmoflbmdaaGreatDoorProg
import Derived.Test.YtgfkdjmoflbmdaaGreatDoorMPl1xPl2
import Derived.Test.YtgfkdjmoflbmdaaGreatDoorMPlCxPlE
import Derived.Test.YtgfkdjmoflbmdaaGreatDoorMYp2xXw
import Derived.Deep.RegionWith
import Derived.Test.YtgfkdjmoflbmdaaGreatDoorMXuxZb
import Derived.Test.YtgfkdjmoflbmdaaGreatDoorMPlFxHf
namespace Go.Proofs
open Go.Shelf
def Tryz.lays159_ren : Go.Shelf.Ren := ⟨fun | 159 => 117 | 165 => 136 | 166 => 131 | 167 => 137 | 169 => 133 | 230 => 138 | 204 => 139 | 240 => 148 | 241 => 151 | 197 => 152 | 118 => 153 | 168 => 154 | 270 => 155 | 262 => 156 | 276 => 162 | 277 => 164 | 260 => 165 | 242 => 166 | 313 => 167 | 278 => 184 | 274 => 185 | 275 => 186 | n => n, fun | 9 => 9 | 4 => 4 | 3 => 3 | 5 => 5 | 72 => 149 | 0 => 0 | 76 => 52 | 75 => 51 | 107 => 154 | 70 => 147 | 20 => 20 | 37 => 91 | 127 => 172 | 21 => 21 | 105 => 173 | 164 => 185 | 162 => 192 | 203 => 190 | 119 => 109 | 46 => 113 | 139 => 112 | 138 => 111 | 51 => 212 | 160 => 213 | 208 => 238 | 206 => 236 | 80 => 150 | n => n, fun | 13 => 6 | 3 => 2 | 4 => 3 | n => n⟩
theorem Tryz.lays159 : Go.Proofs.Lays.n159 Tryz.prog Tryz.lays159_ren := {
  mixed := by kernel_rfl
  f118 := Tryz.func153.trans (congrArg some (by kernel_rfl))
  f159 := Tryz.func117.trans (congrArg some (by kernel_rfl))
  f165 := Tryz.func136.trans (congrArg some (by kernel_rfl))
  f166 := Tryz.func131.trans (congrArg some (by kernel_rfl))
  f167 := Tryz.func137.trans (congrArg some (by kernel_rfl))
  f168 := Tryz.func154.trans (congrArg some (by kernel_rfl))
  f169 := Tryz.func133.trans (congrArg some (by kernel_rfl))
  f197 := Tryz.func152.trans (congrArg some (by kernel_rfl))
  f204 := Tryz.func139.trans (congrArg some (by kernel_rfl))
  f230 := Tryz.func138.trans (congrArg some (by kernel_rfl))
  f240 := Tryz.func148.trans (congrArg some (by kernel_rfl))
  f241 := Tryz.func151.trans (congrArg some (by kernel_rfl))
  f242 := Tryz.func166.trans (congrArg some (by kernel_rfl))
  f260 := Tryz.func165.trans (congrArg some (by kernel_rfl))
  f262 := Tryz.func156.trans (congrArg some (by kernel_rfl))
  f270 := Tryz.func155.trans (congrArg some (by kernel_rfl))
  f274 := Tryz.func185.trans (congrArg some (by kernel_rfl))
  f275 := Tryz.func186.trans (congrArg some (by kernel_rfl))
  f276 := Tryz.func162.trans (congrArg some (by kernel_rfl))
  f277 := Tryz.func164.trans (congrArg some (by kernel_rfl))
  f278 := Tryz.func184.trans (congrArg some (by kernel_rfl))
  f313 := Tryz.func167.trans (congrArg some (by kernel_rfl))
  t0 := Tryz.underlying0
  a0 := Tryz.isAgg0
  z0 := Tryz.sizeOf0
  v0 := Tryz.zeroValue0
  t3 := Tryz.underlying3
  a3 := Tryz.isAgg3
  z3 := Tryz.sizeOf3
  v3 := Tryz.zeroValue3
  t4 := Tryz.underlying4
  a4 := Tryz.isAgg4
  z4 := Tryz.sizeOf4
  v4 := Tryz.zeroValue4
  t5 := Tryz.underlying5
  a5 := Tryz.isAgg5
  z5 := Tryz.sizeOf5
  v5 := Tryz.zeroValue5
  t9 := Tryz.underlying9
  a9 := Tryz.isAgg9
  z9 := Tryz.sizeOf9
  v9 := Tryz.zeroValue9
  t20 := Tryz.underlying20
  a20 := Tryz.isAgg20
  z20 := Tryz.sizeOf20
  v20 := Tryz.zeroValue20
  t21 := Tryz.underlying21
  a21 := Tryz.isAgg21
  z21 := Tryz.sizeOf21
  v21 := Tryz.zeroValue21
  t37 := Tryz.underlying91
  a37 := Tryz.isAgg91
  z37 := Tryz.sizeOf91
  v37 := Tryz.zeroValue91
  t46 := Tryz.underlying113
  a46 := Tryz.isAgg113
  z46 := Tryz.sizeOf113
  v46 := Tryz.zeroValue113
  t51 := Tryz.underlying212
  a51 := Tryz.isAgg212
  z51 := Tryz.sizeOf212
  v51 := Tryz.zeroValue212
  t70 := Tryz.underlying147
  a70 := Tryz.isAgg147
  z70 := Tryz.sizeOf147
  v70 := Tryz.zeroValue147
  t72 := Tryz.underlying149
  a72 := Tryz.isAgg149
  z72 := Tryz.sizeOf149
  v72 := Tryz.zeroValue149
  t75 := Tryz.underlying51
  a75 := Tryz.isAgg51
  z75 := Tryz.sizeOf51
  v75 := Tryz.zeroValue51
  t76 := Tryz.underlying52
  a76 := Tryz.isAgg52
  z76 := Tryz.sizeOf52
  v76 := Tryz.zeroValue52
  t105 := Tryz.underlying173
  a105 := Tryz.isAgg173
  z105 := Tryz.sizeOf173
  v105 := Tryz.zeroValue173
  t107 := Tryz.underlying154
  a107 := Tryz.isAgg154
  z107 := Tryz.sizeOf154
  v107 := Tryz.zeroValue154
  t119 := Tryz.underlying109
  a119 := Tryz.isAgg109
  z119 := Tryz.sizeOf109
  t127 := Tryz.underlying172
  a127 := Tryz.isAgg172
  z127 := Tryz.sizeOf172
  v127 := Tryz.zeroValue172
  t138 := Tryz.underlying111
  a138 := Tryz.isAgg111
  z138 := Tryz.sizeOf111
  v138 := Tryz.zeroValue111
  t139 := Tryz.underlying112
  a139 := Tryz.isAgg112
  z139 := Tryz.sizeOf112
  v139 := Tryz.zeroValue112
  t160 := Tryz.underlying213
  a160 := Tryz.isAgg213
  z160 := Tryz.sizeOf213
  v160 := Tryz.zeroValue213
  t162 := Tryz.underlying192
  a162 := Tryz.isAgg192
  z162 := Tryz.sizeOf192
  v162 := Tryz.zeroValue192
  t164 := Tryz.underlying185
  a164 := Tryz.isAgg185
  z164 := Tryz.sizeOf185
  v164 := Tryz.zeroValue185
  t203 := Tryz.underlying190
  a203 := Tryz.isAgg190
  z203 := Tryz.sizeOf190
  v203 := Tryz.zeroValue190
  t206 := Tryz.underlying236
  a206 := Tryz.isAgg236
  z206 := Tryz.sizeOf236
  v206 := Tryz.zeroValue236
  t208 := Tryz.underlying238
  a208 := Tryz.isAgg238
  z208 := Tryz.sizeOf238
  v208 := Tryz.zeroValue238
  g3 := by kernel_rfl
  g4 := by kernel_rfl
  g13 := by kernel_rfl }
theorem Tryz.Builder_Extra_159 : Builder.Extra Tryz.prog Tryz.lays159_ren := {
  sizeBuilder := by kernel_rfl
  liesBuilder := by kernel_rfl
  t5 := Tryz.underlying5
  a5 := Tryz.isAgg5
  z5 := Tryz.sizeOf5
  v5 := Tryz.zeroValue5
  infoByte := by kernel_rfl
  cellsByte := by kernel_rfl
  sizeByte := by kernel_rfl
  neB5 := by decide }
open Go.RowKit in
/-- strings.ToLower: "ToLower returns s with all Unicode letters mapped to their lower case.": ON ASCII TEXT OF AT MOST 2^47 BYTES. Below the heap's end the world is as it was: where a letter turns, the call makes a builder and its buffer. (LAID: no walk: one application.) -/
theorem Tryz.strings_ToLower_ascii (s : ByteArray) (w : World) (hs : s.size ≤ 140737488355328) (hascii : ∀ (j : Nat) (b : UInt8), s.data.toList[j]? = some b → b.toNat < 128) :
    Calls Tryz.prog 117 #[.string s] w fun e w' => e = .returned (.string ⟨(Lib.toLowerA s.data.toList).toArray⟩) ∧ Below w.heap.size w w' := Any.strings_ToLower_ascii Tryz.lays159 Tryz.Builder_Extra_159 s w hs hascii
end Go.Proofs
namespace Go.Proofs.YtgfkdjmoflbmdaaGreatDoor
open Go.RowKit
open Go.Proofs
theorem toLowerA_lower (l : Pl.Bytes) : Lib.toLowerA l = Pl.lower l := by
  rw [Lib.toLowerA, Pl.lower]
  refine List.map_congr_left fun c _ => ?_
  rw [Lib.lowerB, Pl.lowB, Lib.isUpperB]
  by_cases h : 65 ≤ c.toNat ∧ c.toNat ≤ 90
  · rw [if_pos h, if_pos (by simpa [UInt8.le_iff_toNat_le] using h)]
  · rw [if_neg h, if_neg (by simpa [UInt8.le_iff_toNat_le] using h)]
theorem toLower_any (s : ByteArray) (w : World) (hs : s.size ≤ 30000) (ha : Pl.ascii s.data.toList = true) :
    Calls Tryz.prog 117 #[.string s] w fun e w' => e = .returned (S (Pl.lower s.data.toList)) ∧ Below w.heap.size w w' := by
  refine (Tryz.strings_ToLower_ascii s w (by omega) fun j b hb => ?_).mono ?_
  · have := List.all_eq_true.1 ha b (List.mem_of_getElem? hb)
    simp at this
    omega
  · rintro e w' ⟨rfl, h⟩
    rw [toLowerA_lower]
    exact ⟨rfl, h⟩
theorem ascii_build {l : Pl.Bytes} (h : Pl.ascii l = true) : Pl.ascii (Pl.buildOf l) = true := by
  rw [Pl.ascii, List.all_eq_true] at h ⊢
  intro c hc
  refine h c ?_
  have h1 : c ∈ Pl.restV l := (List.dropWhile_suffix _).subset hc
  cases l with
  | nil => exact h1
  | cons d r =>
    rw [Pl.restV] at h1
    split at h1
    · exact List.mem_cons_of_mem _ h1
    · exact h1
end Go.Proofs.YtgfkdjmoflbmdaaGreatDoor

namespace Go.Proofs.YtgfkdjmoflbmdaaGreatDoor
open Go.RowKit
open Go.Proofs

set_option maxRecDepth 100000 in
set_option maxHeartbeats 1000000 in
theorem nugetCmp_any (va vb : Bool) (A B : Option Addr) (ca cb : Nat) (ns ms : List Nat) (da db oa ob : ByteArray) (pe pn pi : Addr) (w : World) (hA : Bigs w A ns) (hB : Bigs w B ms) (hna : Small ns) (hnb : Small ms)
    (hda : da.size ≤ 30000) (hdb : db.size ≤ 30000) (hV : PkgVars w pe pn pi) (hka : Pl.buildKnown da.data.toList = true) (hkb : Pl.buildKnown db.data.toList = true) (haa : Pl.ascii da.data.toList = true) (hab : Pl.ascii db.data.toList = true) :
    Calls Tryz.prog 98 #[VV va A ns.length ca da oa, VV vb B ms.length cb db ob] w fun e w' => e = .returned (.int .i64 (Pl.nugetOrd ns ms da.data.toList db.data.toList)) ∧ Below w.heap.size w w' := by
  obtain ⟨W, hW⟩ : ∃ W, (w.alloc (.cells #[.bool va, .slice A ns.length ca, .string da, .string oa] 77)).alloc (.cells #[.bool vb, .slice B ms.length cb, .string db, .string ob] 77) = W := ⟨_, rfl⟩
  have hbW : Below w.heap.size w W := by rw [← hW]; exact ((Below.refl _ _).alloc (Nat.le_refl _) _).alloc (by simp) _
  have hP : Blk W w.heap.size 77 #[.bool va, .slice A ns.length ca, .string da, .string oa] := by rw [← hW]; exact (Blk.new _ _ _).alloc _
  have hQ : Blk W (w.heap.size + 1) 77 #[.bool vb, .slice B ms.length cb, .string db, .string ob] := by
    rw [← hW]
    have := Blk.new (w.alloc (.cells #[.bool va, .slice A ns.length ca, .string da, .string oa] 77)) 77 #[.bool vb, .slice B ms.length cb, .string db, .string ob]
    rw [World.size_alloc] at this
    exact this
  have p1 := hP.cell 1
  have q1 := hQ.cell 1
  simp at p1 q1
  have HC := Lib.hid (compsCmp_any w.heap.size 1 A B ca cb ns ms W p1 (hA.below hbW) (hB.below hbW) hna.1 hnb.1 (fun n h => by have := hna.2 n h; omega) (fun n h => by have := hnb.2 n h; omega))
  have HW := Lib.hid hW
  obtain ⟨z, hz⟩ : ∃ z, Pl.cmpNums ns ms = z := ⟨_, rfl⟩
  rw [hz] at HC
  obtain ⟨la, hla⟩ : ∃ la : ByteArray, ⟨(Pl.lower da.data.toList).toArray⟩ = la := ⟨_, rfl⟩
  obtain ⟨lb, hlb⟩ : ∃ lb : ByteArray, ⟨(Pl.lower db.data.toList).toArray⟩ = lb := ⟨_, rfl⟩
  obtain ⟨y, hy⟩ : ∃ y, Pl.builds (Pl.lower da.data.toList) (Pl.lower db.data.toList) = y := ⟨_, rfl⟩
  have hres : Pl.nugetOrd ns ms da.data.toList db.data.toList = if z ≠ 0 then z else y := by rw [Pl.nugetOrd, hz, hy]
  have HB := Lib.hid (fun w1 (h : Below W.heap.size W w1) => implBuilds_any la lb pe pn pi w1 (by rw [← hla, S_size, Pl.lower_len, len_list]; exact hda) (by rw [← hlb, S_size, Pl.lower_len, len_list]; exact hdb) ((hV.below hbW).below h) (by rw [← hla]; exact Pl.buildKnown_lower hka) (by rw [← hlb]; exact Pl.buildKnown_lower hkb))
  have hyl : Pl.builds la.data.toList lb.data.toList = y := by rw [← hla, ← hlb]; exact hy
  rw [hyl] at HB
  have HM1 := Lib.hid (fun w1 => toLower_any da w1 hda haa)
  have HM2 := Lib.hid (fun w1 => toLower_any db w1 hdb hab)
  have hSa : S (Pl.lower da.data.toList) = .string la := by rw [← hla]
  have hSb : S (Pl.lower db.data.toList) = .string lb := by rw [← hlb]
  rw [hSa] at HM1
  rw [hSb] at HM2
  have HR := Lib.hid hres
  clear hW hz hy hyl hla hlb hSa hSb hres hA hB hna hnb
  by_cases hz0 : z = 0
  · have hz1 : (z != 0) = false := by simp [hz0]
    rw [if_neg (by simp [hz0])] at HR
    clear hz0
    go_enter Tryz.func98, Tryz.ntmps98
    go_wp2_with fail
    rw [HW.out]
    refine HC.out.mono ?_; rintro e w1 ⟨rfl, hb1⟩
    have hP1 := hP.below hb1 hP.lt
    have hQ1 := hQ.below hb1 hQ.lt
    have p2 := hP1.cell 2
    have q2 := hQ1.cell 2
    simp at p2 q2
    go_wp2_with fail
    have hP1d : Blk w1.drew w.heap.size 77 #[.bool va, .slice A ns.length ca, .string da, .string oa] := hP1
    have hQ1d : Blk w1.drew (w.heap.size + 1) 77 #[.bool vb, .slice B ms.length cb, .string db, .string ob] := hQ1
    have hb1d : Below W.heap.size W w1.drew := hb1.drew
    go_region_with (first
      | (go_at_call_of 117 (Value.string da); refine (HM1.out _).mono ?_; rintro e w2 ⟨rfl, hb2⟩; have hQ2 := hQ1d.below hb2 hQ1d.lt; have q22 := hQ2.cell 2; simp at q22; have hbb2 := hb1d.trans (hb2.mono hb1d.size))
      | (go_at_call_of 117 (Value.string db); refine (HM2.out _).mono ?_; rintro e w3 ⟨rfl, hb3⟩; have hbb3 := hbb2.trans (hb3.mono hbb2.size))
      | (go_at_call 108; refine (HB.out _ hbb3).mono ?_; rintro e w4 ⟨rfl, hb4⟩))
    all_goals go_wp2_with fail
    all_goals exact bodyPost_ret (v := .int .i64 y) (by simp [results, Tryz.results98, go_sem]) rfl ⟨by rw [HR.out], hbW.trans ((hbb3.trans (hb4.mono hbb3.size)).mono hbW.size)⟩
  · have hz1 : (z != 0) = true := by simpa using hz0
    rw [if_pos hz0] at HR
    clear hz0
    go_enter Tryz.func98, Tryz.ntmps98
    go_wp2_with fail
    rw [HW.out]
    refine HC.out.mono ?_; rintro e w1 ⟨rfl, hb1⟩
    go_wp2
    go_ret
    exact ⟨ret_int HR.out.symm, hbW.trans (hb1.mono hbW.size)⟩

set_option maxRecDepth 100000 in
theorem ParseNuGet_any (s : ByteArray) (pe pn pi : Addr) (w : World) (hs : s.size ≤ 30000) (hV : PkgVars w pe pn pi) (hasc : Pl.ascii s.data.toList = true) (hm : ((Pl.numsOf s.data.toList).length : Int) ≤ 4) :
    Calls Tryz.prog 68 #[.string s] w (TextBack w s) := by
  obtain ⟨W, hW⟩ : ∃ W, w.alloc (.cells #[.bool false, .slice none 0 0, .string ⟨#[]⟩, .string ⟨#[]⟩] 77) = W := ⟨_, rfl⟩
  have hbW : Below w.heap.size w W := by rw [← hW]; exact (Below.refl _ _).alloc (Nat.le_refl _) _
  have hRW : Blk W w.heap.size 77 #[.bool false, .slice none 0 0, .string ⟨#[]⟩, .string ⟨#[]⟩] := by rw [← hW]; exact Blk.new _ _ _
  have HC := Lib.hid (parseVersion_any s 4 pe pn pi W hs (hV.below hbW) hasc hm)
  have HW := Lib.hid hW
  clear hW
  go_enter Tryz.func68, Tryz.ntmps68
  go_wp2_with fail
  rw [HW.out]
  refine HC.out.mono ?_; rintro e w1 ⟨A, c, rfl, hob, hb1⟩
  have hR1 := hRW.below hb1 hRW.lt
  have d0 := hR1.cell 0
  have d1 := hR1.cell 1
  have d2 := hR1.cell 2
  have d3 := hR1.cell 3
  have e0 := hR1.frozen 0
  have e1 := hR1.frozen 1
  have e2 := hR1.frozen 2
  have e3 := hR1.frozen 3
  simp at d0 d1 d2 d3
  go_wp2
  refine bodyPost_ret (v := .agg #[.bool (Pl.startsV s.data.toList), .slice A (Pl.numsOf s.data.toList).length c, S (Pl.buildOf s.data.toList), .string s]) (by simp [results, Tryz.results68, go_sem, d0, d1, d2, d3]) rfl ⟨A, c, rfl, ?_, ?_⟩
  · exact OwnBigs.fourT (OwnBigs.lower hob hbW.size) hR1 (by decide) (by decide) (by decide)
  · have hb := hbW.trans (hb1.mono hbW.size)
    exact (((hb.setCell (Nat.le_refl _) _).setCell (Nat.le_refl _) _).setCell (Nat.le_refl _) _).setCell (Nat.le_refl _) _
end Go.Proofs.YtgfkdjmoflbmdaaGreatDoor

namespace Go.Proofs.YtgfkdjmoflbmdaaGreatDoor
open Go.RowKit
open Go.Proofs

set_option maxRecDepth 100000 in
set_option maxHeartbeats 1000000 in
theorem NuGetStr_any (va : Bool) (A : Option Addr) (ca : Nat) (ns : List Nat) (da oa s : ByteArray) (pe pn pi : Addr) (w : World) (hA : Bigs w A ns) (hna : Small ns)
    (hda : da.size ≤ 30000) (hV : PkgVars w pe pn pi) (hka : Pl.buildKnown da.data.toList = true) (haa : Pl.ascii da.data.toList = true) (hs : Ready s) (hm : ((Pl.numsOf s.data.toList).length : Int) ≤ 4) :
    Calls Tryz.prog 69 #[VV va A ns.length ca da oa, .string s] w fun e w' => e = .returned (.tuple #[.int .i64 (Pl.nugetOrd ns (Pl.numsOf s.data.toList) da.data.toList (Pl.buildOf s.data.toList)), .nilIface]) ∧ Below w.heap.size w w' := by
  obtain ⟨W, hW⟩ : ∃ W, w.alloc (.cells #[.bool va, .slice A ns.length ca, .string da, .string oa] 77) = W := ⟨_, rfl⟩
  have hbW : Below w.heap.size w W := by rw [← hW]; exact (Below.refl _ _).alloc (Nat.le_refl _) _
  have hP : Blk W w.heap.size 77 #[.bool va, .slice A ns.length ca, .string da, .string oa] := by rw [← hW]; exact Blk.new _ _ _
  have hPd : Blk W.drew w.heap.size 77 #[.bool va, .slice A ns.length ca, .string da, .string oa] := hP
  have hbWd : Below w.heap.size w W.drew := hbW.drew
  have HPS := Lib.hid (ParseNuGet_any s pe pn pi W.drew hs.size (hV.below hbWd) hs.asc hm)
  have p0 := hP.cell 0
  have p1 := hP.cell 1
  have p2 := hP.cell 2
  have p3 := hP.cell 3
  simp at p0 p1 p2 p3
  have HC := Lib.hid (fun (w1 : World) (h : Below W.drew.heap.size W.drew w1) B c (hB : Bigs w1 B (Pl.numsOf s.data.toList)) => nugetCmp_any va (Pl.startsV s.data.toList) A B ca c ns (Pl.numsOf s.data.toList) da ⟨(Pl.buildOf s.data.toList).toArray⟩ oa s pe pn pi w1
    ((hA.below hbWd).below h) hB hna (nums_small hs.size) hda hs.build ((hV.below hbWd).below h) hka hs.known haa (ascii_build hs.asc))
  have HW := Lib.hid hW
  obtain ⟨R, hR⟩ : ∃ R, Pl.nugetOrd ns (Pl.numsOf s.data.toList) da.data.toList (Pl.buildOf s.data.toList) = R := ⟨_, rfl⟩
  rw [hR] at HC ⊢
  clear hW hA hna hka hs hm hR
  go_enter Tryz.func69, Tryz.ntmps69
  go_wp2_with fail
  rw [HW.out]
  go_region_with (first
    | (go_at_call 68; refine HPS.out.mono ?_; rintro e w1 ⟨B, c, rfl, hob, hb1⟩; have hP1 := hPd.below hb1 hPd.lt; have q0 := hP1.cell 0; have q1 := hP1.cell 1; have q2 := hP1.cell 2; have q3 := hP1.cell 3; simp at q0 q1 q2 q3)
    | (go_at_call 98; refine (HC.out w1 hb1 B c hob.bigs).mono ?_; rintro e w2 ⟨rfl, hb2⟩))
  all_goals go_wp2_with fail
  all_goals exact bodyPost_ret (v := .tuple #[.int .i64 R, .nilIface]) (by simp [results, Tryz.results69, go_sem]) rfl ⟨rfl, hbWd.trans ((hb1.mono hbWd.size).trans (hb2.mono (Nat.le_trans hbWd.size hb1.size)))⟩
set_option maxRecDepth 100000 in
theorem NuGetText_any (a b : ByteArray) (pe pn pi : Addr) (w : World) (hV : PkgVars w pe pn pi) (ha : Ready a) (hb : Ready b) (hma : ((Pl.numsOf a.data.toList).length : Int) ≤ 4) (hmb : ((Pl.numsOf b.data.toList).length : Int) ≤ 4) :
    Calls Tryz.prog 32 #[.string a, .string b] w fun e w' => e = .returned (.tuple #[.int .i64 (Pl.nugetOrd (Pl.numsOf a.data.toList) (Pl.numsOf b.data.toList) (Pl.buildOf a.data.toList) (Pl.buildOf b.data.toList)), .bool true]) ∧ Below w.heap.size w w' := by
  have HP := Lib.hid (ParseNuGet_any a pe pn pi w ha.size hV ha.asc hma)
  have HC := Lib.hid (fun (w1 : World) (h : Below w.heap.size w w1) A c (hA : Bigs w1 A (Pl.numsOf a.data.toList)) => NuGetStr_any (Pl.startsV a.data.toList) A c (Pl.numsOf a.data.toList) ⟨(Pl.buildOf a.data.toList).toArray⟩ a b pe pn pi w1 hA (nums_small ha.size) ha.build (hV.below h) ha.known (ascii_build ha.asc) hb hmb)
  obtain ⟨R, hR⟩ : ∃ R, Pl.nugetOrd (Pl.numsOf a.data.toList) (Pl.numsOf b.data.toList) (Pl.buildOf a.data.toList) (Pl.buildOf b.data.toList) = R := ⟨_, rfl⟩
  simp only at HC
  rw [hR] at HC ⊢
  clear hR ha hb hma hmb
  go_enter Tryz.func32, Tryz.ntmps32
  go_wp2_with fail
  refine HP.out.mono ?_; rintro e w1 ⟨A, c, rfl, hob, hb1⟩
  go_wp2_with fail
  refine (HC.out w1 hb1 A c hob.bigs).mono ?_; rintro e w2 ⟨rfl, hb2⟩
  go_wp2_with fail
  go_quiet (fail)
  go_wp2
  exact bodyPost_ret (v := .tuple #[.int .i64 R, .bool true]) (by simp [results, Tryz.results32, go_sem]) rfl ⟨rfl, below_drewN (hb1.trans (hb2.mono hb1.size)) _⟩
end Go.Proofs.YtgfkdjmoflbmdaaGreatDoor

namespace Go.Proofs.YtgfkdjmoflbmdaaGreatDoor
open Go.RowKit
open Go.Proofs

theorem tassert77 (v : Value) (w : World) : (Instr.typeAssert (.iface 77 v) 95 77 true).run Tryz.prog w = .ok (.tuple #[v, .bool true]) w := by kernel_rfl
set_option maxRecDepth 100000 in
theorem NuGetVerCompare_any (va vb : Bool) (A B : Option Addr) (ca cb : Nat) (ns ms : List Nat) (da db oa ob : ByteArray) (pe pn pi : Addr) (w : World) (hA : Bigs w A ns) (hB : Bigs w B ms) (hna : Small ns) (hnb : Small ms)
    (hda : da.size ≤ 30000) (hdb : db.size ≤ 30000) (hV : PkgVars w pe pn pi) (hka : Pl.buildKnown da.data.toList = true) (hkb : Pl.buildKnown db.data.toList = true) (haa : Pl.ascii da.data.toList = true) (hab : Pl.ascii db.data.toList = true) :
    Calls Tryz.prog 80 #[VV va A ns.length ca da oa, .iface 77 (VV vb B ms.length cb db ob)] w fun e w' => e = .returned (.tuple #[.int .i64 (Pl.nugetOrd ns ms da.data.toList db.data.toList), .nilIface]) ∧ Below w.heap.size w w' := by
  obtain ⟨W, hW⟩ : ∃ W, (w.alloc (.cells #[.bool va, .slice A ns.length ca, .string da, .string oa] 77)).alloc (.cells #[.bool vb, .slice B ms.length cb, .string db, .string ob] 77) = W := ⟨_, rfl⟩
  have hbW : Below w.heap.size w W := by rw [← hW]; exact ((Below.refl _ _).alloc (Nat.le_refl _) _).alloc (by simp) _
  have HC := Lib.hid (nugetCmp_any va vb A B ca cb ns ms da db oa ob pe pn pi W (hA.below hbW) (hB.below hbW) hna hnb hda hdb (hV.below hbW) hka hkb haa hab)
  have HW := Lib.hid hW
  obtain ⟨R, hR⟩ : ∃ R, Pl.nugetOrd ns ms da.data.toList db.data.toList = R := ⟨_, rfl⟩
  rw [hR] at HC ⊢
  clear hW hR hA hB hna hnb hka hkb hV
  go_enter Tryz.func80, Tryz.ntmps80
  go_wp2_with fail
  rw [tassert77]
  go_wp2_with fail
  rw [HW.out]
  refine HC.out.mono ?_; rintro e w1 ⟨rfl, hb1⟩
  go_wp2
  exact bodyPost_ret (v := .tuple #[.int .i64 R, .nilIface]) (by simp [results, Tryz.results80, go_sem]) rfl ⟨rfl, hbW.trans (hb1.mono hbW.size)⟩
set_option maxRecDepth 100000 in
theorem ZZNuGet_any (v : Bool) (A : Option Addr) (c : Nat) (ns : List Nat) (bd og : ByteArray) (w : World) (hB : Rd w 2 A ns.length (IntC ns)) (hl : ns.length ≤ 40000) (hw : ∀ n ∈ ns, (Pl.magOf n).length ≤ 30000) :
    Calls Tryz.prog 79 #[.agg #[.bool v, .slice A ns.length c, .string bd, .string og]] w (VersBack w v ns bd og) := by
  obtain ⟨W, hW⟩ : ∃ W, (w.alloc (.cells #[.bool v, .slice A ns.length c, .string bd, .string og] 62)).alloc (.cells #[.bool false, .slice none 0 0, .string ⟨#[]⟩, .string ⟨#[]⟩] 77) = W := ⟨_, rfl⟩
  have hbW : Below w.heap.size w W := by rw [← hW]; exact ((Below.refl _ _).alloc (Nat.le_refl _) _).alloc (by simp) _
  have hP : Blk W w.heap.size 62 #[.bool v, .slice A ns.length c, .string bd, .string og] := by rw [← hW]; exact (Blk.new _ _ _).alloc _
  have hRW : Blk W (w.heap.size + 1) 77 #[.bool false, .slice none 0 0, .string ⟨#[]⟩, .string ⟨#[]⟩] := by
    rw [← hW]
    have := Blk.new (w.alloc (.cells #[.bool v, .slice A ns.length c, .string bd, .string og] 62)) 77 #[.bool false, .slice none 0 0, .string ⟨#[]⟩, .string ⟨#[]⟩]
    rw [World.size_alloc] at this
    exact this
  have p0 := hP.cell 0
  have p1 := hP.cell 1
  have p2 := hP.cell 2
  have p3 := hP.cell 3
  simp at p0 p1 p2 p3
  have HC := Lib.hid (zzLike_any v A c ns bd og W (hB.below hbW) hl hw)
  have HW := Lib.hid hW
  clear hW hB hw
  go_enter Tryz.func79, Tryz.ntmps79
  go_wp2_with fail
  rw [HW.out]
  refine HC.out.mono ?_; rintro e w1 ⟨A1, c1, rfl, hob, hb1⟩
  have hR1 := hRW.below hb1 hRW.lt
  have d0 := hR1.cell 0
  have d1 := hR1.cell 1
  have d2 := hR1.cell 2
  have d3 := hR1.cell 3
  have e0 := hR1.frozen 0
  have e1 := hR1.frozen 1
  have e2 := hR1.frozen 2
  have e3 := hR1.frozen 3
  simp at d0 d1 d2 d3
  go_wp2
  refine bodyPost_ret (v := .agg #[.bool v, .slice A1 ns.length c1, .string bd, .string og]) (by simp [results, Tryz.results79, go_sem, d0, d1, d2, d3]) rfl ⟨A1, c1, rfl, ?_, ?_⟩
  · exact OwnBigs.fourT (OwnBigs.lower hob hbW.size) hR1 (by decide) (by decide) (by decide)
  · exact below_four (hbW.trans (hb1.mono hbW.size)) (by omega) _ _ _ _
set_option maxRecDepth 100000 in
set_option maxHeartbeats 2000000 in
theorem implNuGet_any (va vb : Bool) (A B : Option Addr) (ca cb : Nat) (ns ms : List Nat) (da db oa ob : ByteArray) (pe pn pi : Addr) (w : World) (hA : LikeIn w A ns da) (hB : LikeIn w B ms db) (haa : Pl.ascii da.data.toList = true) (hab : Pl.ascii db.data.toList = true) (hV : PkgVars w pe pn pi) :
    Calls Tryz.prog 40 #[VV va A ns.length ca da oa, VV vb B ms.length cb db ob] w fun e w' => e = .returned (.tuple #[.int .i64 (Pl.nugetOrd ns ms da.data.toList db.data.toList), .bool true]) ∧ Below w.heap.size w w' := by
  obtain ⟨W, hW⟩ : ∃ W, (w.alloc (.cells #[.bool va, .slice A ns.length ca, .string da, .string oa] 27)).alloc (.cells #[.bool vb, .slice B ms.length cb, .string db, .string ob] 27) = W := ⟨_, rfl⟩
  have hbW : Below w.heap.size w W := by rw [← hW]; exact ((Below.refl _ _).alloc (Nat.le_refl _) _).alloc (by simp) _
  have hP : Blk W w.heap.size 27 #[.bool va, .slice A ns.length ca, .string da, .string oa] := by rw [← hW]; exact (Blk.new _ _ _).alloc _
  have hQ : Blk W (w.heap.size + 1) 27 #[.bool vb, .slice B ms.length cb, .string db, .string ob] := by
    rw [← hW]
    have := Blk.new (w.alloc (.cells #[.bool va, .slice A ns.length ca, .string da, .string oa] 27)) 27 #[.bool vb, .slice B ms.length cb, .string db, .string ob]
    rw [World.size_alloc] at this
    exact this
  have p0 := hP.cell 0
  have p1 := hP.cell 1
  have p2 := hP.cell 2
  have p3 := hP.cell 3
  have q0 := hQ.cell 0
  have q1 := hQ.cell 1
  have q2 := hQ.cell 2
  have q3 := hQ.cell 3
  simp at p0 p1 p2 p3 q0 q1 q2 q3
  have hQd : Blk W.drew (w.heap.size + 1) 27 #[.bool vb, .slice B ms.length cb, .string db, .string ob] := hQ
  have hbWd : Below w.heap.size w W.drew := hbW.drew
  have hAd := hA.below hbWd
  have hBd := hB.below hbWd
  have hVd := hV.below hbWd
  have H1 := Lib.hid (implLike_any va A ca ns da oa W.drew hAd.rd hAd.small.1)
  have H2 := Lib.hid (fun (w1 : World) A1 c1 (h : Rd w1 2 A1 ns.length (IntC ns)) => ZZNuGet_any va A1 c1 ns da oa w1 h hAd.small.1 hAd.fits.2)
  have H3 := Lib.hid (fun (w2 : World) (h : Below W.drew.heap.size W.drew w2) => implLike_any vb B cb ms db ob w2 (hBd.rd.below h) hBd.small.1)
  have H4 := Lib.hid (fun (w3 : World) B1 c1 (h : Rd w3 2 B1 ms.length (IntC ms)) => ZZNuGet_any vb B1 c1 ms db ob w3 h hBd.small.1 hBd.fits.2)
  have H5 := Lib.hid (fun (w4 : World) (h : Below W.drew.heap.size W.drew w4) A2 c2 B2 d2 (ha : Bigs w4 A2 ns) (hb : Bigs w4 B2 ms) => NuGetVerCompare_any va vb A2 B2 c2 d2 ns ms da db oa ob pe pn pi w4 ha hb hAd.small hBd.small hAd.size hBd.size (hVd.below h) hAd.known hBd.known haa hab)
  have HW := Lib.hid hW
  obtain ⟨R, hR⟩ : ∃ R, Pl.nugetOrd ns ms da.data.toList db.data.toList = R := ⟨_, rfl⟩
  rw [hR] at H5 ⊢
  clear hW hA hB hV hR hAd hBd hVd
  go_enter Tryz.func40, Tryz.ntmps40
  go_wp2_with fail
  rw [HW.out]
  go_region_with (first
    | (go_at_call_of 53 (Value.agg #[Value.bool va, Value.slice A ns.length ca, Value.string da, Value.string oa]); refine H1.out.mono ?_; rintro e w1 ⟨A1, c1, rfl, hown1, hb1⟩; have hQ1 := hQd.below hb1 hQd.lt; have q10 := hQ1.cell 0; have q11 := hQ1.cell 1; have q12 := hQ1.cell 2; have q13 := hQ1.cell 3; simp at q10 q11 q12 q13)
    | (go_at_call_of 79 (Value.agg #[Value.bool va, Value.slice A1 ns.length c1, Value.string da, Value.string oa]); refine (H2.out w1 A1 c1 (Rd.of_own hown1)).mono ?_; rintro e w2 ⟨A2, c2, rfl, hob2, hb2⟩; have hQ2 := hQ1.below hb2 hQ1.lt; have q20 := hQ2.cell 0; have q21 := hQ2.cell 1; have q22 := hQ2.cell 2; have q23 := hQ2.cell 3; simp at q20 q21 q22 q23; have hbb2 := hb1.trans (hb2.mono hb1.size))
    | (go_at_call_of 53 (Value.agg #[Value.bool vb, Value.slice B ms.length cb, Value.string db, Value.string ob]); refine (H3.out w2 hbb2).mono ?_; rintro e w3 ⟨B1, d1, rfl, hown3, hb3⟩; have hbb3 := hbb2.trans (hb3.mono hbb2.size))
    | (go_at_call_of 79 (Value.agg #[Value.bool vb, Value.slice B1 ms.length d1, Value.string db, Value.string ob]); refine (H4.out w3 B1 d1 (Rd.of_own hown3)).mono ?_; rintro e w4 ⟨B2, d2, rfl, hob4, hb4⟩; have hbb4 := hbb3.trans (hb4.mono hbb3.size); have hob24 := (hob2.below hb3).below hb4)
    | (go_at_call 80; refine (H5.out w4 hbb4 A2 c2 B2 d2 hob24.bigs hob4.bigs).mono ?_; rintro e w5 ⟨rfl, hb5⟩))
  all_goals go_wp2_with fail
  all_goals go_quiet (fail)
  all_goals go_wp2
  all_goals exact bodyPost_ret (v := .tuple #[.int .i64 R, .bool true]) (by simp [results, Tryz.results40, go_sem]) rfl ⟨rfl, below_drewN (hbWd.trans ((hbb4.trans (hb5.mono hbb4.size)).mono hbWd.size)) _⟩
end Go.Proofs.YtgfkdjmoflbmdaaGreatDoor

namespace Go.Proofs.YtgfkdjmoflbmdaaGreatDoor
open Go.RowKit
open Go.Proofs

set_option maxRecDepth 100000 in
set_option maxHeartbeats 4000000 in
theorem nugetTexts_walk (a b : ByteArray) (pe pn pi : Addr) (w : World) (ha : a.size ≤ maxLen) (hb : b.size ≤ maxLen) (hV : PkgVars w pe pn pi) (hT : VTabs w) :
    Calls Tryz.prog 13 #[.string a, .string b] w fun e w' => e = .returned (.bool true) ∧ Below w.heap.size w w' := by
  unfold maxLen at ha hb
  by_cases h1 : a.size ≤ 2147483647
  · by_cases h2 : b.size ≤ 2147483647
    · have h1z : ¬ (2147483647 : Int) < (a.size : Int) := by omega
      have h2z : ¬ (2147483647 : Int) < (b.size : Int) := by omega
      go_enter Tryz.func13, Tryz.ntmps13
      go_wp2_with fail
      refine (few_any a 4 w h1 hT).mono ?_; rintro e w1 ⟨⟨fa, rfl, hfa⟩, hb1⟩
      cases fa with
      | false =>
        go_wp2
        go_ret
        exact ⟨rfl, hb1⟩
      | true =>
        have HFA := Lib.hid (hfa rfl)
        clear hfa
        go_wp2_with fail
        refine (few_any b 4 w1 h2 (hT.below hb1)).mono ?_; rintro e w2 ⟨⟨fb, rfl, hfb⟩, hb2⟩
        have hbb2 := hb1.trans (hb2.mono hb1.size)
        cases fb with
        | false =>
          go_wp2
          go_ret
          exact ⟨rfl, hbb2⟩
        | true =>
          have HFB := Lib.hid (hfb rfl)
          clear hfb
          have hsa := HFA.out.1
          have hsb := HFB.out.1
          go_wp2_with fail
          refine (LikeParse_any a w2 (by omega)).mono ?_; rintro e w3 ⟨A1, c1, rfl, hown1, hb3⟩
          have hbb3 := hbb2.trans (hb3.mono hbb2.size)
          go_wp2_with fail
          refine (LikeParse_any b w3 (by omega)).mono ?_; rintro e w4 ⟨A2, c2, rfl, hown2, hb4⟩
          have hbb4 := hbb3.trans (hb4.mono hbb3.size)
          obtain ⟨X, hX⟩ : ∃ X, w4.alloc (.cells #[.bool (Pl.startsV a.data.toList), .slice A1 (Pl.numsOf a.data.toList).length c1, S (Pl.buildOf a.data.toList), .string a, .bool (Pl.startsV b.data.toList), .slice A2 (Pl.numsOf b.data.toList).length c2, S (Pl.buildOf b.data.toList), .string b] 27) = X := ⟨_, rfl⟩
          have hL := Lib.hid (two_likes a b A1 A2 c1 c2 hsa hsb hown1 hb4 hown2 hX)
          have hbX : Below w4.heap.size w4 X := by rw [← hX]; exact (Below.refl _ _).alloc (Nat.le_refl _) _
          have hbbX := hbb4.trans (hbX.mono hbb4.size)
          have HX := Lib.hid hX
          obtain ⟨tt, htt⟩ : ∃ tt, ((lkOf a A1 c1).test && (lkOf b A2 c2).test) = tt := ⟨_, rfl⟩
          rw [htt] at hL
          have HTT := Lib.hid htt
          clear hX htt
          go_wp2_with fail
          rw [HX.out]
          refine hL.out.mono ?_; rintro e w5 ⟨rfl, hb5⟩
          have hbb5 := hbbX.trans (hb5.mono hbbX.size)
          cases tt with
          | false =>
            go_wp2
            go_ret
            exact ⟨rfl, hbb5⟩
          | true =>
            have hra : Ready a := lkOf_ready (Bool.and_eq_true_iff.1 HTT.out).1 HFA.out
            have hrb : Ready b := lkOf_ready (Bool.and_eq_true_iff.1 HTT.out).2 HFB.out
            have HRA := Lib.hid hra
            have HRB := Lib.hid hrb
            obtain ⟨R, hR⟩ : ∃ R, Pl.nugetOrd (Pl.numsOf a.data.toList) (Pl.numsOf b.data.toList) (Pl.buildOf a.data.toList) (Pl.buildOf b.data.toList) = R := ⟨_, rfl⟩
            have hC := Lib.hid (fun (w' : World) A c B d (h1 : Rd w' 2 A (Pl.numsOf a.data.toList).length (IntC (Pl.numsOf a.data.toList))) (h2 : Rd w' 2 B (Pl.numsOf b.data.toList).length (IntC (Pl.numsOf b.data.toList))) =>
              NuGetCompare_any (Pl.startsV a.data.toList) (Pl.startsV b.data.toList) A B c d (Pl.numsOf a.data.toList) (Pl.numsOf b.data.toList) ⟨(Pl.buildOf a.data.toList).toArray⟩ ⟨(Pl.buildOf b.data.toList).toArray⟩ a b w' h1 h2 (nums_fits (by omega)) (nums_fits (by omega)) hra.build hrb.build)
            have hT2 := Lib.hid (fun (w' : World) (h : Below w.heap.size w w') => NuGetText_any a b pe pn pi w' (hV.below h) hra hrb HFA.out.2.2 HFB.out.2.2)
            have hI := Lib.hid (fun (w' : World) (h : Below w.heap.size w w') A c B d (h1 : LikeIn w' A (Pl.numsOf a.data.toList) ⟨(Pl.buildOf a.data.toList).toArray⟩) (h2 : LikeIn w' B (Pl.numsOf b.data.toList) ⟨(Pl.buildOf b.data.toList).toArray⟩) =>
              implNuGet_any (Pl.startsV a.data.toList) (Pl.startsV b.data.toList) A B c d (Pl.numsOf a.data.toList) (Pl.numsOf b.data.toList) ⟨(Pl.buildOf a.data.toList).toArray⟩ ⟨(Pl.buildOf b.data.toList).toArray⟩ a b pe pn pi w' h1 h2 (ascii_build hra.asc) (ascii_build hrb.asc) (hV.below h))
            simp only at hC hI
            rw [hR] at hC hT2 hI
            clear hR hra hrb
            go_wp2_with fail
            refine (LikeParse_any a w5 (by omega)).mono ?_; rintro e w6 ⟨A3, c3, rfl, hown3, hb6⟩
            have hbb6 := hbb5.trans (hb6.mono hbb5.size)
            go_wp2_with fail
            refine (LikeParse_any b w6 (by omega)).mono ?_; rintro e w7 ⟨A4, c4, rfl, hown4, hb7⟩
            have hbb7 := hbb6.trans (hb7.mono hbb6.size)
            go_wp2_with fail
            refine (hC.out w7 A3 c3 A4 c4 ((Rd.of_own hown3).below hb7) (Rd.of_own hown4)).mono ?_; rintro e w8 ⟨rfl, hb8⟩
            have hbb8 := hbb7.trans (hb8.mono hbb7.size)
            go_wp2_with fail
            refine (hT2.out w8 hbb8).mono ?_; rintro e w9 ⟨rfl, hb9⟩
            have hbb9 := hbb8.trans (hb9.mono hbb8.size)
            go_wp2_with fail
            refine (implLikeParse_any a pe pn pi w9 HRA.out.size (hV.below hbb9) HRA.out.asc).mono ?_; rintro e wA ⟨A5, c5, rfl, hown5, hbA⟩
            have hbbA := hbb9.trans (hbA.mono hbb9.size)
            go_wp2_with fail
            refine (implLikeParse_any b pe pn pi wA HRB.out.size (hV.below hbbA) HRB.out.asc).mono ?_; rintro e wB ⟨A6, c6, rfl, hown6, hbB⟩
            have hbbB := hbbA.trans (hbB.mono hbbA.size)
            go_wp2_with fail
            refine (hI.out wB hbbB A5 c5 A6 c6 ((likeIn_of hown5 HRA.out hsa).below hbB) (likeIn_of hown6 HRB.out hsb)).mono ?_; rintro e wC ⟨rfl, hbC⟩
            have hbbC := hbbB.trans (hbC.mono hbbB.size)
            go_wp2
            go_ret
            exact ⟨ret_bool (by simp), hbbC⟩
    · have h1z : ¬ (2147483647 : Int) < (a.size : Int) := by omega
      have h2z : (2147483647 : Int) < (b.size : Int) := by omega
      go_enter Tryz.func13, Tryz.ntmps13
      go_wp2
      go_ret
      exact ⟨rfl, Below.refl _ _⟩
  · have h1z : (2147483647 : Int) < (a.size : Int) := by omega
    go_enter Tryz.func13, Tryz.ntmps13
    go_wp2
    go_ret
    exact ⟨rfl, Below.refl _ _⟩
end Go.Proofs.YtgfkdjmoflbmdaaGreatDoor
