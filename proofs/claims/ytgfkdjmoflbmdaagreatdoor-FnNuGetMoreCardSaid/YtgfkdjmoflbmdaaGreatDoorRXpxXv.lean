/- Contracts; Contracts; Contracts; Contracts; Contracts; Contract. -/
import Derived.Test.YtgfkdjmoflbmdaaGreatDoorRQgxYp0
namespace Go.Proofs.YtgfkdjmoflbmdaaGreatDoor
open Go.RowKit
open Go.Proofs
set_option maxRecDepth 100000 in
set_option maxHeartbeats 1000000 in
theorem bigs_any (A : Option Addr) (c : Nat) (ns : List Nat) (w : World) (hr : Rd w 2 A ns.length (IntC ns)) (hl : ns.length ≤ 40000) :
    Calls Tryz.prog 88 #[.slice A ns.length c] w (PlainsBack 118 w ns) := by
  obtain ⟨i0, hi, hz0, hz1, hz2⟩ := info_parts info118
  go_enter Tryz.func88, Tryz.ntmps88
  go_wp2
  go_loopw [3, 8] (fun v iv wr => ∃ k : Nat, k ≤ ns.length ∧ iv = .int .i64 (k : Int) ∧ wr.ownsRow w.heap.size 118 2 v k (IntC (ns.take k)) ∧ Below w.heap.size w wr) (fun _ iv _ => ns.length - (intOf iv).toNat)
  case atStart => exact ⟨0, Nat.zero_le _, rfl, World.ownsRow_nil _ _ _ _, Below.refl _ _⟩
  case round =>
    obtain ⟨k, hk, rfl, hown, hbel⟩ := hrel
    by_cases hlt : k < ns.length
    · obtain ⟨b, o, rfl, hc0, hc1⟩ := (hr.below hbel).int_at hlt
      obtain ⟨l1, l2, l3, l4⟩ := cell_lts hc0
      have hsn := IntC_snoc ns k hlt
      obtain ⟨x, hx⟩ : ∃ x, Pl.magOf ns[k] = x := ⟨_, rfl⟩
      rw [hx] at hc1 hsn
      have HSN := Lib.hid hsn
      clear hx hsn
      have hown1 := hown.alloc (.cells #[.bool false, S x] 46)
      have hbel1 := hbel.alloc hbel.size (.cells #[.bool false, S x] 46)
      have hs1 : w.heap.size ≤ (wr.alloc (.cells #[.bool false, S x] 46)).heap.size := hbel1.size
      go_wp2_with (at_builtin; refine wpList_app2 _ rfl (.tmp 12) (.tmp 14) 60 rfl w.heap.size 118 i0 _ 24 Tryz.underlying60 hi hz0 hz1 hz2 rfl _ _ _ rfl hown1 _ _ (show Value.slice (some ⟨wr.heap.size + 1, 0, none⟩) 1 1 = _ by rw [World.size_alloc]) rfl rfl (by omega) (by omega) hs1 ?_; intro g cap w2 hown2 hg2 hat2 hb2; clear hg2 hat2)
      go_roundw
      case rel => exact ⟨k + 1, by omega, by go_num, own_cast hown2 rfl HSN.out, hbel1.trans hb2⟩
      case measure => simp [intOf]; omega
    · obtain rfl : k = ns.length := by omega
      rw [List.take_length] at hown
      obtain ⟨A', c', rfl⟩ := own_form hown
      go_wp2
      go_ret
      exact ⟨A', c', rfl, hown, hbel⟩
theorem conv_bytes (s : ByteArray) (w : World) (hs : s.size ≤ 1000000) : ∃ cap w', (convert 9 91 (.string s)).run Tryz.prog w = .ok (.slice (some ⟨w.heap.size, 0, none⟩) s.size cap) w' ∧ ByAt w' w.heap.size 0 (s.data.toList.map UInt8.toNat) ∧ s.size ≤ cap ∧ cap ≤ maxLen ∧
    w'.heap.size = w.heap.size + 1 ∧ Below w.heap.size w w' := by
  refine ⟨_, _, Lib.run_convert_string_bytes (P := Tryz.prog) w 9 91 5 s Tryz.underlying9 Tryz.underlying91 Tryz.underlying5, ?_, grownCap_ge _ _ _ _, grownCap_le_maxLen _ _ _ _ (by unfold maxLen; omega), Lib.bytesWorld_size _ _ _, ?_⟩
  · intro j hj
    rw [List.length_map, len_list] at hj
    rw [Nat.zero_add, Lib.bytesWorld_cell w 5 s j hj]
    congr 3
    rw [List.getElem_map, List.getD_eq_getElem?_getD, List.getElem?_eq_getElem (by rw [len_list]; exact hj)]
    rfl
  · exact ⟨rfl, rfl, rfl, by rw [Lib.bytesWorld_size]; omega, fun k hk => Lib.bytesWorld_at_old w 5 s k hk⟩
def IntBack (Z B : Nat) (w : World) (N : Nat) (e : Ending) (w' : World) : Prop := e = .returned (.pointer (some ⟨Z, 0, none⟩)) ∧ IntAt w' Z B false N ∧ Below Z w w'
theorem SetBytes_any (Z b o n c : Nat) (L : List Nat) (w : World) (hn : L.length = n) (hl : n ≤ 100000) (hc : n ≤ c) (hlt : ∀ d ∈ L, d < 256) (hB : ByAt w b o L.reverse) (hZ : Blk w Z 128 #[.bool false, .slice none 0 0]) :
    Calls Tryz.prog 140 #[.pointer (some ⟨Z, 0, none⟩), .slice (some ⟨b, o, none⟩) n c] w (IntBack Z w.heap.size w (Pl.val 256 L)) := by
  have hS : Calls Tryz.prog 157 #[.slice none 0 0, .slice (some ⟨b, o, none⟩) n c] w (SetBytesBack w (Pl.val 256 L)) := by
    by_cases h0 : n = 0
    · subst h0
      have hL : L = [] := List.eq_nil_of_length_eq_zero hn
      rw [hL]
      exact setBytes_nil c _ w
    · subst hn
      exact setBytes_any b o c L w (by omega) hl hc hlt hB
  have HS := Lib.hid hS
  have z0 := hZ.cell 0
  have z1 := hZ.cell 1
  simp at z0 z1
  clear hS hn hB hlt
  obtain ⟨N, hN⟩ : ∃ N, Pl.val 256 L = N := ⟨_, rfl⟩
  rw [hN] at HS ⊢
  clear hN
  go_enter Tryz.func140, Tryz.ntmps140
  go_wp2_with fail
  refine HS.out.mono ?_; rintro e w1 ⟨v, rfl, hNat, hb1⟩
  have hZ1 := hZ.below hb1 hZ.lt
  have c0 := hZ1.cell 0
  have c1 := hZ1.cell 1
  have f0 := hZ1.frozen 0
  have f1 := hZ1.frozen 1
  simp at c0 c1
  obtain ⟨A, cp, rfl⟩ := own_form hNat
  go_wp2
  go_ret
  have hlZ := hZ.lt
  have hZ2 := (hZ1.set_ 1 (.slice A (Pl.digs M N).length cp)).set_ 0 (.bool false)
  refine ⟨rfl, ⟨_, hZ2, own_far (own_far hNat ?_ _) ?_ _⟩, ((hb1.mono (Nat.le_of_lt hlZ)).setCell (Nat.le_refl _) _).setCell (Nat.le_refl _) _⟩
  · intro e; have := (World.ownsRow.lt hNat _ e).1; simp only at this; omega
  · intro e; have := (World.ownsRow.lt hNat _ e).1; simp only at this; omega
theorem mag_bytes (N : Nat) : ((Pl.magOf N).map UInt8.toNat).reverse = Pl.digs 256 N := by
  rw [Pl.magOf, List.map_map, ← List.map_reverse, List.reverse_reverse]
  have : ∀ d ∈ Pl.digs 256 N, (UInt8.toNat ∘ UInt8.ofNat) d = d := fun d hd => by
    have := Pl.digs_lt 256 N (by omega) d hd
    simp; omega
  rw [List.map_congr_left this, List.map_id']
def BigNew (w : World) (N : Nat) (e : Ending) (w' : World) : Prop := ∃ Z B, e = .returned (.pointer (some ⟨Z, 0, none⟩)) ∧ IntAt w' Z B false N ∧ Below w.heap.size w w'
set_option maxRecDepth 100000 in
theorem zzBig_any (N : Nat) (w : World) (hl : (Pl.magOf N).length ≤ 30000) :
    Calls Tryz.prog 120 #[.agg #[.bool false, S (Pl.magOf N)]] w (BigNew w N) := by
  obtain ⟨W, hW⟩ : ∃ W, (w.alloc (.cells #[.bool false, S (Pl.magOf N)] 118)).alloc (.cells #[.bool false, .slice none 0 0] 128) = W := ⟨_, rfl⟩
  have hbW : Below w.heap.size w W := by rw [← hW]; exact ((Below.refl _ _).alloc (Nat.le_refl _) _).alloc (by simp) _
  have hP : Blk W w.heap.size 118 #[.bool false, S (Pl.magOf N)] := by rw [← hW]; exact (Blk.new _ _ _).alloc _
  have hZ : Blk W (w.heap.size + 1) 128 #[.bool false, .slice none 0 0] := by
    rw [← hW]
    have := Blk.new (w.alloc (.cells #[.bool false, S (Pl.magOf N)] 118)) 128 #[.bool false, .slice none 0 0]
    rw [World.size_alloc] at this
    exact this
  obtain ⟨cap, W2, hcv, hby, hc1, hc2, hsz, hb2⟩ := conv_bytes ⟨(Pl.magOf N).toArray⟩ W (by rw [S_size]; omega)
  have hZ2 := hZ.below hb2 hZ.lt
  have hP2 := hP.below hb2 hP.lt
  have hby2 : ByAt W2 W.heap.size 0 (Pl.digs 256 N).reverse := by
    rw [← mag_bytes, List.reverse_reverse]; exact hby
  rw [S_size] at hcv hc1
  have hml : (Pl.digs 256 N).length = (Pl.magOf N).length := (Pl.magOf_length N).symm
  have HS := Lib.hid (SetBytes_any (w.heap.size + 1) W.heap.size 0 (Pl.magOf N).length cap (Pl.digs 256 N) W2 hml (by omega) hc1 (Pl.digs_lt 256 N (by omega)) hby2 hZ2)
  rw [Pl.val_digs 256 N (by omega)] at HS
  have p0 := hP.cell 0
  have p1 := hP.cell 1
  simp at p0 p1
  have HW := Lib.hid hW
  have hbel2 := hbW.trans (hb2.mono hbW.size)
  have HCV := Lib.hid hcv
  clear hW hml hcv
  go_enter Tryz.func120, Tryz.ntmps120
  go_wp2_with fail
  rw [HW.out, HCV.out]
  go_wp2_with fail
  refine HS.out.mono ?_; rintro e w3 ⟨rfl, hI, hb3⟩
  have hP3 := hP2.below hb3 (by omega)
  have q0 := hP3.cell 0
  simp at q0
  go_wp2
  go_ret
  exact ⟨_, _, rfl, hI, hbel2.trans (hb3.mono (by omega))⟩
def BigsBack (w : World) (ns : List Nat) (e : Ending) (w' : World) : Prop := ∃ A c, e = .returned (.slice A ns.length c) ∧ OwnBigs w' w.heap.size (.slice A ns.length c) ns ∧ Below w.heap.size w w'
set_option maxRecDepth 100000 in
set_option maxHeartbeats 1000000 in
theorem zzBigs_any (A : Option Addr) (c : Nat) (ns : List Nat) (w : World) (hr : Rd w 2 A ns.length (IntC ns)) (hl : ns.length ≤ 40000) (hw : ∀ n ∈ ns, (Pl.magOf n).length ≤ 30000) :
    Calls Tryz.prog 106 #[.slice A ns.length c] w (BigsBack w ns) := by
  obtain ⟨i0, hi, hz0, hz1, hz2⟩ := info_parts info123
  have HWN := Lib.hid hw
  clear hw
  go_enter Tryz.func106, Tryz.ntmps106
  go_wp2
  go_loopw [3, 8] (fun v iv wr => ∃ k : Nat, k ≤ ns.length ∧ iv = .int .i64 (k : Int) ∧ OwnBigs wr w.heap.size v (ns.take k) ∧ Below w.heap.size w wr) (fun _ iv _ => ns.length - (intOf iv).toNat)
  case atStart => exact ⟨0, Nat.zero_le _, rfl, ⟨[], rfl, World.ownsRow_nil _ _ _ _, fun k h => absurd h (by simp)⟩, Below.refl _ _⟩
  case round =>
    obtain ⟨k, hk, rfl, hob, hbel⟩ := hrel
    by_cases hlt : k < ns.length
    · obtain ⟨b, o, rfl, hc0, hc1⟩ := (hr.below hbel).int_at hlt
      obtain ⟨l1, l2, l3, l4⟩ := cell_lts hc0
      have hwk := HWN.out _ (List.getElem_mem hlt)
      have htk : ns.take (k + 1) = ns.take k ++ [ns[k]] := List.take_succ_eq_append_getElem hlt
      have hkl : (ns.take k).length = k := by rw [List.length_take]; omega
      obtain ⟨N, hN⟩ : ∃ N, ns[k] = N := ⟨_, rfl⟩
      rw [hN] at hc1 hwk htk
      have HTK := Lib.hid htk
      have HKL := Lib.hid hkl
      clear hN htk hkl
      have HZB := Lib.hid (zzBig_any N (wr.alloc (.cells #[.bool false, S (Pl.magOf N)] 118)) hwk)
      have hob1 := hob.below (w' := wr.alloc (.cells #[.bool false, S (Pl.magOf N)] 118)) ((Below.refl _ _).alloc (Nat.le_refl _) _)
      have hbel1 := hbel.alloc hbel.size (.cells #[.bool false, S (Pl.magOf N)] 118)
      go_wp2_with fail
      refine HZB.out.mono ?_; rintro e w1 ⟨Z, B, rfl, hI, hb1⟩
      obtain ⟨Zs, z1, z2, z3⟩ := hob1.below hb1
      have hbel2 := hbel1.trans (hb1.mono hbel1.size)
      rw [HKL.out] at z2
      go_wp2_with (at_builtin; refine wpList_app1 _ rfl (.tmp 12) (.tmp 15) 53 rfl w.heap.size 123 i0 _ 8 Tryz.underlying53 hi hz0 hz1 hz2 rfl _ _ _ rfl z2 (PtrV Z) rfl rfl (by omega) (by omega) hbel2.size ?_; intro g cap w2 hown2 hg2 hat2 hb2)
      go_roundw
      case rel =>
        refine ⟨k + 1, by omega, by go_num, ?_, hbel2.trans hb2⟩
        have := OwnBigs.append z1 (by rw [HKL.out]; exact z2) z3 hI (by rw [HKL.out]; exact hown2) hg2
        rw [HKL.out] at this
        rw [HTK.out]; exact this
      case measure => simp [intOf]; omega
    · obtain rfl : k = ns.length := by omega
      rw [List.take_length] at hob
      obtain ⟨Zs, z1, z2, z3⟩ := hob
      obtain ⟨A', c', rfl⟩ := own_form z2
      go_wp2
      go_ret
      exact ⟨A', c', rfl, ⟨Zs, z1, z2, z3⟩, hbel⟩
def VersBack (w : World) (v : Bool) (ns : List Nat) (bd og : ByteArray) (e : Ending) (w' : World) : Prop :=
  ∃ A c, e = .returned (.agg #[.bool v, .slice A ns.length c, .string bd, .string og]) ∧ OwnBigs w' w.heap.size (.slice A ns.length c) ns ∧ Below w.heap.size w w'
theorem bigs_end {w w1 : World} {g B : Nat} {cs : Array Value} {sl : Value} {ns : List Nat} (hown : OwnBigs w1 B sl ns) (hR : Blk w1 g 56 cs) (hB : w.heap.size ≤ B) (hg : w.heap.size ≤ g) (hb : Below w.heap.size w w1) (a b c d : Value) :
    OwnBigs ((((w1.setCell ⟨g, 0, none⟩ a).setCell ⟨g, 1, none⟩ b).setCell ⟨g, 2, none⟩ c).setCell ⟨g, 3, none⟩ d) w.heap.size sl ns ∧ Below w.heap.size w ((((w1.setCell ⟨g, 0, none⟩ a).setCell ⟨g, 1, none⟩ b).setCell ⟨g, 2, none⟩ c).setCell ⟨g, 3, none⟩ d) :=
  ⟨OwnBigs.lower (OwnBigs.four hown hR) hB, (((hb.setCell hg _).setCell hg _).setCell hg _).setCell hg _⟩
theorem OwnBigs.bigs {w : World} {base c : Nat} {A : Option Addr} {ns : List Nat} (h : OwnBigs w base (.slice A ns.length c) ns) : Bigs w A ns := by
  obtain ⟨Zs, h1, h2, h3⟩ := h
  exact ⟨Zs, h1, Rd.of_own h2, h3⟩
abbrev VV (v : Bool) (A : Option Addr) (n c : Nat) (bd og : ByteArray) : Value := .agg #[.bool v, .slice A n c, .string bd, .string og]
def Small (ns : List Nat) : Prop := ns.length ≤ 40000 ∧ ∀ n ∈ ns, (Pl.digs M n).length ≤ 100000
set_option maxRecDepth 100000 in
set_option maxHeartbeats 1000000 in
theorem compare_any (va vb : Bool) (A B : Option Addr) (ca cb : Nat) (ns ms : List Nat) (da db oa ob : ByteArray) (pe pn pi : Addr) (w : World) (hA : Bigs w A ns) (hB : Bigs w B ms) (hna : Small ns) (hnb : Small ms)
    (hda : da.size ≤ 30000) (hdb : db.size ≤ 30000) (hV : PkgVars w pe pn pi) (hka : Pl.buildKnown da.data.toList = true) (hkb : Pl.buildKnown db.data.toList = true) :
    Calls Tryz.prog 89 #[VV va A ns.length ca da oa, VV vb B ms.length cb db ob] w fun e w' => e = .returned (.int .i64 (Pl.likeOrd ns ms da.data.toList db.data.toList)) ∧ Below w.heap.size w w' := by
  obtain ⟨W, hW⟩ : ∃ W, (w.alloc (.cells #[.bool va, .slice A ns.length ca, .string da, .string oa] 58)).alloc (.cells #[.bool vb, .slice B ms.length cb, .string db, .string ob] 58) = W := ⟨_, rfl⟩
  have hbW : Below w.heap.size w W := by rw [← hW]; exact ((Below.refl _ _).alloc (Nat.le_refl _) _).alloc (by simp) _
  have hP : Blk W w.heap.size 58 #[.bool va, .slice A ns.length ca, .string da, .string oa] := by rw [← hW]; exact (Blk.new _ _ _).alloc _
  have hQ : Blk W (w.heap.size + 1) 58 #[.bool vb, .slice B ms.length cb, .string db, .string ob] := by
    rw [← hW]
    have := Blk.new (w.alloc (.cells #[.bool va, .slice A ns.length ca, .string da, .string oa] 58)) 58 #[.bool vb, .slice B ms.length cb, .string db, .string ob]
    rw [World.size_alloc] at this
    exact this
  have p1 := hP.cell 1
  have q1 := hQ.cell 1
  simp at p1 q1
  have HC := Lib.hid (compsCmp_any w.heap.size 1 A B ca cb ns ms W p1 (hA.below hbW) (hB.below hbW) hna.1 hnb.1 (fun n h => by have := hna.2 n h; omega) (fun n h => by have := hnb.2 n h; omega))
  have HW := Lib.hid hW
  obtain ⟨z, hz⟩ : ∃ z, Pl.cmpNums ns ms = z := ⟨_, rfl⟩
  rw [hz] at HC
  have hres : Pl.likeOrd ns ms da.data.toList db.data.toList = if z ≠ 0 then z else Pl.builds da.data.toList db.data.toList := by rw [Pl.likeOrd, hz]
  have HR := Lib.hid hres
  clear hW hz hres hA hB hna hnb
  by_cases hz0 : z = 0
  · have hz1 : (z != 0) = false := by simp [hz0]
    rw [if_neg (by simp [hz0])] at HR
    clear hz0
    go_enter Tryz.func89, Tryz.ntmps89
    go_wp2_with fail
    rw [HW.out]
    refine HC.out.mono ?_; rintro e w1 ⟨rfl, hb1⟩
    have hP1 := hP.below hb1 hP.lt
    have hQ1 := hQ.below hb1 hQ.lt
    have p2 := hP1.cell 2
    have q2 := hQ1.cell 2
    simp at p2 q2
    go_wp2_with fail
    refine (implBuilds_any da db pe pn pi w1 hda hdb ((hV.below hbW).below hb1) hka hkb).mono ?_; rintro e w2 ⟨rfl, hb2⟩
    go_wp2
    go_ret
    exact ⟨ret_int HR.out.symm, hbW.trans ((hb1.mono hbW.size).trans (hb2.mono (Nat.le_trans hbW.size hb1.size)))⟩
  · have hz1 : (z != 0) = true := by simpa using hz0
    rw [if_pos hz0] at HR
    clear hz0
    go_enter Tryz.func89, Tryz.ntmps89
    go_wp2_with fail
    rw [HW.out]
    refine HC.out.mono ?_; rintro e w1 ⟨rfl, hb1⟩
    go_wp2
    go_ret
    exact ⟨ret_int HR.out.symm, hbW.trans (hb1.mono hbW.size)⟩
theorem OwnBigs.far58 {w : World} {base g i : Nat} {t : TypeId} {cs : Array Value} {v u : Value} {ns : List Nat} (h : OwnBigs w base v ns) (hb : Blk w g t cs) (h1 : (123 : TypeId) ≠ t) (h2 : t ≠ 128) (h3 : (179 : TypeId) ≠ t) : OwnBigs (w.setCell ⟨g, i, none⟩ u) base v ns := by
  obtain ⟨Zs, z1, z2, z3⟩ := h
  refine ⟨Zs, z1, own_far z2 (own_blk_ne z2 hb h1) _, fun k hk hk' => ?_⟩
  obtain ⟨B, x, hx, hn⟩ := z3 k hk hk'
  exact ⟨B, x, hx.far (Blk.ne_ hx hb (Ne.symm h2)) _, own_far hn (own_blk_ne hn hb h3) _⟩
theorem OwnBigs.fourT {w : World} {base g : Nat} {t : TypeId} {cs : Array Value} {v a b c d : Value} {ns : List Nat} (h : OwnBigs w base v ns) (hb : Blk w g t cs) (h1 : (123 : TypeId) ≠ t) (h2 : t ≠ 128) (h3 : (179 : TypeId) ≠ t) :
    OwnBigs ((((w.setCell ⟨g, 0, none⟩ a).setCell ⟨g, 1, none⟩ b).setCell ⟨g, 2, none⟩ c).setCell ⟨g, 3, none⟩ d) base v ns :=
  (((h.far58 hb h1 h2 h3).far58 (hb.set_ _ _) h1 h2 h3).far58 ((hb.set_ _ _).set_ _ _) h1 h2 h3).far58 (((hb.set_ _ _).set_ _ _).set_ _ _) h1 h2 h3
theorem OwnBigs.drewN {w : World} {base : Nat} {v : Value} {ns : List Nat} (h : OwnBigs w base v ns) (q : Nat) : OwnBigs (w.drewN q) base v ns := h
set_option maxRecDepth 100000 in
set_option maxHeartbeats 4000000 in
theorem told_any (v : Bool) (A : Option Addr) (c : Nat) (ns : List Nat) (bd og : ByteArray) (w : World) (hB : Bigs w A ns) (hl : ns.length ≤ 40000) (hw : ∀ n ∈ ns, (Pl.digs M n).length ≤ 100000) :
    Calls Tryz.prog 91 #[.agg #[.bool v, .slice A ns.length c, .string bd, .string og]] w (PartsBack 118 w v ns bd og) := by
  obtain ⟨W, hW⟩ : ∃ W, (w.alloc (.cells #[.bool v, .slice A ns.length c, .string bd, .string og] 56)).alloc (.cells #[.bool false, .slice none 0 0, .string ⟨#[]⟩, .string ⟨#[]⟩] 62) = W := ⟨_, rfl⟩
  have hst : TurnSt 56 62 w v A ns.length c bd og W := TurnSt.start hW
  have HC := Lib.hid (fun (w' : World) (h : Below w.heap.size w w') => zzPlains_any A c ns w' (hB.below h) hl hw)
  have HW := Lib.hid hW
  clear hW
  go_enter Tryz.func91, Tryz.ntmps91
  go_wp2_with fail
  rw [HW.out]
  go_region_held3 (fun w' => w'.cell? ⟨w.heap.size, 0, none⟩ = some (.bool v) ∧ w'.cell? ⟨w.heap.size, 1, none⟩ = some (.slice A ns.length c) ∧ w'.cell? ⟨w.heap.size, 2, none⟩ = some (.string bd) ∧ w'.cell? ⟨w.heap.size, 3, none⟩ = some (.string og) ∧ w'.cell? ⟨w.heap.size + 1, 0, none⟩ = some (rcell w' ⟨w.heap.size + 1, 0, none⟩) ∧ w'.cell? ⟨w.heap.size + 1, 1, none⟩ = some (rcell w' ⟨w.heap.size + 1, 1, none⟩) ∧ w'.cell? ⟨w.heap.size + 1, 2, none⟩ = some (rcell w' ⟨w.heap.size + 1, 2, none⟩) ∧ w'.cell? ⟨w.heap.size + 1, 3, none⟩ = some (rcell w' ⟨w.heap.size + 1, 3, none⟩) ∧ w'.frozen? ⟨w.heap.size + 1, 0, none⟩ = false ∧ w'.frozen? ⟨w.heap.size + 1, 1, none⟩ = false ∧ w'.frozen? ⟨w.heap.size + 1, 2, none⟩ = false ∧ w'.frozen? ⟨w.heap.size + 1, 3, none⟩ = false ∧ TurnSt 56 62 w v A ns.length c bd og w')
    (first | with_reducible exact hst.all | with_reducible exact hst.drew.all | with_reducible exact (TurnSt.stored (TurnSt.below (‹_ ∧ _ ∧ _ ∧ _ ∧ _ ∧ _ ∧ _ ∧ _ ∧ _ ∧ _ ∧ _ ∧ _ ∧ TurnSt _ _ _ _ _ _ _ _ _ _›).2.2.2.2.2.2.2.2.2.2.2.2 hb1) _ _ _ _).all | with_reducible exact (TurnSt.below (‹_ ∧ _ ∧ _ ∧ _ ∧ _ ∧ _ ∧ _ ∧ _ ∧ _ ∧ _ ∧ _ ∧ _ ∧ TurnSt _ _ _ _ _ _ _ _ _ _›).2.2.2.2.2.2.2.2.2.2.2.2 hb1).all | with_reducible exact (TurnSt.stored (‹_ ∧ _ ∧ _ ∧ _ ∧ _ ∧ _ ∧ _ ∧ _ ∧ _ ∧ _ ∧ _ ∧ _ ∧ TurnSt _ _ _ _ _ _ _ _ _ _›).2.2.2.2.2.2.2.2.2.2.2.2 _ _ _ _).all)
    (first
      | (go_at_call 109; refine (HC.out _ (‹_ ∧ _ ∧ _ ∧ _ ∧ _ ∧ _ ∧ _ ∧ _ ∧ _ ∧ _ ∧ _ ∧ _ ∧ TurnSt _ _ _ _ _ _ _ _ _ _›).2.2.2.2.2.2.2.2.2.2.2.2.bel).mono ?_; rintro e w1 ⟨A1, c1, rfl, hown, hb1⟩; have hT1 := TurnSt.below (‹_ ∧ _ ∧ _ ∧ _ ∧ _ ∧ _ ∧ _ ∧ _ ∧ _ ∧ _ ∧ _ ∧ _ ∧ TurnSt _ _ _ _ _ _ _ _ _ _›).2.2.2.2.2.2.2.2.2.2.2.2 hb1; have hB0 := (‹_ ∧ _ ∧ _ ∧ _ ∧ _ ∧ _ ∧ _ ∧ _ ∧ _ ∧ _ ∧ _ ∧ _ ∧ TurnSt _ _ _ _ _ _ _ _ _ _›).2.2.2.2.2.2.2.2.2.2.2.2.bel.size))
  obtain ⟨cs, hr1, hr2⟩ := hT1.res
  have r0 := rcell_at hr1 (i := 0) (by omega)
  have r1 := rcell_at hr1 (i := 1) (by omega)
  have r2 := rcell_at hr1 (i := 2) (by omega)
  have r3 := rcell_at hr1 (i := 3) (by omega)
  go_wp2_with fail
  refine bodyPost_ret (v := .agg #[.bool v, .slice A1 ns.length c1, .string bd, .string og]) (by simp [results, Tryz.results91, go_sem, r0, r1, r2, r3]) rfl ⟨A1, c1, rfl, ?_⟩
  exact parts_end (t := 118) hown hr1 (by decide) hB0 (by omega) hT1.bel _ _ _ _
set_option maxRecDepth 100000 in
set_option maxHeartbeats 4000000 in
theorem plainLike_any (v : Bool) (A : Option Addr) (c : Nat) (ns : List Nat) (bd og : ByteArray) (w : World) (hB : Rd w 2 A ns.length (IntC ns)) (hl : ns.length ≤ 40000) :
    Calls Tryz.prog 55 #[.agg #[.bool v, .slice A ns.length c, .string bd, .string og]] w (PartsBack 46 w v ns bd og) := by
  obtain ⟨W, hW⟩ : ∃ W, (w.alloc (.cells #[.bool v, .slice A ns.length c, .string bd, .string og] 62)).alloc (.cells #[.bool false, .slice none 0 0, .string ⟨#[]⟩, .string ⟨#[]⟩] 27) = W := ⟨_, rfl⟩
  have hst : TurnSt 62 27 w v A ns.length c bd og W := TurnSt.start hW
  have HC := Lib.hid (fun (w' : World) (h : Below w.heap.size w w') => plains_any A c ns w' (hB.below h) hl)
  have HW := Lib.hid hW
  clear hW
  go_enter Tryz.func55, Tryz.ntmps55
  go_wp2_with fail
  rw [HW.out]
  go_region_held3 (fun w' => w'.cell? ⟨w.heap.size, 0, none⟩ = some (.bool v) ∧ w'.cell? ⟨w.heap.size, 1, none⟩ = some (.slice A ns.length c) ∧ w'.cell? ⟨w.heap.size, 2, none⟩ = some (.string bd) ∧ w'.cell? ⟨w.heap.size, 3, none⟩ = some (.string og) ∧ w'.cell? ⟨w.heap.size + 1, 0, none⟩ = some (rcell w' ⟨w.heap.size + 1, 0, none⟩) ∧ w'.cell? ⟨w.heap.size + 1, 1, none⟩ = some (rcell w' ⟨w.heap.size + 1, 1, none⟩) ∧ w'.cell? ⟨w.heap.size + 1, 2, none⟩ = some (rcell w' ⟨w.heap.size + 1, 2, none⟩) ∧ w'.cell? ⟨w.heap.size + 1, 3, none⟩ = some (rcell w' ⟨w.heap.size + 1, 3, none⟩) ∧ w'.frozen? ⟨w.heap.size + 1, 0, none⟩ = false ∧ w'.frozen? ⟨w.heap.size + 1, 1, none⟩ = false ∧ w'.frozen? ⟨w.heap.size + 1, 2, none⟩ = false ∧ w'.frozen? ⟨w.heap.size + 1, 3, none⟩ = false ∧ TurnSt 62 27 w v A ns.length c bd og w')
    (first | with_reducible exact hst.all | with_reducible exact hst.drew.all | with_reducible exact (TurnSt.stored (TurnSt.below (‹_ ∧ _ ∧ _ ∧ _ ∧ _ ∧ _ ∧ _ ∧ _ ∧ _ ∧ _ ∧ _ ∧ _ ∧ TurnSt _ _ _ _ _ _ _ _ _ _›).2.2.2.2.2.2.2.2.2.2.2.2 hb1) _ _ _ _).all | with_reducible exact (TurnSt.below (‹_ ∧ _ ∧ _ ∧ _ ∧ _ ∧ _ ∧ _ ∧ _ ∧ _ ∧ _ ∧ _ ∧ _ ∧ TurnSt _ _ _ _ _ _ _ _ _ _›).2.2.2.2.2.2.2.2.2.2.2.2 hb1).all | with_reducible exact (TurnSt.stored (‹_ ∧ _ ∧ _ ∧ _ ∧ _ ∧ _ ∧ _ ∧ _ ∧ _ ∧ _ ∧ _ ∧ _ ∧ TurnSt _ _ _ _ _ _ _ _ _ _›).2.2.2.2.2.2.2.2.2.2.2.2 _ _ _ _).all)
    (first
      | (go_at_call 90; refine (HC.out _ (‹_ ∧ _ ∧ _ ∧ _ ∧ _ ∧ _ ∧ _ ∧ _ ∧ _ ∧ _ ∧ _ ∧ _ ∧ TurnSt _ _ _ _ _ _ _ _ _ _›).2.2.2.2.2.2.2.2.2.2.2.2.bel).mono ?_; rintro e w1 ⟨A1, c1, rfl, hown, hb1⟩; have hT1 := TurnSt.below (‹_ ∧ _ ∧ _ ∧ _ ∧ _ ∧ _ ∧ _ ∧ _ ∧ _ ∧ _ ∧ _ ∧ _ ∧ TurnSt _ _ _ _ _ _ _ _ _ _›).2.2.2.2.2.2.2.2.2.2.2.2 hb1; have hB0 := (‹_ ∧ _ ∧ _ ∧ _ ∧ _ ∧ _ ∧ _ ∧ _ ∧ _ ∧ _ ∧ _ ∧ _ ∧ TurnSt _ _ _ _ _ _ _ _ _ _›).2.2.2.2.2.2.2.2.2.2.2.2.bel.size))
  obtain ⟨cs, hr1, hr2⟩ := hT1.res
  have r0 := rcell_at hr1 (i := 0) (by omega)
  have r1 := rcell_at hr1 (i := 1) (by omega)
  have r2 := rcell_at hr1 (i := 2) (by omega)
  have r3 := rcell_at hr1 (i := 3) (by omega)
  go_wp2_with fail
  refine bodyPost_ret (v := .agg #[.bool v, .slice A1 ns.length c1, .string bd, .string og]) (by simp [results, Tryz.results55, go_sem, r0, r1, r2, r3]) rfl ⟨A1, c1, rfl, ?_⟩
  exact parts_end (t := 46) hown hr1 (by decide) hB0 (by omega) hT1.bel _ _ _ _
set_option maxRecDepth 100000 in
set_option maxHeartbeats 4000000 in
theorem implLike_any (v : Bool) (A : Option Addr) (c : Nat) (ns : List Nat) (bd og : ByteArray) (w : World) (hB : Rd w 2 A ns.length (IntC ns)) (hl : ns.length ≤ 40000) :
    Calls Tryz.prog 53 #[.agg #[.bool v, .slice A ns.length c, .string bd, .string og]] w (PartsBack 118 w v ns bd og) := by
  obtain ⟨W, hW⟩ : ∃ W, (w.alloc (.cells #[.bool v, .slice A ns.length c, .string bd, .string og] 27)).alloc (.cells #[.bool false, .slice none 0 0, .string ⟨#[]⟩, .string ⟨#[]⟩] 62) = W := ⟨_, rfl⟩
  have hst : TurnSt 27 62 w v A ns.length c bd og W := TurnSt.start hW
  have HC := Lib.hid (fun (w' : World) (h : Below w.heap.size w w') => bigs_any A c ns w' (hB.below h) hl)
  have HW := Lib.hid hW
  clear hW
  go_enter Tryz.func53, Tryz.ntmps53
  go_wp2_with fail
  rw [HW.out]
  go_region_held3 (fun w' => w'.cell? ⟨w.heap.size, 0, none⟩ = some (.bool v) ∧ w'.cell? ⟨w.heap.size, 1, none⟩ = some (.slice A ns.length c) ∧ w'.cell? ⟨w.heap.size, 2, none⟩ = some (.string bd) ∧ w'.cell? ⟨w.heap.size, 3, none⟩ = some (.string og) ∧ w'.cell? ⟨w.heap.size + 1, 0, none⟩ = some (rcell w' ⟨w.heap.size + 1, 0, none⟩) ∧ w'.cell? ⟨w.heap.size + 1, 1, none⟩ = some (rcell w' ⟨w.heap.size + 1, 1, none⟩) ∧ w'.cell? ⟨w.heap.size + 1, 2, none⟩ = some (rcell w' ⟨w.heap.size + 1, 2, none⟩) ∧ w'.cell? ⟨w.heap.size + 1, 3, none⟩ = some (rcell w' ⟨w.heap.size + 1, 3, none⟩) ∧ w'.frozen? ⟨w.heap.size + 1, 0, none⟩ = false ∧ w'.frozen? ⟨w.heap.size + 1, 1, none⟩ = false ∧ w'.frozen? ⟨w.heap.size + 1, 2, none⟩ = false ∧ w'.frozen? ⟨w.heap.size + 1, 3, none⟩ = false ∧ TurnSt 27 62 w v A ns.length c bd og w')
    (first | with_reducible exact hst.all | with_reducible exact hst.drew.all | with_reducible exact (TurnSt.stored (TurnSt.below (‹_ ∧ _ ∧ _ ∧ _ ∧ _ ∧ _ ∧ _ ∧ _ ∧ _ ∧ _ ∧ _ ∧ _ ∧ TurnSt _ _ _ _ _ _ _ _ _ _›).2.2.2.2.2.2.2.2.2.2.2.2 hb1) _ _ _ _).all | with_reducible exact (TurnSt.below (‹_ ∧ _ ∧ _ ∧ _ ∧ _ ∧ _ ∧ _ ∧ _ ∧ _ ∧ _ ∧ _ ∧ _ ∧ TurnSt _ _ _ _ _ _ _ _ _ _›).2.2.2.2.2.2.2.2.2.2.2.2 hb1).all | with_reducible exact (TurnSt.stored (‹_ ∧ _ ∧ _ ∧ _ ∧ _ ∧ _ ∧ _ ∧ _ ∧ _ ∧ _ ∧ _ ∧ _ ∧ TurnSt _ _ _ _ _ _ _ _ _ _›).2.2.2.2.2.2.2.2.2.2.2.2 _ _ _ _).all)
    (first
      | (go_at_call 88; refine (HC.out _ (‹_ ∧ _ ∧ _ ∧ _ ∧ _ ∧ _ ∧ _ ∧ _ ∧ _ ∧ _ ∧ _ ∧ _ ∧ TurnSt _ _ _ _ _ _ _ _ _ _›).2.2.2.2.2.2.2.2.2.2.2.2.bel).mono ?_; rintro e w1 ⟨A1, c1, rfl, hown, hb1⟩; have hT1 := TurnSt.below (‹_ ∧ _ ∧ _ ∧ _ ∧ _ ∧ _ ∧ _ ∧ _ ∧ _ ∧ _ ∧ _ ∧ _ ∧ TurnSt _ _ _ _ _ _ _ _ _ _›).2.2.2.2.2.2.2.2.2.2.2.2 hb1; have hB0 := (‹_ ∧ _ ∧ _ ∧ _ ∧ _ ∧ _ ∧ _ ∧ _ ∧ _ ∧ _ ∧ _ ∧ _ ∧ TurnSt _ _ _ _ _ _ _ _ _ _›).2.2.2.2.2.2.2.2.2.2.2.2.bel.size))
  obtain ⟨cs, hr1, hr2⟩ := hT1.res
  have r0 := rcell_at hr1 (i := 0) (by omega)
  have r1 := rcell_at hr1 (i := 1) (by omega)
  have r2 := rcell_at hr1 (i := 2) (by omega)
  have r3 := rcell_at hr1 (i := 3) (by omega)
  go_wp2_with fail
  refine bodyPost_ret (v := .agg #[.bool v, .slice A1 ns.length c1, .string bd, .string og]) (by simp [results, Tryz.results53, go_sem, r0, r1, r2, r3]) rfl ⟨A1, c1, rfl, ?_⟩
  exact parts_end (t := 118) hown hr1 (by decide) hB0 (by omega) hT1.bel _ _ _ _
set_option maxRecDepth 100000 in
set_option maxHeartbeats 4000000 in
theorem zzLike_any (v : Bool) (A : Option Addr) (c : Nat) (ns : List Nat) (bd og : ByteArray) (w : World) (hB : Rd w 2 A ns.length (IntC ns)) (hl : ns.length ≤ 40000) (hw : ∀ n ∈ ns, (Pl.magOf n).length ≤ 30000) :
    Calls Tryz.prog 87 #[.agg #[.bool v, .slice A ns.length c, .string bd, .string og]] w (VersBack w v ns bd og) := by
  obtain ⟨W, hW⟩ : ∃ W, (w.alloc (.cells #[.bool v, .slice A ns.length c, .string bd, .string og] 62)).alloc (.cells #[.bool false, .slice none 0 0, .string ⟨#[]⟩, .string ⟨#[]⟩] 56) = W := ⟨_, rfl⟩
  have hst : TurnSt 62 56 w v A ns.length c bd og W := TurnSt.start hW
  have HC := Lib.hid (fun (w' : World) (h : Below w.heap.size w w') => zzBigs_any A c ns w' (hB.below h) hl hw)
  have HW := Lib.hid hW
  clear hW
  go_enter Tryz.func87, Tryz.ntmps87
  go_wp2_with fail
  rw [HW.out]
  go_region_held3 (fun w' => w'.cell? ⟨w.heap.size, 0, none⟩ = some (.bool v) ∧ w'.cell? ⟨w.heap.size, 1, none⟩ = some (.slice A ns.length c) ∧ w'.cell? ⟨w.heap.size, 2, none⟩ = some (.string bd) ∧ w'.cell? ⟨w.heap.size, 3, none⟩ = some (.string og) ∧ w'.cell? ⟨w.heap.size + 1, 0, none⟩ = some (rcell w' ⟨w.heap.size + 1, 0, none⟩) ∧ w'.cell? ⟨w.heap.size + 1, 1, none⟩ = some (rcell w' ⟨w.heap.size + 1, 1, none⟩) ∧ w'.cell? ⟨w.heap.size + 1, 2, none⟩ = some (rcell w' ⟨w.heap.size + 1, 2, none⟩) ∧ w'.cell? ⟨w.heap.size + 1, 3, none⟩ = some (rcell w' ⟨w.heap.size + 1, 3, none⟩) ∧ w'.frozen? ⟨w.heap.size + 1, 0, none⟩ = false ∧ w'.frozen? ⟨w.heap.size + 1, 1, none⟩ = false ∧ w'.frozen? ⟨w.heap.size + 1, 2, none⟩ = false ∧ w'.frozen? ⟨w.heap.size + 1, 3, none⟩ = false ∧ TurnSt 62 56 w v A ns.length c bd og w')
    (first | with_reducible exact hst.all | with_reducible exact hst.drew.all | with_reducible exact (TurnSt.stored (TurnSt.below (‹_ ∧ _ ∧ _ ∧ _ ∧ _ ∧ _ ∧ _ ∧ _ ∧ _ ∧ _ ∧ _ ∧ _ ∧ TurnSt _ _ _ _ _ _ _ _ _ _›).2.2.2.2.2.2.2.2.2.2.2.2 hb1) _ _ _ _).all | with_reducible exact (TurnSt.below (‹_ ∧ _ ∧ _ ∧ _ ∧ _ ∧ _ ∧ _ ∧ _ ∧ _ ∧ _ ∧ _ ∧ _ ∧ TurnSt _ _ _ _ _ _ _ _ _ _›).2.2.2.2.2.2.2.2.2.2.2.2 hb1).all | with_reducible exact (TurnSt.stored (‹_ ∧ _ ∧ _ ∧ _ ∧ _ ∧ _ ∧ _ ∧ _ ∧ _ ∧ _ ∧ _ ∧ _ ∧ TurnSt _ _ _ _ _ _ _ _ _ _›).2.2.2.2.2.2.2.2.2.2.2.2 _ _ _ _).all)
    (first
      | (go_at_call 106; refine (HC.out _ (‹_ ∧ _ ∧ _ ∧ _ ∧ _ ∧ _ ∧ _ ∧ _ ∧ _ ∧ _ ∧ _ ∧ _ ∧ TurnSt _ _ _ _ _ _ _ _ _ _›).2.2.2.2.2.2.2.2.2.2.2.2.bel).mono ?_; rintro e w1 ⟨A1, c1, rfl, hown, hb1⟩; have hT1 := TurnSt.below (‹_ ∧ _ ∧ _ ∧ _ ∧ _ ∧ _ ∧ _ ∧ _ ∧ _ ∧ _ ∧ _ ∧ _ ∧ TurnSt _ _ _ _ _ _ _ _ _ _›).2.2.2.2.2.2.2.2.2.2.2.2 hb1; have hB0 := (‹_ ∧ _ ∧ _ ∧ _ ∧ _ ∧ _ ∧ _ ∧ _ ∧ _ ∧ _ ∧ _ ∧ _ ∧ TurnSt _ _ _ _ _ _ _ _ _ _›).2.2.2.2.2.2.2.2.2.2.2.2.bel.size))
  obtain ⟨cs, hr1, hr2⟩ := hT1.res
  have r0 := rcell_at hr1 (i := 0) (by omega)
  have r1 := rcell_at hr1 (i := 1) (by omega)
  have r2 := rcell_at hr1 (i := 2) (by omega)
  have r3 := rcell_at hr1 (i := 3) (by omega)
  go_wp2_with fail
  refine bodyPost_ret (v := .agg #[.bool v, .slice A1 ns.length c1, .string bd, .string og]) (by simp [results, Tryz.results87, go_sem, r0, r1, r2, r3]) rfl ⟨A1, c1, rfl, ?_⟩
  exact bigs_end hown hr1 hB0 (by omega) hT1.bel _ _ _ _
theorem numsOf_mem {l : Pl.Bytes} {n : Nat} (h : n ∈ Pl.numsOf l) : ∃ p : Pl.Bytes, n = Pl.natOf p ∧ p.length ≤ (Pl.coreOf l).length ∧ p.all Pl.isDig = true := by
  rw [Pl.numsOf, List.mem_map] at h
  obtain ⟨p, hp, rfl⟩ := h
  have := Pl.piece_digs l p (List.mem_filter.1 hp).1
  exact ⟨p, rfl, this.1, this.2⟩
theorem restV_len (l : Pl.Bytes) : (Pl.restV l).length ≤ l.length := by
  cases l with
  | nil => exact Nat.le_refl _
  | cons c r => rw [Pl.restV]; split <;> simp
theorem coreOf_len (l : Pl.Bytes) : (Pl.coreOf l).length ≤ l.length :=
  Nat.le_trans (List.IsPrefix.length_le (List.takeWhile_prefix _)) (restV_len l)
theorem buildOf_len (l : Pl.Bytes) : (Pl.buildOf l).length ≤ l.length :=
  Nat.le_trans (List.IsSuffix.length_le (List.dropWhile_suffix _)) (restV_len l)
theorem numsOf_len (l : Pl.Bytes) : (Pl.numsOf l).length ≤ l.length + 1 := by
  rw [Pl.numsOf, List.length_map]
  refine Nat.le_trans (List.length_filter_le _ _) (Nat.le_trans (Pl.splitB_length 46 _) ?_)
  have := coreOf_len l; omega
theorem nums_small {s : ByteArray} (hs : s.size ≤ 30000) : Small (Pl.numsOf s.data.toList) := by
  have h1 := numsOf_len s.data.toList
  rw [len_list] at h1
  refine ⟨by omega, fun n hn => ?_⟩
  obtain ⟨p, rfl, hp, hd⟩ := numsOf_mem hn
  have h2 := coreOf_len s.data.toList
  rw [len_list] at h2
  have := ten_words (Pl.natOf_lt p hd) (by omega)
  omega
structure Ready (s : ByteArray) : Prop where
  size : s.size ≤ 30000
  asc : Pl.ascii s.data.toList = true
  known : Pl.buildKnown (Pl.buildOf s.data.toList) = true
theorem Ready.build {s : ByteArray} (h : Ready s) : (⟨(Pl.buildOf s.data.toList).toArray⟩ : ByteArray).size ≤ 30000 := by
  rw [S_size]
  have h1 := buildOf_len s.data.toList
  rw [len_list] at h1
  have := h.size; omega
theorem tassert58 (v : Value) (w : World) : (Instr.typeAssert (.iface 58 v) 95 58 true).run Tryz.prog w = .ok (.tuple #[v, .bool true]) w := by kernel_rfl
set_option maxRecDepth 100000 in
theorem Compare_any (va vb : Bool) (A B : Option Addr) (ca cb : Nat) (ns ms : List Nat) (da db oa ob : ByteArray) (pe pn pi : Addr) (w : World) (hA : Bigs w A ns) (hB : Bigs w B ms) (hna : Small ns) (hnb : Small ms)
    (hda : da.size ≤ 30000) (hdb : db.size ≤ 30000) (hV : PkgVars w pe pn pi) (hka : Pl.buildKnown da.data.toList = true) (hkb : Pl.buildKnown db.data.toList = true) :
    Calls Tryz.prog 54 #[VV va A ns.length ca da oa, .iface 58 (VV vb B ms.length cb db ob)] w fun e w' => e = .returned (.tuple #[.int .i64 (Pl.likeOrd ns ms da.data.toList db.data.toList), .nilIface]) ∧ Below w.heap.size w w' := by
  obtain ⟨W, hW⟩ : ∃ W, (w.alloc (.cells #[.bool va, .slice A ns.length ca, .string da, .string oa] 58)).alloc (.cells #[.bool vb, .slice B ms.length cb, .string db, .string ob] 58) = W := ⟨_, rfl⟩
  have hbW : Below w.heap.size w W := by rw [← hW]; exact ((Below.refl _ _).alloc (Nat.le_refl _) _).alloc (by simp) _
  have HC := Lib.hid (compare_any va vb A B ca cb ns ms da db oa ob pe pn pi W (hA.below hbW) (hB.below hbW) hna hnb hda hdb (hV.below hbW) hka hkb)
  have HW := Lib.hid hW
  obtain ⟨R, hR⟩ : ∃ R, Pl.likeOrd ns ms da.data.toList db.data.toList = R := ⟨_, rfl⟩
  rw [hR] at HC ⊢
  clear hW hR hA hB hna hnb hka hkb hV
  go_enter Tryz.func54, Tryz.ntmps54
  go_wp2_with fail
  rw [tassert58]
  go_wp2_with fail
  rw [HW.out]
  refine HC.out.mono ?_; rintro e w1 ⟨rfl, hb1⟩
  go_wp2
  exact bodyPost_ret (v := .tuple #[.int .i64 R, .nilIface]) (by simp [results, Tryz.results54, go_sem]) rfl ⟨rfl, hbW.trans (hb1.mono hbW.size)⟩
theorem nums_fits {s : ByteArray} (hs : s.size ≤ 15000) : Pl.Fits (Pl.numsOf s.data.toList) := by
  have h1 := numsOf_len s.data.toList
  rw [len_list] at h1
  refine ⟨by omega, fun n hn => ?_⟩
  obtain ⟨p, rfl, hp, hd⟩ := numsOf_mem hn
  have h2 := coreOf_len s.data.toList
  rw [len_list] at h2
  have h3 := Pl.natOf_lt p hd
  have h4 := Pl.pow10_lt p.length
  have := Pl.magOf_len (Pl.natOf p) p.length (by omega)
  omega
theorem own_fourT {w : World} {base g n : Nat} {e t : TypeId} {size : Nat} {cs : Array Value} {v a b c d : Value} {xs : List Value} (h : w.ownsRow base e size v n xs) (hb : Blk w g t cs) (ht : e ≠ t) :
    ((((w.setCell ⟨g, 0, none⟩ a).setCell ⟨g, 1, none⟩ b).setCell ⟨g, 2, none⟩ c).setCell ⟨g, 3, none⟩ d).ownsRow base e size v n xs := by
  have hne := own_blk_ne h hb ht
  exact own_far (own_far (own_far (own_far h hne _) hne _) hne _) hne _
theorem below_four {w w1 : World} {B g : Nat} (hb : Below B w w1) (hg : B ≤ g) (a b c d : Value) : Below B w ((((w1.setCell ⟨g, 0, none⟩ a).setCell ⟨g, 1, none⟩ b).setCell ⟨g, 2, none⟩ c).setCell ⟨g, 3, none⟩ d) :=
  (((hb.setCell hg _).setCell hg _).setCell hg _).setCell hg _
set_option maxRecDepth 100000 in
theorem zzLikeParse_any (s : ByteArray) (pe pn pi : Addr) (w : World) (hs : s.size ≤ 30000) (hV : PkgVars w pe pn pi) (hasc : Pl.ascii s.data.toList = true) :
    Calls Tryz.prog 56 #[.string s] w (PartsBack 118 w (Pl.startsV s.data.toList) (Pl.numsOf s.data.toList) ⟨(Pl.buildOf s.data.toList).toArray⟩ s) := by
  obtain ⟨W, hW⟩ : ∃ W, w.alloc (.cells #[.bool false, .slice none 0 0, .string ⟨#[]⟩, .string ⟨#[]⟩] 62) = W := ⟨_, rfl⟩
  have hbW : Below w.heap.size w W := by rw [← hW]; exact (Below.refl _ _).alloc (Nat.le_refl _) _
  have hRW : Blk W w.heap.size 62 #[.bool false, .slice none 0 0, .string ⟨#[]⟩, .string ⟨#[]⟩] := by rw [← hW]; exact Blk.new _ _ _
  have HC := Lib.hid (parse_any s pe pn pi W hs (hV.below hbW) hasc)
  have hsm := nums_small hs
  have HT := Lib.hid (fun (w1 : World) A c (hB : Bigs w1 A (Pl.numsOf s.data.toList)) => told_any (Pl.startsV s.data.toList) A c (Pl.numsOf s.data.toList) ⟨(Pl.buildOf s.data.toList).toArray⟩ s w1 hB hsm.1 hsm.2)
  have HW := Lib.hid hW
  clear hW hsm hV hasc
  go_enter Tryz.func56, Tryz.ntmps56
  go_wp2_with fail
  rw [HW.out]
  refine HC.out.mono ?_; rintro e w1 ⟨A, c, rfl, hob, hb1⟩
  go_wp2_with fail
  refine (HT.out w1 A c hob.bigs).mono ?_; rintro e w2 ⟨A2, c2, rfl, hown, hb2⟩
  have hR2 := (hRW.below hb1 hRW.lt).below hb2 (Nat.lt_of_lt_of_le hRW.lt hb1.size)
  have hbel := hbW.trans ((hb1.mono hbW.size).trans (hb2.mono (Nat.le_trans hbW.size hb1.size)))
  have d0 := hR2.cell 0
  have d1 := hR2.cell 1
  have d2 := hR2.cell 2
  have d3 := hR2.cell 3
  have e0 := hR2.frozen 0
  have e1 := hR2.frozen 1
  have e2 := hR2.frozen 2
  have e3 := hR2.frozen 3
  simp at d0 d1 d2 d3
  go_wp2
  refine bodyPost_ret (v := .agg #[.bool (Pl.startsV s.data.toList), .slice A2 (Pl.numsOf s.data.toList).length c2, S (Pl.buildOf s.data.toList), .string s]) (by simp [results, Tryz.results56, go_sem, d0, d1, d2, d3]) rfl ⟨A2, c2, rfl, ?_, ?_⟩
  · exact own_fourT (own_lower hown (Nat.le_trans hbW.size hb1.size)) hR2 (by decide)
  · exact below_four hbel (Nat.le_refl _) _ _ _ _
set_option maxRecDepth 100000 in
theorem implLikeParse_any (s : ByteArray) (pe pn pi : Addr) (w : World) (hs : s.size ≤ 30000) (hV : PkgVars w pe pn pi) (hasc : Pl.ascii s.data.toList = true) :
    Calls Tryz.prog 19 #[.string s] w (PartsBack 46 w (Pl.startsV s.data.toList) (Pl.numsOf s.data.toList) ⟨(Pl.buildOf s.data.toList).toArray⟩ s) := by
  obtain ⟨W, hW⟩ : ∃ W, w.alloc (.cells #[.bool false, .slice none 0 0, .string ⟨#[]⟩, .string ⟨#[]⟩] 27) = W := ⟨_, rfl⟩
  have hbW : Below w.heap.size w W := by rw [← hW]; exact (Below.refl _ _).alloc (Nat.le_refl _) _
  have hRW : Blk W w.heap.size 27 #[.bool false, .slice none 0 0, .string ⟨#[]⟩, .string ⟨#[]⟩] := by rw [← hW]; exact Blk.new _ _ _
  have HC := Lib.hid (zzLikeParse_any s pe pn pi W hs (hV.below hbW) hasc)
  have hsm := nums_small hs
  have HT := Lib.hid (fun (w1 : World) A c (hB : Rd w1 2 A (Pl.numsOf s.data.toList).length (IntC (Pl.numsOf s.data.toList))) => plainLike_any (Pl.startsV s.data.toList) A c (Pl.numsOf s.data.toList) ⟨(Pl.buildOf s.data.toList).toArray⟩ s w1 hB hsm.1)
  have HW := Lib.hid hW
  clear hW hsm hV hasc
  go_enter Tryz.func19, Tryz.ntmps19
  go_wp2_with fail
  rw [HW.out]
  refine HC.out.mono ?_; rintro e w1 ⟨A, c, rfl, hob, hb1⟩
  go_wp2_with fail
  refine (HT.out w1 A c (Rd.of_own hob)).mono ?_; rintro e w2 ⟨A2, c2, rfl, hown, hb2⟩
  have hR2 := (hRW.below hb1 hRW.lt).below hb2 (Nat.lt_of_lt_of_le hRW.lt hb1.size)
  have hbel := hbW.trans ((hb1.mono hbW.size).trans (hb2.mono (Nat.le_trans hbW.size hb1.size)))
  have d0 := hR2.cell 0
  have d1 := hR2.cell 1
  have d2 := hR2.cell 2
  have d3 := hR2.cell 3
  have e0 := hR2.frozen 0
  have e1 := hR2.frozen 1
  have e2 := hR2.frozen 2
  have e3 := hR2.frozen 3
  simp at d0 d1 d2 d3
  go_wp2
  refine bodyPost_ret (v := .agg #[.bool (Pl.startsV s.data.toList), .slice A2 (Pl.numsOf s.data.toList).length c2, S (Pl.buildOf s.data.toList), .string s]) (by simp [results, Tryz.results19, go_sem, d0, d1, d2, d3]) rfl ⟨A2, c2, rfl, ?_, ?_⟩
  · exact own_fourT (own_lower hown (Nat.le_trans hbW.size hb1.size)) hR2 (by decide)
  · exact below_four hbel (Nat.le_refl _) _ _ _ _
end Go.Proofs.YtgfkdjmoflbmdaaGreatDoor
