/- Contracts; Contracts; Contracts; Contract. -/
import Derived.Test.YtgfkdjmoflbmdaaGreatDoorRWu
namespace Go.Proofs.YtgfkdjmoflbmdaaGreatDoor
open Go.RowKit
open Go.Proofs
def sgn (l : List UInt8) : Nat := match l with
  | [] => 0
  | c :: _ => if c = 45 ∨ c = 43 then 1 else 0
theorem sgn_le (s : ByteArray) : sgn s.data.toList ≤ s.size := by
  rw [← len_list]
  cases s.data.toList with
  | nil => exact Nat.le_refl _
  | cons c r =>
    show (if c = 45 ∨ c = 43 then 1 else 0) ≤ _
    split <;> simp
theorem sgn_at {s : ByteArray} (h0 : 0 < s.size) : sgn s.data.toList = if s[0] = 45 ∨ s[0] = 43 then 1 else 0 := by
  rw [list_cons s h0]; rfl
theorem u8_eq {c : UInt8} {k : Nat} (hk : k < 256) : c = UInt8.ofNat k ↔ c.toNat = k := by
  rw [← UInt8.toNat_inj]
  simp [Nat.mod_eq_of_lt hk]
def SignBack (w : World) (g : Nat) (s : ByteArray) (pe : Addr) (e : Ending) (w' : World) : Prop :=
  w.grownBy w' (some g) ∧ ((s.size = 0 ∧ e = .returned (.tuple #[.bool false, .iface 305 (.pointer (some pe))])) ∨
    (0 < s.size ∧ ∃ ng, e = .returned (.tuple #[.bool ng, .nilIface]) ∧ (sgn s.data.toList = 0 → ng = false) ∧ RdrAt w' g s (sgn s.data.toList)))
set_option maxRecDepth 100000 in
theorem scanSign_any (g : Nat) (s : ByteArray) (pe pn : Addr) (w : World) (hs : s.size ≤ 30000) (hR : RdrAt w g s 0) (hV : ScanVars w pe pn) (h8 : 8 < g) :
    Calls Tryz.prog 160 #[.iface 144 (.pointer (some ⟨g, 0, none⟩))] w (SignBack w g s pe) := by
  by_cases h0 : 0 < s.size
  · have hc := ReadByte_hit g s 0 w hR h0 hs
    obtain ⟨c, hce⟩ : ∃ c, s[0] = c := ⟨_, rfl⟩
    have hsg := sgn_at h0
    rw [hce] at hc hsg
    have HC := Lib.hid hc
    have HSG := Lib.hid hsg
    clear hc hsg hce
    have hclt : c.toNat < 256 := c.toNat_lt
    have e45 : c = 45 ↔ c.toNat = 45 := u8_eq (k := 45) (by omega)
    have e43 : c = 43 ↔ c.toNat = 43 := u8_eq (k := 43) (by omega)
    by_cases h45 : c.toNat = 45
    · have t1 : ((c.toNat : Int) == 45) = true := by rw [beq_iff_eq]; omega
      have hsg1 : sgn s.data.toList = 1 := by rw [HSG.out, if_pos (Or.inl (e45.2 h45))]
      have HS1 := Lib.hid hsg1
      clear e45 e43 hsg1
      go_enter Tryz.func160, Tryz.ntmps160
      go_wp2_with (go_at_call 322; refine HC.out.mono ?_; rintro e w1 ⟨rfl, hR1, hg1⟩)
      refine bodyPost_ret (v := .tuple #[.bool true, .nilIface]) (by simp [results, Tryz.results160, go_sem]) rfl ⟨hg1, Or.inr ⟨h0, true, rfl, fun h => ?_, ?_⟩⟩
      · rw [HS1.out] at h; cases h
      · rw [HS1.out]; exact hR1
    · have t1 : ((c.toNat : Int) == 45) = false := by rw [beq_eq_false_iff_ne]; omega
      by_cases h43 : c.toNat = 43
      · have t2 : ((c.toNat : Int) == 43) = true := by rw [beq_iff_eq]; omega
        have hsg1 : sgn s.data.toList = 1 := by rw [HSG.out, if_pos (Or.inr (e43.2 h43))]
        have HS1 := Lib.hid hsg1
        clear e45 e43 hsg1
        go_enter Tryz.func160, Tryz.ntmps160
        go_wp2_with (go_at_call 322; refine HC.out.mono ?_; rintro e w1 ⟨rfl, hR1, hg1⟩)
        refine bodyPost_ret (v := .tuple #[.bool false, .nilIface]) (by simp [results, Tryz.results160, go_sem]) rfl ⟨hg1, Or.inr ⟨h0, false, rfl, fun _ => rfl, ?_⟩⟩
        rw [HS1.out]; exact hR1
      · have t2 : ((c.toNat : Int) == 43) = false := by rw [beq_eq_false_iff_ne]; omega
        have hsg1 : sgn s.data.toList = 0 := by rw [HSG.out, if_neg (by rw [e45, e43]; omega)]
        have HS1 := Lib.hid hsg1
        clear e45 e43 hsg1
        go_enter Tryz.func160, Tryz.ntmps160
        go_wp2_with (first | (go_at_call 322; refine HC.out.mono ?_; rintro e w1 ⟨rfl, hR1, hg1⟩) | (go_at_call 323; refine (UnreadByte_any g s 0 _ hR1 (by omega)).mono ?_; rintro e w2 ⟨rfl, hR2, hg2⟩))
        refine bodyPost_ret (v := .tuple #[.bool false, .nilIface]) (by simp [results, Tryz.results160, go_sem]) rfl ⟨hg1.trans hg2, Or.inr ⟨h0, false, rfl, fun _ => rfl, ?_⟩⟩
        rw [HS1.out]; exact hR2
  · go_enter Tryz.func160, Tryz.ntmps160
    go_wp2_with (go_at_call 322; refine (ReadByte_end g s 0 _ _ hV.1 hR (by omega) hs (by omega) (by omega)).mono ?_; rintro e w1 ⟨rfl, hR1, hg1⟩)
    refine bodyPost_ret (v := .tuple #[.bool false, .iface 305 (.pointer (some pe))]) (by simp [results, Tryz.results160, go_sem]) rfl ⟨hg1, Or.inl ⟨by omega, rfl⟩⟩
structure FrB (B Z : Nat) (w w' : World) : Prop where
  os : w'.os = w.os
  tape : w'.tape = w.tape
  output : w'.output = w.output
  size : w.heap.size ≤ w'.heap.size
  block : ∀ k, k < B → k ≠ Z → w'.heap[k]? = w.heap[k]?
section
variable {B Z : Nat} {a b c : World}
theorem FrB.refl (B Z : Nat) (w : World) : FrB B Z w w := ⟨rfl, rfl, rfl, Nat.le_refl _, fun _ _ _ => rfl⟩
theorem FrB.trans (h : FrB B Z a b) (k : FrB B Z b c) : FrB B Z a c :=
  ⟨k.os.trans h.os, k.tape.trans h.tape, k.output.trans h.output, Nat.le_trans h.size k.size, fun i h1 h2 => (k.block i h1 h2).trans (h.block i h1 h2)⟩
theorem FrB.of_grown {g : Nat} (h : a.grownBy b (some g)) (hg : B ≤ g) (hB : B ≤ a.heap.size) : FrB B Z a b :=
  ⟨h.os, h.tape, h.output, h.size, fun k hk _ => h.block k (by omega) (by intro e; injection e with e; omega)⟩
theorem FrB.set (w : World) (i : Nat) (u : Value) : FrB B Z w (w.setCell ⟨Z, i, none⟩ u) :=
  ⟨rfl, rfl, rfl, by simp, fun k _ hk => heap_setCell_other w ⟨Z, i, none⟩ k u hk⟩
theorem FrB.cell (h : FrB B Z a b) {p : Addr} {v : Value} (hp : a.cell? p = some v) (hB : p.block < B) (hZ : p.block ≠ Z) : b.cell? p = some v :=
  (World.cell?_of_block (h.block p.block hB hZ)).trans hp
theorem FrB.blk {g : Nat} {t : TypeId} {cs : Array Value} (h : FrB B Z a b) (hb : Blk a g t cs) (hB : g < B) (hZ : g ≠ Z) : Blk b g t cs := (h.block g hB hZ).trans hb
end
def IntAt (w : World) (Z B : Nat) (ng : Bool) (N : Nat) : Prop := ∃ v, Blk w Z 128 #[.bool ng, v] ∧ NatAt w B v N
def IntScan (B Z : Nat) (w : World) (g : Nat) (s : ByteArray) (e : Ending) (w' : World) : Prop :=
  FrB B Z w w' ∧ (((s.size = 0 ∨ digRun (restOf s (sgn s.data.toList)) = []) ∧ ∃ b p, e = .returned (.tuple #[.pointer none, .int .i64 b, .iface 305 (.pointer (some p))])) ∨
    (0 < s.size ∧ digRun (restOf s (sgn s.data.toList)) ≠ [] ∧ e = .returned (.tuple #[.pointer (some ⟨Z, 0, none⟩), .int .i64 10, .nilIface]) ∧
      ∃ ng, (sgn s.data.toList = 0 → ng = false) ∧ IntAt w' Z B ng (Pl.natOf (digRun (restOf s (sgn s.data.toList)))) ∧ RdrAt w' g s (sgn s.data.toList + (digRun (restOf s (sgn s.data.toList))).length)))
set_option maxRecDepth 100000 in
set_option maxHeartbeats 1000000 in
theorem intScan_any (B Z g : Nat) (s : ByteArray) (pe pn : Addr) (w : World) (hs : s.size ≤ 30000) (hR : RdrAt w g s 0) (hV : ScanVars w pe pn) (h8 : 8 < Z) (hZB : Z < B) (hBg : B ≤ g) (hZ : Blk w Z 128 #[.bool false, .slice none 0 0]) :
    Calls Tryz.prog 147 #[.pointer (some ⟨Z, 0, none⟩), .iface 144 (.pointer (some ⟨g, 0, none⟩)), .int .i64 10] w (IntScan B Z w g s) := by
  have hgw : g < w.heap.size := Blk.lt hR
  go_enter Tryz.func147, Tryz.ntmps147
  go_wp2_with fail
  refine (scanSign_any g s pe pn _ hs hR hV (by omega)).mono ?_; rintro e w1 ⟨hg1, ⟨h0, rfl⟩ | ⟨h0, ng, rfl, hng, hR1⟩⟩
  · go_wp2
    refine bodyPost_ret (v := .tuple #[.pointer none, .int .i64 0, .iface 305 (.pointer (some pe))]) (by simp [results, Tryz.results147, go_sem]) rfl ⟨.of_grown hg1 hBg (by omega), Or.inl ⟨Or.inl h0, _, _, rfl⟩⟩
  · have hV1 := hV.grown hg1 (by omega)
    have hZ1 : Blk w1 Z 128 #[.bool false, .slice none 0 0] := Blk.grown hZ hg1 (by intro e; injection e with e; omega)
    have hF1 : FrB B Z w w1 := .of_grown hg1 hBg (by omega)
    have c0 := hZ1.cell 0
    have c1 := hZ1.cell 1
    have f0 := hZ1.frozen 0
    have f1 := hZ1.frozen 1
    simp at c0 c1
    have HNG := Lib.hid hng
    clear hng hR hV hZ hg1
    have hsl := sgn_le s
    obtain ⟨i0, hi0⟩ : ∃ i0, sgn s.data.toList = i0 := ⟨_, rfl⟩
    rw [hi0] at hR1 hsl
    have HI0 := Lib.hid hi0
    clear hi0
    have hC := scan_any g s i0 pe pn w1 hs hsl hR1 hV1 (by omega)
    have HC := Lib.hid hC
    clear hC
    by_cases hnil : digRun (restOf s i0) = []
    · have HNIL := Lib.hid hnil
      go_wp2_with fail
      refine HC.out.mono ?_; rintro e w2 ⟨v, c, rfl, hN, hR2, hg2⟩
      rw [if_pos hnil]
      obtain ⟨A, cp, rfl⟩ := own_form hN
      clear hnil hN
      have hZ2 := hZ1.grown hg2 (by intro e; injection e with e; omega)
      have d0 := hZ2.cell 0
      have d1 := hZ2.cell 1
      have e0 := hZ2.frozen 0
      have e1 := hZ2.frozen 1
      simp at d0 d1
      go_wp2
      refine bodyPost_ret (v := .tuple #[.pointer none, .int .i64 10, .iface 305 (.pointer (some pn))]) (by simp [results, Tryz.results147, go_sem]) rfl ⟨(hF1.trans (.of_grown hg2 hBg (by have := hF1.size; omega))).trans (FrB.set _ _ _), Or.inl ⟨Or.inr (by rw [HI0.out]; exact HNIL.out), _, _, rfl⟩⟩
    · have HNIL := Lib.hid hnil
      have hkey : ∀ (A : Option Addr) (n c : Nat) (fl : Bool) (w2 : World), NatAt w2 w1.heap.size (.slice A n c) (Pl.natOf (digRun (restOf s i0))) → RdrAt w2 g s (i0 + (digRun (restOf s i0)).length) → w1.grownBy w2 (some g) → (i0 = 0 → fl = false) →
          IntScan B Z w g s (.returned (.tuple #[.pointer (some ⟨Z, 0, none⟩), .int .i64 10, .nilIface])) ((w2.setCell ⟨Z, 1, none⟩ (.slice A n c)).setCell ⟨Z, 0, none⟩ (.bool fl)) := by
        intro A n c fl w2 hN hR2 hg2 hfl
        have hZ2 := hZ1.grown hg2 (by intro e; injection e with e; omega)
        have hNB : NatAt w2 B (.slice A n c) (Pl.natOf (digRun (restOf s i0))) := own_lower hN (by have := hF1.size; omega)
        have hne : (Value.slice A n c).ownBlock ≠ some Z := fun e => by have := (World.ownsRow.lt hNB Z e).1; omega
        refine ⟨((hF1.trans (.of_grown hg2 hBg (by have := hF1.size; omega))).trans (FrB.set _ _ _)).trans (FrB.set _ _ _), Or.inr ⟨h0, by rw [HI0.out]; exact HNIL.out, rfl, fl, by rw [HI0.out]; exact hfl, ⟨.slice A n c, ?_, ?_⟩, ?_⟩⟩
        · have := (hZ2.set_ 1 (.slice A n c)).set_ 0 (.bool fl)
          simpa using this
        · rw [HI0.out]; exact own_far (own_far hNB hne _) hne _
        · rw [HI0.out]; exact Blk.far (Blk.far hR2 (by simp; omega) _) (by simp; omega) _
      have HK := Lib.hid hkey
      clear hkey
      have hng0 : i0 = 0 → ng = false := fun h => HNG.out (by rw [HI0.out]; exact h)
      have HNG0 := Lib.hid hng0
      clear hng0
      go_wp2_with fail
      refine HC.out.mono ?_; rintro e w2 ⟨v, c, rfl, hN, hR2, hg2⟩
      rw [if_neg hnil]
      clear hnil
      obtain ⟨A, cp, rfl⟩ := own_form hN
      obtain ⟨n, hn⟩ : ∃ n, (Pl.digs M (Pl.natOf (digRun (restOf s i0)))).length = n := ⟨_, rfl⟩
      have HKN := HK.out A n cp
      rw [← hn] at HKN
      have HKN2 := Lib.hid HKN
      clear HKN
      have hZ2 := hZ1.grown hg2 (by intro e; injection e with e; omega)
      have d0 := hZ2.cell 0
      have d1 := hZ2.cell 1
      have e0 := hZ2.frozen 0
      have e1 := hZ2.frozen 1
      simp at d0 d1
      rw [hn] at hN HKN2 ⊢
      have HN := Lib.hid hN
      clear hn hN
      by_cases hpos : 0 < n
      · have hpz : (0 : Int) < (n : Int) := by omega
        go_wp2
        refine bodyPost_ret (v := .tuple #[.pointer (some ⟨Z, 0, none⟩), .int .i64 10, .nilIface]) (by simp [results, Tryz.results147, go_sem]) rfl ?_
        exact HKN2.out ng w2 HN.out hR2 hg2 HNG0.out
      · obtain rfl : n = 0 := by omega
        go_wp2
        refine bodyPost_ret (v := .tuple #[.pointer (some ⟨Z, 0, none⟩), .int .i64 10, .nilIface]) (by simp [results, Tryz.results147, go_sem]) rfl ?_
        exact HKN2.out false w2 HN.out hR2 hg2 (fun _ => rfl)
theorem digRun_all (l : List UInt8) : (digRun l).all Pl.isDig = true := List.all_eq_true.2 (Pl.all_takeWhile Pl.isDig l)
theorem digRun_full {l : List UInt8} (h : (digRun l).length = l.length) : digRun l = l := by
  have := List.takeWhile_append_dropWhile (p := Pl.isDig) (l := l)
  have h2 := congrArg List.length this
  rw [List.length_append] at h2
  have h3 : (l.dropWhile Pl.isDig).length = 0 := by unfold digRun at h; omega
  rw [List.eq_nil_of_length_eq_zero h3, List.append_nil] at this
  exact this
theorem digRun_of_all {l : List UInt8} (h : l.all Pl.isDig = true) : digRun l = l := by
  refine (Pl.while_at (p := Pl.isDig) l l.length (by rw [List.take_length]; exact h) (Or.inl rfl)).1.trans ?_
  rw [List.take_length]
theorem digRun_le (l : List UInt8) : (digRun l).length ≤ l.length := by
  have := List.takeWhile_append_dropWhile (p := Pl.isDig) (l := l)
  have h2 := congrArg List.length this
  rw [List.length_append] at h2
  unfold digRun; omega
theorem num_yes {l : List UInt8} (h : Pl.allDig l = true) : l ≠ [] ∧ sgn l = 0 ∧ digRun l = l := by
  rw [Pl.allDig, Bool.and_eq_true] at h
  have hne : l ≠ [] := by
    intro e
    rw [e] at h
    exact absurd h.2 (by decide)
  refine ⟨hne, ?_, digRun_of_all h.1⟩
  cases l with
  | nil => rfl
  | cons c r =>
    have hc : Pl.isDig c = true := by
      have := h.1
      rw [List.all_cons, Bool.and_eq_true] at this
      exact this.1
    show (if c = 45 ∨ c = 43 then 1 else 0) = 0
    rw [if_neg]
    rintro (rfl | rfl)
    · exact absurd hc (by decide)
    · exact absurd hc (by decide)
theorem num_no {l : List UInt8} (h : Pl.allDig l = false) (hk : Pl.idKnown1 l = true) : l = [] ∨ digRun (l.drop (sgn l)) = [] ∨ sgn l + (digRun (l.drop (sgn l))).length < l.length := by
  by_cases h1 : l = []
  · exact Or.inl h1
  refine Or.inr ?_
  by_cases h2 : digRun (l.drop (sgn l)) = []
  · exact Or.inl h2
  refine Or.inr ?_
  have hle := digRun_le (l.drop (sgn l))
  rw [List.length_drop] at hle
  rcases Nat.lt_or_ge (sgn l + (digRun (l.drop (sgn l))).length) l.length with h3 | h3
  · exact h3
  exfalso
  have hlen1 : 0 < (digRun (l.drop (sgn l))).length := List.length_pos_iff.2 h2
  have hfull : digRun (l.drop (sgn l)) = l.drop (sgn l) := digRun_full (by rw [List.length_drop]; omega)
  have hall : (l.drop (sgn l)).all Pl.isDig = true := by rw [← hfull]; exact digRun_all _
  cases l with
  | nil => exact h1 rfl
  | cons c r =>
    by_cases hs : c = 45 ∨ c = 43
    · have hsg : sgn (c :: r) = 1 := by
        show (if c = 45 ∨ c = 43 then 1 else 0) = 1
        rw [if_pos hs]
      rw [hsg] at hall h2
      have hr : r ≠ [] := by
        intro e
        rw [e] at h2
        exact h2 rfl
      have hrd : Pl.allDig r = true := by
        rw [Pl.allDig, Bool.and_eq_true]
        refine ⟨by simpa using hall, ?_⟩
        cases r with
        | nil => exact absurd rfl hr
        | cons _ _ => rfl
      have hl2 : 1 < (c :: r).length := by
        have := List.length_pos_iff.2 hr
        simp; omega
      rw [Pl.idKnown1] at hk
      have hkf : (decide (1 < (c :: r).length) && ((c :: r)[0]? == some 45 || (c :: r)[0]? == some 43) && Pl.allDig ((c :: r).drop 1)) = true := by
        rw [decide_eq_true hl2]
        rcases hs with rfl | rfl
        · simpa using hrd
        · simpa using hrd
      rw [hkf] at hk
      exact absurd hk (by decide)
    · have hsg : sgn (c :: r) = 0 := by
        show (if c = 45 ∨ c = 43 then 1 else 0) = 0
        rw [if_neg hs]
      rw [hsg, List.drop_zero] at hall
      rw [Pl.allDig, hall] at h
      exact absurd h (by simp)
def SetBack (B Z : Nat) (w : World) (s : ByteArray) (e : Ending) (w' : World) : Prop :=
  FrB B Z w w' ∧ ((Pl.allDig s.data.toList = true ∧ e = .returned (.tuple #[.pointer (some ⟨Z, 0, none⟩), .bool true]) ∧ IntAt w' Z B false (Pl.natOf s.data.toList)) ∨
    (Pl.allDig s.data.toList = false ∧ e = .returned (.tuple #[.pointer none, .bool false])))
theorem IntAt.grown {w w' : World} {Z B g N : Nat} {ng : Bool} (h : IntAt w Z B ng N) (hg : w.grownBy w' (some g)) (hZ : Z ≠ g) (hgB : ∀ v, Blk w Z 128 #[.bool ng, v] → NatAt w B v N → v.ownBlock ≠ some g) : IntAt w' Z B ng N := by
  obtain ⟨v, h1, h2⟩ := h
  exact ⟨v, h1.grown hg (by intro e; injection e with e; exact hZ e), own_grown h2 hg (Or.inr (hgB v h1 h2).symm)⟩
set_option maxRecDepth 100000 in
theorem setFromScanner_any (B Z g : Nat) (s : ByteArray) (pe pn : Addr) (w : World) (hs : s.size ≤ 30000) (hR : RdrAt w g s 0) (hV : ScanVars w pe pn) (h8 : 8 < Z) (hZB : Z < B) (hBg : B ≤ g) (hZ : Blk w Z 128 #[.bool false, .slice none 0 0]) (hk : Pl.idKnown1 s.data.toList = true) :
    Calls Tryz.prog 129 #[.pointer (some ⟨Z, 0, none⟩), .iface 144 (.pointer (some ⟨g, 0, none⟩)), .int .i64 10] w (SetBack B Z w s) := by
  have hgw : g < w.heap.size := Blk.lt hR
  have hC := Lib.hid (intScan_any B Z g s pe pn w hs hR hV h8 hZB hBg hZ)
  have hq1 := err_ne_same pe
  have hq2 := err_ne_nil pe
  go_enter Tryz.func129, Tryz.ntmps129
  go_wp2_with fail
  refine hC.out.mono ?_; rintro e w1 ⟨hF, ⟨hno, b, p, rfl⟩ | ⟨h0, hne, rfl, ng, hng, hI, hR1⟩⟩
  · have hno2 : Pl.allDig s.data.toList = false := by
      cases ha : Pl.allDig s.data.toList with
      | false => rfl
      | true =>
        obtain ⟨n1, n2, n3⟩ := num_yes ha
        rw [n2, restOf, List.drop_zero, n3] at hno
        rcases hno with h | h
        · exact absurd (List.eq_nil_of_length_eq_zero (by rw [len_list]; exact h)) n1
        · exact absurd h n1
    have HNO := Lib.hid hno2
    clear hno hno2
    go_wp2
    refine bodyPost_ret (v := .tuple #[.pointer none, .bool false]) (by simp [results, Tryz.results129, go_sem]) rfl ⟨hF, Or.inr ⟨HNO.out, rfl⟩⟩
  · have hV1 : ScanVars w1 pe pn := ⟨hF.cell hV.1 (by simp; omega) (by simp; omega), hF.cell hV.2 (by simp; omega) (by simp; omega)⟩
    have hIg : ∀ w2 : World, w1.grownBy w2 (some g) → IntAt w2 Z B ng (Pl.natOf (digRun (restOf s (sgn s.data.toList)))) := fun w2 hg => hI.grown hg (by omega) (fun v _ h2 => own_blk_ne h2 hR1 (by decide))
    have hFg : ∀ w2 : World, w1.grownBy w2 (some g) → FrB B Z w w2 := fun w2 hg => hF.trans (.of_grown hg hBg (by have := hF.size; omega))
    have HIG := Lib.hid hIg
    have HFG := Lib.hid hFg
    clear hIg hFg hI
    cases ha : Pl.allDig s.data.toList with
    | true =>
      obtain ⟨n1, n2, n3⟩ := num_yes ha
      have hend : sgn s.data.toList + (digRun (restOf s (sgn s.data.toList))).length = s.size := by
        rw [n2, restOf, List.drop_zero, n3, len_list]; omega
      have hnum : digRun (restOf s (sgn s.data.toList)) = s.data.toList := by rw [n2, restOf, List.drop_zero, n3]
      have hng0 : ng = false := hng n2
      subst hng0
      rw [hnum] at HIG
      rw [hend] at hR1
      have HA := Lib.hid ha
      clear ha n1 n2 n3 hend hnum hne hng
      go_wp2_with (go_at_call 322; refine (ReadByte_end g s s.size _ _ hV1.1 hR1 (Nat.le_refl _) hs hs (by omega)).mono ?_; rintro e w2 ⟨rfl, hR2, hg2⟩; have hV2 := hV1.grown hg2 (by omega); have hE2 := hV2.1)
      refine bodyPost_ret (v := .tuple #[.pointer (some ⟨Z, 0, none⟩), .bool true]) (by simp [results, Tryz.results129, go_sem]) rfl ⟨HFG.out _ hg2, Or.inl ⟨HA.out, rfl, HIG.out _ hg2⟩⟩
    | false =>
      have hlt : sgn s.data.toList + (digRun (restOf s (sgn s.data.toList))).length < s.size := by
        rcases num_no ha hk with h | h | h
        · rw [← len_list, h] at h0; simp at h0
        · exact absurd h hne
        · rw [len_list] at h; exact h
      obtain ⟨q, hq⟩ : ∃ q, sgn s.data.toList + (digRun (restOf s (sgn s.data.toList))).length = q := ⟨_, rfl⟩
      rw [hq] at hlt hR1
      have HA := Lib.hid ha
      clear ha hq hne hng hk
      go_wp2_with (go_at_call 322; refine (ReadByte_hit g s q _ hR1 hlt hs).mono ?_; rintro e w2 ⟨rfl, hR2, hg2⟩; have hV2 := hV1.grown hg2 (by omega); have hE2 := hV2.1)
      refine bodyPost_ret (v := .tuple #[.pointer none, .bool false]) (by simp [results, Tryz.results129, go_sem]) rfl ⟨HFG.out _ hg2, Or.inr ⟨HA.out, rfl⟩⟩
set_option maxRecDepth 100000 in
theorem SetString_any (Z : Nat) (s : ByteArray) (pe pn : Addr) (w : World) (hs : s.size ≤ 30000) (hV : ScanVars w pe pn) (h8 : 8 < Z) (hZ : Blk w Z 128 #[.bool false, .slice none 0 0]) (hk : Pl.idKnown1 s.data.toList = true) :
    Calls Tryz.prog 113 #[.pointer (some ⟨Z, 0, none⟩), .string s, .int .i64 10] w (SetBack w.heap.size Z w s) := by
  have hZB : Z < w.heap.size := hZ.lt
  obtain ⟨W, hW⟩ : ∃ W, w.alloc (.cells #[.string s, .int .i64 0, .int .i64 (-1)] 170) = W := ⟨_, rfl⟩
  have hR : RdrAt W w.heap.size s 0 := by rw [← hW]; exact Blk.new _ _ _
  have hV1 : ScanVars W pe pn := by
    rw [← hW]
    exact ⟨(World.cell?_alloc_lt w _ _ (World.block_lt_of_cell? w _ hV.1)).trans hV.1, (World.cell?_alloc_lt w _ _ (World.block_lt_of_cell? w _ hV.2)).trans hV.2⟩
  have hZ1 : Blk W Z 128 #[.bool false, .slice none 0 0] := by rw [← hW]; exact hZ.alloc _
  have hF : FrB w.heap.size Z w W := by
    rw [← hW]
    exact ⟨rfl, rfl, rfl, by simp, fun k hk' _ => Below.heap_alloc _ _ _ hk'⟩
  have HC := Lib.hid (setFromScanner_any w.heap.size Z w.heap.size s pe pn W hs hR hV1 h8 hZB (Nat.le_refl _) hZ1 hk)
  have HW := Lib.hid hW
  clear hW hR hV1 hZ1
  go_enter Tryz.func113, Tryz.ntmps113
  go_wp2_with (first | (go_at_call 130; refine (NewReader_any _ _).mono ?_; rintro e w1 ⟨rfl, rfl⟩) | fail)
  rw [HW.out]
  refine HC.out.mono ?_; rintro e w2 ⟨hF2, ⟨ha, rfl, hI⟩ | ⟨ha, rfl⟩⟩
  · have HA := Lib.hid ha
    clear ha
    go_wp2
    refine bodyPost_ret (v := .tuple #[.pointer (some ⟨Z, 0, none⟩), .bool true]) (by simp [results, Tryz.results113, go_sem]) rfl ⟨hF.trans hF2, Or.inl ⟨HA.out, rfl, hI⟩⟩
  · have HA := Lib.hid ha
    clear ha
    go_wp2
    refine bodyPost_ret (v := .tuple #[.pointer none, .bool false]) (by simp [results, Tryz.results113, go_sem]) rfl ⟨hF.trans hF2, Or.inr ⟨HA.out, rfl⟩⟩
set_option maxRecDepth 100000 in
set_option maxHeartbeats 1000000 in
theorem natCmp_any (A B : Option Addr) (ca cb : Nat) (N K : Nat) (w : World) (ha : Rd w 1 A (Pl.digs M N).length (WC (Pl.digs M N))) (hb : Rd w 1 B (Pl.digs M K).length (WC (Pl.digs M K))) (hla : (Pl.digs M N).length ≤ 900000) (hlb : (Pl.digs M K).length ≤ 900000) :
    Calls Tryz.prog 143 #[.slice A (Pl.digs M N).length ca, .slice B (Pl.digs M K).length cb] w fun e w' => e = .returned (.int .i64 (Pl.cmpN N K)) ∧ ∃ q, w' = w.drewN q := by
  have hvx := Pl.val_digs M N M_two
  have hvy := Pl.val_digs M K M_two
  have hlx := Pl.digs_lt M N M_two
  have hly := Pl.digs_lt M K M_two
  have hnx := Pl.digs_norm M N M_two
  have hny := Pl.digs_norm M K M_two
  obtain ⟨xs, hxs⟩ : ∃ xs, Pl.digs M N = xs := ⟨_, rfl⟩
  obtain ⟨ys, hys⟩ : ∃ ys, Pl.digs M K = ys := ⟨_, rfl⟩
  rw [hxs] at ha hla hvx hlx hnx ⊢
  rw [hys] at hb hlb hvy hly hny ⊢
  rw [← hvx, ← hvy]
  have HLX := Lib.hid hlx
  have HLY := Lib.hid hly
  have HNX := Lib.hid hnx
  have HNY := Lib.hid hny
  clear hvx hvy hlx hly hnx hny hxs hys
  by_cases hl : xs.length = ys.length
  · by_cases h0 : xs.length = 0
    · obtain rfl : xs = [] := List.eq_nil_of_length_eq_zero h0
      obtain rfl : ys = [] := List.eq_nil_of_length_eq_zero (by rw [← hl]; rfl)
      have HR := Lib.hid (show Pl.cmpN (Pl.val M []) (Pl.val M []) = 0 from rfl)
      simp only [List.length_nil]
      go_enter Tryz.func143, Tryz.ntmps143
      go_wp2
      go_ret
      exact ⟨ret_int HR.out.symm, 0, rfl⟩
    · rw [← hl] at hb hlb ⊢
      have HL := Lib.hid hl
      clear hl
      obtain ⟨b1, o1, rfl, hca⟩ := ha.2 (by omega)
      obtain ⟨b2, o2, rfl, hcb⟩ := hb.2 (by omega)
      have hcells : ∀ k (h : k < xs.length), w.cell? ⟨b1, o1 + k, none⟩ = some (.int .u64 ((xs[k] : Nat) : Int)) ∧ w.cell? ⟨b2, o2 + k, none⟩ = some (.int .u64 ((ys[k]'(by rw [← HL.out]; exact h) : Nat) : Int)) :=
        fun k h => ⟨hca k _ (WC_get xs k h), hcb k _ (WC_get ys k (by rw [← HL.out]; exact h))⟩
      have HCE := Lib.hid hcells
      clear hcells hca hcb ha hb
      have hmz : ((xs.length : Int) == 0) = false := by rw [beq_eq_false_iff_ne]; omega
      obtain ⟨R, hR⟩ : ∃ R, Pl.cmpN (Pl.val M xs) (Pl.val M ys) = R := ⟨_, rfl⟩
      rw [hR]
      have HR := Lib.hid hR
      clear hR
      go_enter Tryz.func143, Tryz.ntmps143
      go_wp2
      go_loopw [7] (fun iv wr => ∃ k : Nat, k < xs.length ∧ iv = .int .i64 (k : Int) ∧ xs.drop (k + 1) = ys.drop (k + 1) ∧ ∃ q, wr = w.drewN q) (fun iv _ => (intOf iv).toNat)
      case atStart => exact ⟨xs.length - 1, by omega, by go_num, by rw [List.drop_of_length_le (by omega), List.drop_of_length_le (by have := HL.out; omega)], 0, rfl⟩
      case round =>
        obtain ⟨k, hk, rfl, hd, q, rfl⟩ := hrel
        have HD := Lib.hid hd
        clear hd
        have hky : k < ys.length := by rw [← HL.out]; exact hk
        obtain ⟨hc1, hc2⟩ := HCE.out k hk
        have htop : (k = 0 ∨ xs[k] ≠ ys[k]) → Pl.cmpN xs[k] ys[k] = R := fun h => by rw [← HR.out, Pl.top_cmp M xs ys k HLX.out HLY.out HL.out hk hky HD.out h]
        have hnext : xs[k] = ys[k] → xs.drop k = ys.drop k := fun h => by rw [List.drop_eq_getElem_cons hk, List.drop_eq_getElem_cons hky, h, HD.out]
        obtain ⟨x, hx⟩ : ∃ x, xs[k] = x := ⟨_, rfl⟩
        obtain ⟨y, hy⟩ : ∃ y, ys[k] = y := ⟨_, rfl⟩
        rw [hx] at hc1 htop hnext
        rw [hy] at hc2 htop hnext
        have HTOP := Lib.hid htop
        have HNEXT := Lib.hid hnext
        clear htop hnext hx hy
        have hkz2 : (k : Int) < (xs.length : Int) := by omega
        by_cases hk0 : k = 0
        · subst hk0
          have HT := Lib.hid (HTOP.out (Or.inl rfl))
          simp at hc1 hc2
          have hkz2 : (0 : Int) < (xs.length : Int) := by omega
          have hkn2 : 0 < xs.length := by omega
          rcases Nat.lt_trichotomy x y with h | h | h
          · have hz : (x : Int) < (y : Int) := by omega
            go_wp2_with fail
            go_quiet (fail)
            go_wp2_with fail
            go_quiet (fail)
            go_wp2_with fail
            go_ret
            exact ⟨ret_int (by rw [← HT.out, Pl.cmpN_lt h]), _, by first | rfl | (simp only [World.drewN_drewN]; rfl)⟩
          · have hz : ¬ (x : Int) < (y : Int) := by omega
            have hz2 : ¬ (y : Int) < (x : Int) := by omega
            go_wp2_with fail
            go_quiet (fail)
            go_wp2_with fail
            go_quiet (fail)
            go_wp2_with fail
            go_quiet (fail)
            go_wp2_with fail
            go_ret
            exact ⟨ret_int (by rw [← HT.out, h, Pl.cmpN_eq]), _, by first | rfl | (simp only [World.drewN_drewN]; rfl)⟩
          · have hz : ¬ (x : Int) < (y : Int) := by omega
            have hz2 : (y : Int) < (x : Int) := by omega
            go_wp2_with fail
            go_quiet (fail)
            go_wp2_with fail
            go_quiet (fail)
            go_wp2_with fail
            go_quiet (fail)
            go_wp2_with fail
            go_ret
            exact ⟨ret_int (by rw [← HT.out, Pl.cmpN_gt h]), _, by first | rfl | (simp only [World.drewN_drewN]; rfl)⟩
        · have hkz : (0 : Int) < (k : Int) := by omega
          have hkn : 0 < k := by omega
          by_cases hxy : x = y
          · have hxyz : ((x : Int) == (y : Int)) = true := by rw [beq_iff_eq]; omega
            have HN := Lib.hid (HNEXT.out hxy)
            clear hxy
            go_wp2_with fail
            go_quiet (fail)
            go_wp2
            go_roundw
            case rel => exact ⟨k - 1, by omega, by go_num, by rw [show k - 1 + 1 = k from by omega]; exact HN.out, _, rfl⟩
            case measure => simp [intOf]; omega
          · have hxyz : ((x : Int) == (y : Int)) = false := by rw [beq_eq_false_iff_ne]; omega
            have HT := Lib.hid (HTOP.out (Or.inr hxy))
            rcases Nat.lt_or_gt_of_ne hxy with h | h
            · have hz : (x : Int) < (y : Int) := by omega
              clear hxy
              go_wp2_with fail
              go_quiet (fail)
              go_wp2_with fail
              go_quiet (fail)
              go_wp2_with fail
              go_ret
              exact ⟨ret_int (by rw [← HT.out, Pl.cmpN_lt h]), _, by first | rfl | (simp only [World.drewN_drewN]; rfl)⟩
            · have hz : ¬ (x : Int) < (y : Int) := by omega
              have hz2 : (y : Int) < (x : Int) := by omega
              clear hxy
              go_wp2_with fail
              go_quiet (fail)
              go_wp2_with fail
              go_quiet (fail)
              go_wp2_with fail
              go_quiet (fail)
              go_wp2_with fail
              go_ret
              exact ⟨ret_int (by rw [← HT.out, Pl.cmpN_gt h]), _, by first | rfl | (simp only [World.drewN_drewN]; rfl)⟩
  · rcases Nat.lt_or_gt_of_ne hl with h | h
    · have HR := Lib.hid (Pl.cmpN_lt (Pl.len_lt M M_two xs ys HLX.out HNY.out h))
      have h1 : ((xs.length : Int) != (ys.length : Int)) = true := by simp; omega
      have h2 : (xs.length : Int) < (ys.length : Int) := by omega
      go_enter Tryz.func143, Tryz.ntmps143
      go_wp2
      go_ret
      exact ⟨ret_int HR.out.symm, 0, rfl⟩
    · have HR := Lib.hid (Pl.cmpN_gt (Pl.len_lt M M_two ys xs HLY.out HNX.out h))
      have h1 : ((xs.length : Int) != (ys.length : Int)) = true := by simp; omega
      have h2 : (ys.length : Int) < (xs.length : Int) := by omega
      go_enter Tryz.func143, Tryz.ntmps143
      go_wp2
      go_ret
      exact ⟨ret_int HR.out.symm, 0, rfl⟩
theorem und123 : Tryz.prog.underlying 123 = some (.pointer 128) := Tryz.underlying123
theorem info128 : ((Tryz.prog.info? 128).map (·.size)) = some 2 := by kernel_rfl
theorem ptr_eq_same (p : Addr) (w : World) : (binOp .eql 123 (.pointer (some p)) (.pointer (some p))).run Tryz.prog w = .ok (.bool true) w := by
  obtain ⟨j, hj, hs⟩ := Option.map_eq_some_iff.1 info128
  have h : ∀ d : Nat, (Op.equalIn (d + 1) 123 (.pointer (some p)) (.pointer (some p))).run Tryz.prog w = .ok true w := fun d => by simp [Op.equalIn, run_underlying und123, typeInfo, hj, sizeOf, run_sameAddr_same]
  simp only [binOp]
  simp [Op.equal, Op.maxDepth, h 9999]
theorem ptr_eq_other {w : World} {g k : Nat} {cs ds : Array Value} (hne : g ≠ k) (h1 : Blk w g 128 cs) (h2 : Blk w k 128 ds) : (binOp .eql 123 (.pointer (some ⟨g, 0, none⟩)) (.pointer (some ⟨k, 0, none⟩))).run Tryz.prog w = .ok (.bool false) w := by
  obtain ⟨j, hj, hs⟩ := Option.map_eq_some_iff.1 info128
  have hx := run_sameAddr_other (P := Tryz.prog) w (a := ⟨g, 0, none⟩) (b := ⟨k, 0, none⟩) (by intro e; injection e with e; exact hne e) h1 h2
  have h : ∀ d : Nat, (Op.equalIn (d + 1) 123 (.pointer (some ⟨g, 0, none⟩)) (.pointer (some ⟨k, 0, none⟩))).run Tryz.prog w = .ok false w := fun d => by simp [Op.equalIn, run_underlying und123, typeInfo, hj, hs, sizeOf, hx]
  simp only [binOp]
  simp [Op.equal, Op.maxDepth, h 9999]
theorem IntAt.same {w : World} {g B B' N K : Nat} {n m : Bool} (h : IntAt w g B n N) (h' : IntAt w g B' m K) : N = K := by
  obtain ⟨v, h1, h2⟩ := h
  obtain ⟨v', h1', h2'⟩ := h'
  unfold Blk at h1 h1'
  rw [h1] at h1'
  injection h1' with h1'
  injection h1' with hcs
  have hv : v = v' := by simpa using (show #[Value.bool n, v] = #[Value.bool m, v'] from hcs) |> fun e => (by simpa using e : n = m ∧ v = v').2
  subst hv
  have e : Pl.digs M N = Pl.digs M K := by
    obtain ⟨A, c, hv⟩ := own_form h2
    obtain ⟨A', c', hv'⟩ := own_form h2'
    have r1 := Rd.of_own (hv ▸ h2)
    have r2 := Rd.of_own (hv' ▸ h2')
    rw [hv] at hv'
    injection hv' with hAA hl _
    subst hAA
    apply List.ext_getElem hl
    intro i hi1 hi2
    obtain ⟨b, o, hA, hc⟩ := r1.2 (by omega)
    have hn2 : 0 < (Pl.digs M K).length := by omega
    obtain ⟨b', o', hA', hc'⟩ := r2.2 hn2
    rw [hA] at hA'
    injection hA' with hA'
    injection hA' with hb ho _
    subst hb; subst ho
    have c1 := hc i _ (WC_get _ i hi1)
    have c2 := hc' i _ (WC_get _ i hi2)
    rw [c1] at c2
    injection c2 with c2
    injection c2 with _ c2
    omega
  rw [← Pl.val_digs M N M_two, ← Pl.val_digs M K M_two, e]
set_option maxRecDepth 100000 in
theorem Cmp_any (g k B B' N K : Nat) (w : World) (h1 : IntAt w g B false N) (h2 : IntAt w k B' false K) (hla : (Pl.digs M N).length ≤ 900000) (hlb : (Pl.digs M K).length ≤ 900000) :
    Calls Tryz.prog 122 #[.pointer (some ⟨g, 0, none⟩), .pointer (some ⟨k, 0, none⟩)] w fun e w' => e = .returned (.int .i64 (Pl.cmpN N K)) ∧ ∃ q, w' = w.drewN q := by
  by_cases hgk : g = k
  · subst hgk
    have hNK := h1.same h2
    subst hNK
    have hq := fun w => ptr_eq_same ⟨g, 0, none⟩ w
    have HR := Lib.hid (Pl.cmpN_eq N)
    clear h1 h2
    go_enter Tryz.func122, Tryz.ntmps122
    go_wp2
    go_ret
    exact ⟨ret_int HR.out.symm, 0, rfl⟩
  · obtain ⟨v1, b1, n1⟩ := h1
    obtain ⟨v2, b2, n2⟩ := h2
    have hq := ptr_eq_other hgk b1 b2
    obtain ⟨A1, c1, rfl⟩ := own_form n1
    obtain ⟨A2, c2, rfl⟩ := own_form n2
    have HC := Lib.hid (fun q => natCmp_any A1 A2 c1 c2 N K (w.drewN q) (Rd.of_own n1) (Rd.of_own n2) hla hlb)
    have x0 := b1.cell 0
    have x1 := b1.cell 1
    have y0 := b2.cell 0
    have y1 := b2.cell 1
    simp at x0 x1 y0 y1
    clear b1 b2 n1 n2
    go_enter Tryz.func122, Tryz.ntmps122
    go_wp2_with fail
    go_quiet (fail)
    generalize hn1 : nq = n1
    obtain ⟨W1, hW1⟩ : ∃ W1, w.drewN n1 = W1 := ⟨_, rfl⟩
    have p0 : W1.cell? ⟨g, 0, none⟩ = some (.bool false) := by rw [← hW1]; exact x0
    have p1 : W1.cell? ⟨g, 1, none⟩ = some (.slice A1 (Pl.digs M N).length c1) := by rw [← hW1]; exact x1
    have q0 : W1.cell? ⟨k, 0, none⟩ = some (.bool false) := by rw [← hW1]; exact y0
    have q1 : W1.cell? ⟨k, 1, none⟩ = some (.slice A2 (Pl.digs M K).length c2) := by rw [← hW1]; exact y1
    have HC1 : Hid (∀ n, Calls Tryz.prog 143 #[.slice A1 (Pl.digs M N).length c1, .slice A2 (Pl.digs M K).length c2] (W1.drewN n) fun e w'' => e = .returned (.int .i64 (Pl.cmpN N K)) ∧ ∃ m, w'' = W1.drewN m) := Lib.hid fun n => by
      rw [← hW1, World.drewN_drewN]
      refine (HC.out _).mono ?_
      rintro e w' ⟨rfl, q, rfl⟩
      exact ⟨rfl, n + q, by simp only [World.drewN_drewN, Nat.add_assoc]⟩
    rw [hW1]
    have HW1 := Lib.hid hW1
    clear hW1 x0 x1 y0 y1
    go_wp2_with fail
    go_quiet ((go_at_call 143; exact HC1.out _))
    go_wp2_with fail
    go_ret
    exact ⟨rfl, n1 + nq, by rw [← HW1.out, World.drewN_drewN]⟩
def PkgVars (w : World) (pe pn pi : Addr) : Prop := ScanVars w pe pn ∧ w.cell? ⟨1, 0, none⟩ = some (.iface 305 (.pointer (some pi)))
theorem PkgVars.below {w w' : World} {pe pn pi : Addr} (h : PkgVars w pe pn pi) (hb : Below w.heap.size w w') : PkgVars w' pe pn pi :=
  ⟨⟨(hb.cell (World.block_lt_of_cell? w _ h.1.1)).trans h.1.1, (hb.cell (World.block_lt_of_cell? w _ h.1.2)).trans h.1.2⟩, (hb.cell (World.block_lt_of_cell? w _ h.2)).trans h.2⟩
theorem PkgVars.lt {w : World} {pe pn pi : Addr} (h : PkgVars w pe pn pi) : 8 < w.heap.size := World.block_lt_of_cell? w _ h.1.2
theorem FrB.below {B Z : Nat} {w W w' : World} (h : FrB B Z W w') (hW : Below B w W) (hZ : B ≤ Z) : Below B w w' :=
  ⟨h.os.trans hW.os, h.tape.trans hW.tape, h.output.trans hW.output, Nat.le_trans hW.size h.size, fun k hk => (h.block k hk (by omega)).trans (hW.block k hk)⟩
theorem FrB.mono {B B' Z : Nat} {w w' : World} (h : FrB B Z w w') (hB : B' ≤ B) : FrB B' Z w w' := ⟨h.os, h.tape, h.output, h.size, fun k hk => h.block k (by omega)⟩
def BigBack (w : World) (s : ByteArray) (pi : Addr) (e : Ending) (w' : World) : Prop :=
  Below w.heap.size w w' ∧ ((Pl.allDig s.data.toList = true ∧ ∃ Z B, w.heap.size ≤ Z ∧ Z < B ∧ e = .returned (.tuple #[.pointer (some ⟨Z, 0, none⟩), .nilIface]) ∧ IntAt w' Z B false (Pl.natOf s.data.toList)) ∨
    (Pl.allDig s.data.toList = false ∧ e = .returned (.tuple #[.pointer none, .iface 305 (.pointer (some pi))])))
set_option maxRecDepth 100000 in
theorem convertToBigInt_any (s : ByteArray) (pe pn pi : Addr) (w : World) (hs : s.size ≤ 30000) (hV : PkgVars w pe pn pi) (hk : Pl.idKnown1 s.data.toList = true) :
    Calls Tryz.prog 144 #[.string s] w (BigBack w s pi) := by
  have h8 := hV.lt
  obtain ⟨W, hW⟩ : ∃ W, w.alloc (.cells #[.bool false, .slice none 0 0] 128) = W := ⟨_, rfl⟩
  have hbW : Below w.heap.size w W := by rw [← hW]; exact (Below.refl _ _).alloc (Nat.le_refl _) _
  have hVW := hV.below hbW
  have hZW : Blk W w.heap.size 128 #[.bool false, .slice none 0 0] := by rw [← hW]; exact Blk.new _ _ _
  have hsW : W.heap.size = w.heap.size + 1 := by rw [← hW]; simp
  have HC := Lib.hid (SetString_any w.heap.size s pe pn W hs hVW.1 h8 hZW hk)
  have HW := Lib.hid hW
  clear hW hV hZW
  go_enter Tryz.func144, Tryz.ntmps144
  go_wp2_with fail
  rw [HW.out]
  refine HC.out.mono ?_; rintro e w1 ⟨hF, ⟨ha, rfl, hI⟩ | ⟨ha, rfl⟩⟩
  · have HA := Lib.hid ha
    clear ha
    go_wp2
    refine bodyPost_ret (v := .tuple #[.pointer (some ⟨w.heap.size, 0, none⟩), .nilIface]) (by simp [results, Tryz.results144, go_sem]) rfl ⟨(hF.mono (by omega)).below hbW (Nat.le_refl _), Or.inl ⟨HA.out, _, _, Nat.le_refl _, by omega, rfl, hI⟩⟩
  · have HA := Lib.hid ha
    clear ha
    have hb1 : Below w.heap.size w w1 := (hF.mono (by omega)).below hbW (Nat.le_refl _)
    have hpi : w1.cell? ⟨1, 0, none⟩ = some (.iface 305 (.pointer (some pi))) := hF.cell hVW.2 (by simp; omega) (by simp; omega)
    go_wp2_with fail
    go_quiet (fail)
    go_wp2
    refine bodyPost_ret (v := .tuple #[.pointer none, .iface 305 (.pointer (some pi))]) (by simp [results, Tryz.results144, go_sem]) rfl ⟨below_drewN hb1 _, Or.inr ⟨HA.out, rfl⟩⟩
end Go.Proofs.YtgfkdjmoflbmdaaGreatDoor
