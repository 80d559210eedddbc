/- Contracts: numbers by their magnitudes. Contract: spec.LikeParse. Contracts: BuildKnown, Identifiers, Builds. -/
import Derived.Test.YtgfkdjmoflbmdaaGreatDoorMXhxWc
import Derived.Deep.RegionHeld3
import Derived.Deep.QuietTactic
import Derived.BigQuiet
import Derived.Handy
import Derived.Deep.DeepCutAuto
import Derived.Deep.CutBlock
import Derived.Test.YtgfkdjmoflbmdaaGreatDoorMWbxWf
import Derived.Deep.RegionLaw
namespace Go.Proofs.YtgfkdjmoflbmdaaGreatDoor
open Go.RowKit
open Go.Proofs

/-- no zero byte ahead -/
def NoZ (s : ByteArray) : Prop := ∀ h : 0 < s.size, ((s[0].toNat : Int) == 0) = false

theorem numTidy_any (s : ByteArray) (w : World) (_hs : s.size ≤ 30000) (hno : NoZ s) :
    Calls Tryz.prog 103 #[.agg #[.bool false, .string s]] w fun e w' => e = .returned (.agg #[.bool false, .string s]) ∧ Below w.heap.size w w' := by
  by_cases h0 : 0 < s.size
  · have h1 := hno h0
    clear hno
    go_enter Tryz.func103, Tryz.ntmps103
    go_wp2
    apply wp_loop_once
    go_wp2
    exact bodyPost_ret (v := .agg #[.bool false, .string s]) (by simp [results, Tryz.results103, go_sem]) rfl ⟨rfl, by go_grown⟩
  · clear hno
    go_enter Tryz.func103, Tryz.ntmps103
    go_wp2
    apply wp_loop_once
    go_wp2
    exact bodyPost_ret (v := .agg #[.bool false, .string s]) (by simp [results, Tryz.results103, go_sem]) rfl ⟨rfl, by go_grown⟩

theorem IntOK_any (s : ByteArray) (w : World) (hs : s.size ≤ 30000) (hno : NoZ s) :
    Calls Tryz.prog 82 #[.agg #[.bool false, .string s]] w fun e w' => e = .returned (.bool true) ∧ Below w.heap.size w w' := by
  go_enter Tryz.func82, Tryz.ntmps82
  go_wp2
  have hc0 : (w.alloc (.cells #[.bool false, .string s] 46)).cell? ⟨w.heap.size, 0, none⟩ = some (.bool false) := by simp [go_sem]
  have hc1 : (w.alloc (.cells #[.bool false, .string s] 46)).cell? ⟨w.heap.size, 1, none⟩ = some (.string s) := by simp [go_sem]
  have hbW : Below w.heap.size w (w.alloc (.cells #[.bool false, .string s] 46)) := by go_grown
  have hlt : w.heap.size < (w.alloc (.cells #[.bool false, .string s] 46)).heap.size := by simp
  generalize w.alloc (.cells #[.bool false, .string s] 46) = W at hc0 hc1 hbW hlt ⊢
  go_region_held3 (fun w' => w'.cell? ⟨w.heap.size, 0, none⟩ = some (.bool false) ∧ w'.cell? ⟨w.heap.size, 1, none⟩ = some (.string s)) (first | go_keep | exact ⟨(hk1 _ _ hlt).trans hc0, (hk1 _ _ hlt).trans hc1⟩)
    (first | (go_at_call 103; refine (numTidy_any _ _ hs hno).mono ?_; rintro e w1 ⟨rfl, hb1⟩; obtain ⟨hk1, hk2⟩ := bcell hb1; have hz1 := hb1.size))
  go_wp2
  go_ret
  exact ⟨rfl, hbW.drew.trans (hb1.mono (Nat.le_of_lt hlt))⟩

/-- the cells of a list of whole numbers from 0 on -/
def IntC (ns : List Nat) : List Value := ns.flatMap fun n => [.bool false, S (Pl.magOf n)]
theorem IntC_len (ns : List Nat) : (IntC ns).length = ns.length * 2 := by
  induction ns with
  | nil => rfl
  | cons n r ih => simp only [IntC, List.flatMap_cons, List.length_append, List.length_cons, List.length_nil] at ih ⊢; omega
theorem IntC_get (ns : List Nat) : ∀ k (h : k < ns.length), (IntC ns)[k * 2]? = some (.bool false) ∧ (IntC ns)[k * 2 + 1]? = some (S (Pl.magOf ns[k])) := by
  induction ns with
  | nil => intro k h; simp at h
  | cons n r ih =>
    intro k h
    cases k with
    | zero => simp [IntC]
    | succ k =>
      have := ih k (by simpa using h)
      have e : IntC (n :: r) = .bool false :: S (Pl.magOf n) :: IntC r := by simp [IntC]
      rw [e, show (k + 1) * 2 = k * 2 + 1 + 1 from by omega]
      simpa using this
theorem Rd.int_at {w : World} {A : Option Addr} {ns : List Nat} (h : Rd w 2 A ns.length (IntC ns)) {k : Nat} (hk : k < ns.length) :
    ∃ b o, A = some ⟨b, o, none⟩ ∧ w.cell? ⟨b, o + k * 2, none⟩ = some (.bool false) ∧ w.cell? ⟨b, o + k * 2 + 1, none⟩ = some (S (Pl.magOf ns[k])) := by
  obtain ⟨b, o, hA, hc⟩ := h.2 (by omega)
  obtain ⟨h1, h2⟩ := IntC_get ns k hk
  exact ⟨b, o, hA, hc _ _ h1, hc _ _ h2⟩
theorem NoZ_mag (n : Nat) : NoZ ⟨(Pl.magOf n).toArray⟩ := by
  intro h
  have hg := get_list ⟨(Pl.magOf n).toArray⟩ 0 h
  have := Pl.magOf_head n _ hg
  rw [beq_eq_false_iff_ne]
  omega

theorem IntsOK_any (A : Option Addr) (c : Nat) (ns : List Nat) (w : World) (hr : Rd w 2 A ns.length (IntC ns)) (hl : ns.length ≤ 30000) (hm : ∀ n ∈ ns, (Pl.magOf n).length ≤ 30000) :
    Calls Tryz.prog 95 #[.slice A ns.length c] w fun e w' => e = .returned (.bool true) ∧ Below w.heap.size w w' := by
  go_enter Tryz.func95, Tryz.ntmps95
  go_wp2
  go_loopw [3] (fun i wr => ∃ k : Nat, k ≤ ns.length ∧ i = .int .i64 k ∧ Below w.heap.size w wr) (fun i _ => ns.length - (intOf i).toNat)
  case atStart => exact ⟨0, Nat.zero_le _, rfl, Below.refl _ _⟩
  case round =>
    obtain ⟨k, hk, rfl, hbel⟩ := hrel
    by_cases hlt : k < ns.length
    · have hr2 := hr.below hbel
      obtain ⟨b, o, rfl, hc0, hc1⟩ := hr2.int_at hlt
      have hmk := hm ns[k] (List.getElem_mem hlt)
      have HM := Lib.hid hm
      clear hm
      go_wp2_with (go_at_call 82; refine (IntOK_any ⟨(Pl.magOf ns[k]).toArray⟩ _ hmk (NoZ_mag _)).mono ?_; rintro e w1 ⟨rfl, hb1⟩)
      go_roundw
      case rel => exact ⟨k + 1, by omega, by go_num, hbel.trans (hb1.mono hbel.size)⟩
      case measure => simp [intOf]; omega
    · go_wp2
      go_ret
      exact ⟨rfl, hbel⟩

/-- two numbers in blocks b and b + 1 -/
def TwoI (b : Nat) (x y : ByteArray) (w w' : World) : Prop := (w'.cell? ⟨b, 0, none⟩ = some (.bool false) ∧ w'.cell? ⟨b, 1, none⟩ = some (.string x) ∧ w'.cell? ⟨b + 1, 0, none⟩ = some (.bool false) ∧ w'.cell? ⟨b + 1, 1, none⟩ = some (.string y)) ∧
  Blk w' b 46 #[.bool false, .string x] ∧ Blk w' (b + 1) 46 #[.bool false, .string y] ∧ Below b w w'
theorem TwoI.mk {b : Nat} {x y : ByteArray} {w w' : World} (h1 : Blk w' b 46 #[.bool false, .string x]) (h2 : Blk w' (b + 1) 46 #[.bool false, .string y]) (h3 : Below b w w') : TwoI b x y w w' :=
  ⟨⟨by simpa using h1.cell 0, by simpa using h1.cell 1, by simpa using h2.cell 0, by simpa using h2.cell 1⟩, h1, h2, h3⟩
theorem TwoI.drew {b : Nat} {x y : ByteArray} {w w' : World} (h : TwoI b x y w w') : TwoI b x y w w'.drew := .mk h.2.1.drew h.2.2.1.drew h.2.2.2.drew
theorem TwoI.below {b : Nat} {x y : ByteArray} {w w' w1 : World} (h : TwoI b x y w w') (hb : Below w'.heap.size w' w1) : TwoI b x y w w1 :=
  .mk (h.2.1.below hb h.2.1.lt) (h.2.2.1.below hb h.2.2.1.lt) (h.2.2.2.trans (hb.mono (Nat.le_of_lt h.2.1.lt)))
theorem TwoI.set1 {b : Nat} {x y : ByteArray} {w w' : World} (h : TwoI b x y w w') : TwoI b x y w ((w'.setCell ⟨b, 0, none⟩ (.bool false)).setCell ⟨b, 1, none⟩ (.string x)) :=
  .mk ((h.2.1.set_ 0 _).set_ 1 _) ((h.2.2.1.far (by simp) _).far (by simp) _) ((h.2.2.2.setCell (Nat.le_refl _) _).setCell (Nat.le_refl _) _)
theorem TwoI.set2 {b : Nat} {x y : ByteArray} {w w' : World} (h : TwoI b x y w w') : TwoI b x y w ((w'.setCell ⟨b + 1, 0, none⟩ (.bool false)).setCell ⟨b + 1, 1, none⟩ (.string y)) :=
  .mk ((h.2.1.far (by simp) _).far (by simp) _) ((h.2.2.1.set_ 0 _).set_ 1 _) ((h.2.2.2.setCell (by simp) _).setCell (by simp) _)

theorem TwoI.all {b : Nat} {x y : ByteArray} {w w' : World} (h : TwoI b x y w w') : w'.cell? ⟨b, 0, none⟩ = some (.bool false) ∧ w'.cell? ⟨b, 1, none⟩ = some (.string x) ∧ w'.cell? ⟨b + 1, 0, none⟩ = some (.bool false) ∧ w'.cell? ⟨b + 1, 1, none⟩ = some (.string y) ∧
    w'.frozen? ⟨b, 0, none⟩ = false ∧ w'.frozen? ⟨b, 1, none⟩ = false ∧ w'.frozen? ⟨b + 1, 0, none⟩ = false ∧ w'.frozen? ⟨b + 1, 1, none⟩ = false ∧ TwoI b x y w w' :=
  ⟨h.1.1, h.1.2.1, h.1.2.2.1, h.1.2.2.2, h.2.1.frozen 0, h.2.1.frozen 1, h.2.2.1.frozen 0, h.2.2.1.frozen 1, h⟩

set_option maxHeartbeats 1000000 in
theorem intOrder_any (a b : ByteArray) (w : World) (ha : a.size ≤ 30000) (hb : b.size ≤ 30000) (hna : NoZ a) (hnb : NoZ b) :
    Calls Tryz.prog 104 #[.agg #[.bool false, .string a], .agg #[.bool false, .string b]] w fun e w' =>
      e = .returned (.int .i64 (Pl.ordMag a.data.toList b.data.toList)) ∧ Below w.heap.size w w' := by
  go_enter Tryz.func104, Tryz.ntmps104
  go_upto_region 1 with fail
  have hT : TwoI w.heap.size a b w ((w.alloc (.cells #[.bool false, .string a] 46)).alloc (.cells #[.bool false, .string b] 46)) := by
    refine .mk ((Blk.new _ _ _).alloc _) ?_ (by go_grown)
    have := Blk.new (w.alloc (.cells #[.bool false, .string a] 46)) 46 #[.bool false, .string b]
    rw [World.size_alloc] at this
    exact this
  generalize (w.alloc (.cells #[.bool false, .string a] 46)).alloc (.cells #[.bool false, .string b] 46) = W at hT ⊢
  go_cut [4] (fun s4 wx => s4 = .int .i64 0 ∧ TwoI w.heap.size a b w wx)
  case first =>
    go_region_held3 (fun w' => w'.cell? ⟨w.heap.size, 0, none⟩ = some (.bool false) ∧ w'.cell? ⟨w.heap.size, 1, none⟩ = some (.string a) ∧ w'.cell? ⟨w.heap.size + 1, 0, none⟩ = some (.bool false) ∧ w'.cell? ⟨w.heap.size + 1, 1, none⟩ = some (.string b) ∧ w'.frozen? ⟨w.heap.size, 0, none⟩ = false ∧ w'.frozen? ⟨w.heap.size, 1, none⟩ = false ∧ w'.frozen? ⟨w.heap.size + 1, 0, none⟩ = false ∧ w'.frozen? ⟨w.heap.size + 1, 1, none⟩ = false ∧ TwoI w.heap.size a b w w')
      (first | with_reducible exact hT.all | with_reducible exact hT.drew.all | with_reducible exact (TwoI.below (‹_ ∧ _ ∧ _ ∧ _ ∧ _ ∧ _ ∧ _ ∧ _ ∧ TwoI _ _ _ _ _›).2.2.2.2.2.2.2.2 hb1).all | with_reducible exact (TwoI.set1 (‹_ ∧ _ ∧ _ ∧ _ ∧ _ ∧ _ ∧ _ ∧ _ ∧ TwoI _ _ _ _ _›).2.2.2.2.2.2.2.2).all | with_reducible exact (TwoI.set2 (‹_ ∧ _ ∧ _ ∧ _ ∧ _ ∧ _ ∧ _ ∧ _ ∧ TwoI _ _ _ _ _›).2.2.2.2.2.2.2.2).all)
      (first
        | (go_at_call_of 103 (Value.agg #[Value.bool false, Value.string a]); refine (numTidy_any a _ ha hna).mono ?_; rintro e w1 ⟨rfl, hb1⟩)
        | (go_at_call_of 103 (Value.agg #[Value.bool false, Value.string b]); refine (numTidy_any b _ hb hnb).mono ?_; rintro e w1 ⟨rfl, hb1⟩))
    all_goals (go_wp2_with fail; go_meet; exact ⟨rfl, (‹_ ∧ _ ∧ _ ∧ _ ∧ _ ∧ _ ∧ _ ∧ _ ∧ TwoI _ _ _ _ _›).2.2.2.2.2.2.2.2⟩)
  case rest =>
    obtain ⟨rfl, hT2⟩ := hcut
    obtain ⟨h1, h2, h3, h4, _, _, _, _, hT3⟩ := hT2.all
    have hbel := hT3.2.2.2
    clear hT hT2 hT3
    by_cases he : a.size = b.size
    · have he1 : ((a.size : Int) != (b.size : Int)) = false := by simp [he]
      have HE := Lib.hid he
      clear he
      go_wp2_with (first | (go_at_call 62; refine (order_any _ _ _).mono ?_; rintro e w' ⟨rfl, rfl⟩) | (go_at_call 73; refine (orderInts_any _ _ _).mono ?_; rintro e w' ⟨rfl, rfl⟩))
      go_ret
      exact ⟨ret_int (by rw [Pl.ordMag, len_list, len_list, if_pos HE.out]), hbel⟩
    · have he1 : ((a.size : Int) != (b.size : Int)) = true := by rw [bne_iff_ne]; omega
      go_wp2_with (first | (go_at_call 62; refine (order_any _ _ _).mono ?_; rintro e w' ⟨rfl, rfl⟩) | (go_at_call 73; refine (orderInts_any _ _ _).mono ?_; rintro e w' ⟨rfl, rfl⟩))
      go_ret
      exact ⟨ret_int (by rw [Pl.ordMag, len_list, len_list, if_neg he]), hbel⟩
end Go.Proofs.YtgfkdjmoflbmdaaGreatDoor

namespace Go.Proofs.YtgfkdjmoflbmdaaGreatDoor
open Go.RowKit
open Go.Proofs

theorem startsV_empty {s : ByteArray} (h : s.toList = []) : Pl.startsV s.data.toList = false := by
  rw [toList_eq] at h
  rw [h]; rfl
theorem startsV_pos {s : ByteArray} (h0 : 0 < s.size) : Pl.startsV s.data.toList = ((s[0].toNat : Int) == 118) := by
  unfold Pl.startsV
  rw [get_list s 0 h0, Bool.eq_iff_iff]
  simp only [Option.some_beq_some, beq_iff_eq]
  rw [← UInt8.toNat_inj, show (118 : UInt8).toNat = 118 from rfl]; omega
theorem restV_no {s : ByteArray} (h : Pl.startsV s.data.toList = false) : Pl.restV s.data.toList = s.data.toList := by
  by_cases h0 : 0 < s.size
  · rw [startsV_pos h0] at h
    rw [list_cons s h0]
    show (if s[0] = 118 then _ else _) = _
    rw [if_neg]
    rw [beq_eq_false_iff_ne] at h
    intro e
    apply h
    rw [e]; rfl
  · have : s.data.toList = [] := List.eq_nil_of_length_eq_zero (by rw [len_list]; omega)
    rw [this]; rfl
theorem startsV_size {s : ByteArray} (h : Pl.startsV s.data.toList = true) : 0 < s.size := by
  rcases Nat.eq_zero_or_pos s.size with h0 | h0
  · have : s.data.toList = [] := List.eq_nil_of_length_eq_zero (by rw [len_list]; omega)
    rw [this] at h; cases h
  · exact h0
theorem restV_yes {s : ByteArray} (h : Pl.startsV s.data.toList = true) : Pl.restV s.data.toList = (s.extract 1 s.size).data.toList := by
  have h0 := startsV_size h
  rw [startsV_pos h0] at h
  rw [list_cons s h0]
  show (if s[0] = 118 then _ else _) = _
  rw [if_pos]
  rw [beq_iff_eq] at h
  exact UInt8.toNat_inj.1 (by rw [show (118 : UInt8).toNat = 118 from rfl]; omega)

theorem info46 : (Tryz.prog.info? 46).map (fun i => (i.zero, i.size, i.bytes)) = some (some (.agg #[.bool false, .string ⟨#[]⟩]), 2, 24) := by kernel_rfl
/-- append(v, x): x of two cells, laid in a new block just before; at a step of a region that draws. -/
theorem step_app2 {P : Program} {w1 : World} {ops : Array Oper} {o : Oper} {a : Act} {K : Act → World → Prop} {Q : Exit → Act → World → Prop} {E : Prop} (hgd : o.guard = none) (s x : Operand) (t : TypeId)
    (ho : o.op = .call { callee := .builtin .append, args := #[s, x], argTypes := #[t, t] })
    (base : Nat) (e : TypeId) (i : TypeInfo) (z : Value) (bytes : Nat) (ht : P.underlying t = some (.slice e)) (hi : P.info? e = some i) (hz : i.zero = some z)
    (hsize : i.size = 2) (hby : i.bytes = bytes) (hzs : z.cells.size = 2)
    (v : Value) (n : Nat) (xs : List Value) (hs : a.eval s = v) (hown : w1.ownsRow base e 2 v n xs)
    (u1 u2 : Value) (hx : a.eval x = .slice (some ⟨w1.heap.size, 0, none⟩) 1 1) (h1 : u1.oneCell' = true) (h2 : u2.oneCell' = true) (hbt : bytes ≤ 64) (hn : n ≤ 1000000) (hbase : base ≤ w1.heap.size)
    (h : ∀ g cap w', w'.ownsRow base e 2 (.slice (some ⟨g, 0, none⟩) (n + 1) cap) (n + 1) (xs ++ [u1, u2]) → w1.grownBy w' v.ownBlock → (v.ownBlock = some g ∨ w1.heap.size ≤ g) → Below base w1 w' →
      K (a.put o.dst (.slice (some ⟨g, 0, none⟩) (n + 1) cap)) w') :
    if Region.wanted o (yielded ops a.tmps) = true then Oper.wp P o a (w1.alloc (.cells #[u1, u2] e)) K Q else E := by
  have hbytes : (n + 1) * bytes ≤ 140737488355328 :=
    Nat.le_trans (Nat.mul_le_mul (show n + 1 ≤ 1000001 by omega) hbt) (by omega)
  refine step_append_lies (w1.alloc (.cells #[u1, u2] e)) hgd s x t ho base e i z 2 bytes ht hi hz hsize hby hzs (by omega) v n xs hs (hown.alloc _) ⟨w1.heap.size, 0, none⟩ 1 1 [u1, u2] hx rfl
    (World.news_of_block (heap_alloc_new w1 _)) (by simp [h1, h2]) (by omega) (by unfold maxLen; omega) hbytes (by simp; omega) (w1.heap.size + 1) (by simp) ?_
  intro g cap w' hown' hg hat _
  have hg2 : w1.grownBy w' v.ownBlock := ⟨hg.os, hg.tape, hg.output, Nat.le_trans (by simp) hg.size, fun k hk hne => (hg.block k (by simp; omega) hne).trans (Below.heap_alloc _ _ _ hk)⟩
  refine h g cap w' hown' hg2 (hat.imp id (by omega)) ?_
  exact (Below.refl base w1).grown hg2 hbase (fun k hk => (hown.lt k hk).1)

/-- the result's block, the version's block -/
def LPst (w : World) (wx : World) (v : Bool) (C : Value) (bd og : Value) : Prop :=
  Blk wx w.heap.size 27 #[.bool false, .slice none 0 0, .string ⟨#[]⟩, .string ⟨#[]⟩] ∧ Blk wx (w.heap.size + 1) 27 #[.bool v, C, bd, og] ∧ Below w.heap.size w wx

set_option maxRecDepth 100000 in
set_option maxHeartbeats 4000000 in
theorem LikeParse_any (s : ByteArray) (w : World) (hs : s.size ≤ 30000) :
    Calls Tryz.prog 17 #[.string s] w fun e w' => ∃ A c, e = .returned (.agg #[.bool (Pl.startsV s.data.toList), .slice A (Pl.numsOf s.data.toList).length c, S (Pl.buildOf s.data.toList), .string s]) ∧
      w'.ownsRow w.heap.size 46 2 (.slice A (Pl.numsOf s.data.toList).length c) (Pl.numsOf s.data.toList).length (IntC (Pl.numsOf s.data.toList)) ∧ Below w.heap.size w w' := by
  go_enter Tryz.func17, Tryz.ntmps17
  go_upto_region 2 with (fail)
  have hst : LPst w ((w.alloc (.cells #[.bool false, .slice none 0 0, .string ⟨#[]⟩, .string ⟨#[]⟩] 27)).alloc (.cells #[.bool false, .slice none 0 0, .string ⟨#[]⟩, .string s] 27)) false (.slice none 0 0) (.string ⟨#[]⟩) (.string s) := by
    refine ⟨(Blk.new _ _ _).alloc _, ?_, by go_grown⟩
    have := Blk.new (w.alloc (.cells #[.bool false, .slice none 0 0, .string ⟨#[]⟩, .string ⟨#[]⟩] 27)) 27 #[.bool false, .slice none 0 0, .string ⟨#[]⟩, .string s]
    rw [World.size_alloc] at this
    exact this
  generalize (w.alloc (.cells #[.bool false, .slice none 0 0, .string ⟨#[]⟩, .string ⟨#[]⟩] 27)).alloc (.cells #[.bool false, .slice none 0 0, .string ⟨#[]⟩, .string s] 27) = W at hst ⊢
  go_cut [15] (fun s15 wx => s15 = .bool (Pl.startsV s.data.toList) ∧ wx = W)
  case first =>
    by_cases he : s.toList = []
    · have hv := startsV_empty he
      go_wp2_with fail
      go_meet
      exact ⟨by rw [hv], rfl⟩
    · have h0 : 0 < s.size := by rw [toList_eq] at he; rw [← len_list]; exact List.length_pos_iff.2 he
      have hv := startsV_pos h0
      have HV := Lib.hid hv
      clear hv
      have he1 : s.toList.isEmpty = false := by simpa using he
      clear he
      go_wp2_with fail
      go_meet
      exact ⟨by rw [HV.out], rfl⟩
  case rest =>
    obtain ⟨rfl, rfl⟩ := hcut
    go_upto_if 15 with (fail)
    go_cut [0] (fun s0 wx => ∃ t : ByteArray, s0 = .string t ∧ t.data.toList = Pl.restV s.data.toList ∧ t.size ≤ 30000 ∧ LPst w wx (Pl.startsV s.data.toList) (.slice none 0 0) (.string ⟨#[]⟩) (.string s))
    case first =>
      obtain ⟨hb1, hb2, hb3⟩ := hst
      have hc0 := hb2.cell 0
      have hf0 := hb2.frozen 0
      simp at hc0
      cases hv : Pl.startsV s.data.toList with
      | true =>
        have h0 := startsV_size hv
        go_wp2
        go_region
        all_goals go_wp2_with fail
        all_goals go_meet
        all_goals exact ⟨s.extract 1 s.size, rfl, (restV_yes hv).symm, by rw [ByteArray.size_extract]; omega, Blk.drew (hb1.far (p := ⟨w.heap.size + 1, 0, none⟩) (by simp) (.bool true)), by rw [hv]; exact (hb2.set_ 0 (.bool true)).drew, (hb3.setCell (p := ⟨w.heap.size + 1, 0, none⟩) (by simp) (.bool true)).drew⟩
      | false =>
        go_wp2
        go_meet
        exact ⟨s, rfl, (restV_no hv).symm, hs, hb1, by rw [hv]; exact hb2, hb3⟩
    case rest =>
      obtain ⟨t, rfl, ht, hts, hst⟩ := hcut
      have HT := Lib.hid ht
      clear ht
      go_upto_block 0 with (fail)
      go_cut [4] (fun s4 wx => s4 = .int .i64 ((Pl.coreOf s.data.toList).length : Int) ∧ (Pl.coreOf s.data.toList).length ≤ t.size ∧ Pl.coreOf s.data.toList = t.data.toList.take (Pl.coreOf s.data.toList).length ∧ Pl.buildOf s.data.toList = t.data.toList.drop (Pl.coreOf s.data.toList).length ∧ wx = wc)
      case first =>
        go_wp2
        go_loop [4] (fun i => ∃ k : Nat, k ≤ t.size ∧ i = .int .i64 k ∧ (t.data.toList.take k).all Pl.coreB = true) (fun i => t.size - (intOf i).toNat)
        case atStart => exact ⟨0, Nat.zero_le _, rfl, rfl⟩
        case round =>
          obtain ⟨k, hk, rfl, ha⟩ := hrel
          have HA := Lib.hid ha
          clear ha
          by_cases hlt : k < t.size
          · have hg := get_list t k hlt
            have HG := Lib.hid hg
            clear hg
            by_cases hdig : Pl.isDig t[k] = true
            · go_wp2_with (go_at_call 48; refine (isDigit_byte _ _).mono ?_; rintro e w' ⟨rfl, rfl⟩)
              go_round
              case rel => exact ⟨k + 1, by omega, by go_num, all_take_step _ k _ HA.out HG.out (by rw [Pl.coreB, hdig]; rfl)⟩
              case measure => simp [intOf]; omega
            · have hdig1 : Pl.isDig t[k] = false := by simpa using hdig
              clear hdig
              by_cases hp : ((t[k].toNat : Int) == 46) = true
              · go_wp2_with (go_at_call 48; refine (isDigit_byte _ _).mono ?_; rintro e w' ⟨rfl, rfl⟩)
                go_round
                case rel =>
                  have hp2 : t[k] = 46 := by rw [beq_iff_eq] at hp; exact UInt8.toNat_inj.1 (by rw [show (46 : UInt8).toNat = 46 from rfl]; omega)
                  exact ⟨k + 1, by omega, by go_num, all_take_step _ k _ HA.out HG.out (by rw [Pl.coreB, hp2]; rfl)⟩
                case measure => simp [intOf]; omega
              · have hp1 : ((t[k].toNat : Int) == 46) = false := by simpa using hp
                clear hp
                go_wp2_with (go_at_call 48; refine (isDigit_byte _ _).mono ?_; rintro e w' ⟨rfl, rfl⟩)
                have hcb : Pl.coreB t[k] = false := by
                  rw [Pl.coreB, hdig1]
                  rw [beq_eq_false_iff_ne] at hp1
                  simp only [Bool.false_or, beq_eq_false_iff_ne]
                  intro e
                  apply hp1
                  rw [e]; rfl
                obtain ⟨h1, h2⟩ := Pl.while_at _ k HA.out (Or.inr ⟨_, HG.out, hcb⟩)
                rw [HT.out] at h1 h2
                have hlen : (Pl.coreOf s.data.toList).length = k := by
                  rw [Pl.coreOf, h1, List.length_take, ← HT.out, len_list]; omega
                go_meet
                exact ⟨by rw [hlen], by omega, by rw [hlen, HT.out]; exact h1, by rw [hlen, HT.out]; exact h2, rfl⟩
          · go_wp2
            obtain rfl : k = t.size := by omega
            obtain ⟨h1, h2⟩ := Pl.while_at _ t.size HA.out (Or.inl (len_list t).symm)
            rw [HT.out] at h1 h2
            have hlen : (Pl.coreOf s.data.toList).length = t.size := by
              rw [Pl.coreOf, h1, List.length_take, ← HT.out, len_list]; omega
            go_meet
            exact ⟨by rw [hlen], by omega, by rw [hlen, HT.out]; exact h1, by rw [hlen, HT.out]; exact h2, rfl⟩
      case rest =>
        obtain ⟨rfl, hcl, hcore, hbuild, rfl⟩ := hcut
        have HCORE := Lib.hid hcore
        have HBUILD := Lib.hid hbuild
        clear hcore hbuild
        obtain ⟨sv, hsv⟩ : ∃ sv, Pl.startsV s.data.toList = sv := ⟨_, rfl⟩
        rw [hsv] at hst
        have HSV := Lib.hid hsv
        clear hsv
        obtain ⟨x, hx⟩ : ∃ x, t.extract 0 (Pl.coreOf s.data.toList).length = x := ⟨_, rfl⟩
        have hxd : x.data.toList = Pl.coreOf s.data.toList := by rw [← hx, Lib.extract_data, Nat.sub_zero, List.drop_zero]; exact HCORE.out.symm
        have hxs : x.size ≤ 30000 := by rw [← len_list, hxd]; omega
        obtain ⟨cl, hcle⟩ : ∃ cl, (Pl.coreOf s.data.toList).length = cl := ⟨_, rfl⟩
        rw [hcle] at hx hcl ⊢
        have HCL := Lib.hid hcle
        clear hcle
        have hcut := cut_any x
        rw [hxd] at hcut
        obtain ⟨ps, hps⟩ : ∃ ps, Pl.splitB 46 (Pl.coreOf s.data.toList) = ps := ⟨_, rfl⟩
        rw [hps] at hcut
        have hpl : ps.length ≤ 30001 := by
          have := Pl.splitB_length 46 (Pl.coreOf s.data.toList)
          rw [hps, ← hxd, len_list] at this; omega
        have HPM : Hid (∀ p ∈ ps, p.length ≤ 30000 ∧ p.all Pl.isDig = true) := Lib.hid (by
          intro p hp
          rw [← hps] at hp
          obtain ⟨h1, h2⟩ := Pl.piece_digs _ p hp
          rw [← hxd, len_list] at h1
          exact ⟨by omega, h2⟩)
        have HPS := Lib.hid hps
        have HXD := Lib.hid hxd
        have HCUT := Lib.hid hcut
        clear hps hxd hcut
        obtain ⟨hb1, hb2, hb3⟩ := hst
        go_wp2_with fail
        refine (HCUT.out _ (by unfold lim; exact hxs)).mono ?_; rintro e w1 ⟨A, ca, rfl, hownp, hbp⟩
        go_wp2_with fail
        have hb1' := hb1.below hbp hb1.lt
        have hb2' := hb2.below hbp hb2.lt
        have hb3' : Below w.heap.size w w1 := hb3.trans (hbp.mono hb3.size)
        have hownp0 : w1.ownsRow 0 9 1 (.slice A ps.length ca) ps.length (ps.map S) := own_lower hownp (by omega)
        clear hb1 hb2 hb3 hbp hownp
        obtain ⟨iI, hiI, hzI0, hzI1, hzI2⟩ := info_parts info46
        go_loopw [6] (fun jv wr => ∃ (j : Nat) (C : Value) (ns : List Nat), j ≤ ps.length ∧ jv = .int .i64 (j : Int) ∧ ns = ((ps.take j).filter (fun p => !p.isEmpty)).map Pl.natOf ∧ Blk wr w.heap.size 27 #[.bool false, .slice none 0 0, .string ⟨#[]⟩, .string ⟨#[]⟩] ∧ Blk wr (w.heap.size + 1) 27 #[.bool sv, C, .string ⟨#[]⟩, .string s] ∧ wr.ownsRow (w.heap.size + 2) 46 2 C ns.length (IntC ns) ∧ wr.ownsRow 0 9 1 (.slice A ps.length ca) ps.length (ps.map S) ∧ Below w.heap.size w wr) (fun jv _ => ps.length - (intOf jv).toNat)
        case atStart => exact ⟨0, .slice none 0 0, [], Nat.zero_le _, rfl, rfl, hb1', hb2', World.ownsRow_nil _ _ _ _, hownp0, hb3'⟩
        case round =>
          obtain ⟨j, C, ns, hj, rfl, hns, hb1, hb2, hownC, hownp, hbel⟩ := hrel
          have HNS := Lib.hid hns
          clear hns
          by_cases hjl : j < ps.length
          · obtain ⟨b, o, rfl, hcP⟩ := (Rd.of_own hownp).str_at hjl
            obtain ⟨p, hp⟩ : ∃ p, ps[j] = p := ⟨_, rfl⟩
            rw [hp] at hcP
            have HP := Lib.hid hp
            clear hp
            have hcC := hb2.cell 1
            have hfC := hb2.frozen 1
            simp at hcC
            by_cases hpe : p = []
            · subst hpe
              go_wp2
              go_roundw
              case rel => exact ⟨j + 1, C, ns, by omega, by go_num, by rw [HNS.out, List.take_succ_eq_append_getElem hjl, HP.out]; simp, hb1, hb2, hownC, hownp, hbel⟩
              case measure => simp [intOf]; omega
            · have hpe1 : p.isEmpty = false := by simpa using hpe
              obtain ⟨hp1, hp2⟩ := HPM.out p (by rw [← HP.out]; exact List.getElem_mem _)
              have HPE := Lib.hid hpe1
              obtain ⟨l1, l2, l3, l4⟩ := cell_lts hcC
              obtain ⟨m1, m2, m3, m4⟩ := cell_lts hcP
              go_wp2_with fail
              have hneR := own_own_ne hownC hownp (by decide)
              have hneP := own_blk_ne hownp hb2 (by decide)
              clear hts HT HCORE HBUILD HSV hxs hx HCL HPM HPS HXD HCUT hb1' hb2' hb3' hownp0 hst
              have hnl : ns.length ≤ 1000000 := by
                have h := congrArg List.length HNS.out
                rw [List.length_map] at h
                have := List.length_filter_le (fun p : Pl.Bytes => !p.isEmpty) (ps.take j)
                rw [List.length_take] at this; omega
              have hownD : wr.drew.ownsRow (w.heap.size + 2) 46 2 C ns.length (IntC ns) := hownC
              have hb2D : Blk wr.drew (w.heap.size + 1) 27 #[.bool sv, C, .string ⟨#[]⟩, .string s] := hb2
              have hneC : some (w.heap.size + 1) ≠ C.ownBlock := (own_blk_ne hownC hb2 (by decide)).symm
              go_region_law (first | (refine step_app2 (w1 := w1) rfl (.tmp 53) (.tmp 59) 25 rfl (w.heap.size + 2) 46 iI _ 24 Tryz.underlying25 hiI hzI0 hzI1 hzI2 rfl C _ _ (by simp [Act.eval]) (own_below hownD hw1) _ _ (by simp [Act.eval]) rfl rfl (by omega) hnl (Nat.le_trans hb2D.lt hw1.size) ?_; intro g cap w2 hown2 hg2 hat2 hw2; have hB2 := (hb2D.below hw1 hb2D.lt).grown hg2 hneC; have hcE := hB2.cell 1; have hfE := hB2.frozen 1; simp at hcE) | (go_simp; go_at_call 51; refine (intOf_any ⟨p.toArray⟩ _ hp1 hp2).mono ?_; rintro e w1 ⟨rfl, hw1⟩; have hB1 := hb2D.below hw1 hb2D.lt; have hlt1 := hB1.lt; have hcG := hB1.cell 1; have hfG := hB1.frozen 1; simp at hcG))
              all_goals go_wp2
              all_goals
                go_roundw
                case rel =>
                  have hn1 := own_blk_ne hown2 hB2 (by decide)
                  have hb1D : Blk wr.drew w.heap.size 27 #[.bool false, .slice none 0 0, .string ⟨#[]⟩, .string ⟨#[]⟩] := hb1
                  have hownpD : wr.drew.ownsRow 0 9 1 (.slice (some ⟨b, o, none⟩) ps.length ca) ps.length (ps.map S) := hownp
                  have hbelD : Below w.heap.size w wr.drew := hbel.drew
                  refine ⟨j + 1, _, ns ++ [Pl.natOf p], by omega, by go_num, ?_, ((hb1D.below hw1 hb1D.lt).grown hg2 (own_blk_ne hownC hb1 (by decide)).symm).far (by simp) _, hB2.set_ 1 _, own_cast (own_far hown2 hn1 _) (by simp) (by simp [IntC]), own_far (own_grown (own_below hownpD hw1) hg2 hneR) hneP _, (hbelD.trans ((hw1.mono hbelD.size).trans (hw2.mono (by omega)))).setCell (by simp) _⟩
                  rw [HNS.out, List.take_succ_eq_append_getElem hjl, HP.out]
                  simp [hpe]
                case measure => simp [intOf]; omega
          · obtain rfl : j = ps.length := by omega
            obtain ⟨A2, c2, rfl⟩ := own_form hownC
            have hc0 := hb2.cell 0
            have hc1 := hb2.cell 1
            have hc2 := hb2.cell 2
            have hc3 := hb2.cell 3
            have hf2 := hb2.frozen 2
            have hd0 := hb1.cell 0
            have hd1 := hb1.cell 1
            have hd2 := hb1.cell 2
            have hd3 := hb1.cell 3
            have hg0 := hb1.frozen 0
            have hg1 := hb1.frozen 1
            have hg2 := hb1.frozen 2
            have hg3 := hb1.frozen 3
            simp at hc0 hc1 hc2 hc3 hd0 hd1 hd2 hd3
            have hne2 := own_blk_ne hownC hb2 (by decide)
            have hne1 := own_blk_ne hownC hb1 (by decide)
            go_wp2
            have hns : ns = Pl.numsOf s.data.toList := by rw [HNS.out, List.take_length, Pl.numsOf, HPS.out]
            have hbd : Value.string (t.extract cl t.size) = S (Pl.buildOf s.data.toList) := by
              rw [ext_S, HBUILD.out, HCL.out, List.take_of_length_le (by rw [List.length_drop, len_list]; exact Nat.le_refl _)]
            have hsv := HSV.out
            subst hns
            refine bodyPost_ret (v := .agg #[.bool sv, .slice A2 (Pl.numsOf s.data.toList).length c2, .string (t.extract cl t.size), .string s]) (by simp [results, Tryz.results17, go_sem, hd0, hd1, hd2, hd3]) rfl ⟨A2, c2, ?_, ?_, ?_⟩
            · rw [hsv, hbd]
            · exact own_far (own_far (own_far (own_far (own_far (own_lower hownC (by omega)) hne2 _) hne1 _) hne1 _) hne1 _) hne1 _
            · exact ((((hbel.setCell (by simp) _).setCell (by simp) _).setCell (by simp) _).setCell (by simp) _).setCell (by simp) _
end Go.Proofs.YtgfkdjmoflbmdaaGreatDoor

namespace Go.Proofs.YtgfkdjmoflbmdaaGreatDoor
open Go.RowKit
open Go.Proofs

theorem idents_len' (s : ByteArray) (hs : s.size ≤ 30000) : (Pl.idents s.data.toList).length ≤ 40000 := by
  have := Pl.idents_len s.data.toList
  rw [len_list] at this; omega
theorem idents_mem' (s : ByteArray) (hs : s.size ≤ 30000) : ∀ p ∈ Pl.idents s.data.toList, p.length ≤ 30000 := by
  intro p hp
  have := Pl.idents_mem s.data.toList p hp
  rw [len_list] at this; omega

theorem BuildKnown_any (s : ByteArray) (w : World) (hs : s.size ≤ 30000) :
    Calls Tryz.prog 45 #[.string s] w fun e w' => e = .returned (.bool (Pl.buildKnown s.data.toList)) ∧ Below w.heap.size w w' := by
  by_cases ha : Pl.ascii s.data.toList = true
  · have hl := idents_len' s hs
    have hm := idents_mem' s hs
    have HL := Lib.hid hl
    have HM := Lib.hid hm
    clear hl hm
    go_enter Tryz.func45, Tryz.ntmps45
    go_wp2_with (first
      | (go_at_call 43; refine (Ascii_any _ _ (by unfold maxLen; omega)).mono ?_; rintro e w' ⟨rfl, rfl⟩)
      | (go_at_call 84; refine (likeIdentifiers_any _ _ hs).mono ?_; rintro e w1 ⟨A, c, rfl, hown, hb⟩)
      | (go_at_call 83; refine (IdentifiersKnown_any _ _ _ _ (Rd.of_own hown) HL.out HM.out).mono ?_; rintro e w' ⟨rfl, rfl⟩))
    go_ret
    exact ⟨ret_bool (by simp [Pl.buildKnown, ha]), hb⟩
  · have ha1 : Pl.ascii s.data.toList = false := by simpa using ha
    clear ha
    go_enter Tryz.func45, Tryz.ntmps45
    go_wp2_with (first
      | (go_at_call 43; refine (Ascii_any _ _ (by unfold maxLen; omega)).mono ?_; rintro e w' ⟨rfl, rfl⟩))
    go_ret
    exact ⟨ret_bool (by simp [Pl.buildKnown, ha1]), Below.refl _ _⟩

set_option maxHeartbeats 2000000 in
theorem Identifiers_any (A B : Option Addr) (ca cb : Nat) (xs ys : List Pl.Bytes) (w : World) (hra : Rd w 1 A xs.length (xs.map S)) (hrb : Rd w 1 B ys.length (ys.map S))
    (hla : xs.length ≤ 40000) (_hlb : ys.length ≤ 40000) (hma : ∀ s ∈ xs, s.length ≤ 30000) (hmb : ∀ s ∈ ys, s.length ≤ 30000) :
    Calls Tryz.prog 105 #[.slice A xs.length ca, .slice B ys.length cb] w fun e w' => e = .returned (.int .i64 (Pl.identsCmp xs ys)) ∧ Below w.heap.size w w' := by
  have HMA := Lib.hid hma
  have HMB := Lib.hid hmb
  clear hma hmb
  go_enter Tryz.func105, Tryz.ntmps105
  go_wp2
  go_loopw [5] (fun i wr => ∃ k : Nat, k ≤ xs.length ∧ k ≤ ys.length ∧ i = .int .i64 k ∧ Pl.identsCmp (xs.drop k) (ys.drop k) = Pl.identsCmp xs ys ∧ Below w.heap.size w wr) (fun i _ => xs.length - (intOf i).toNat)
  case atStart => exact ⟨0, Nat.zero_le _, Nat.zero_le _, rfl, rfl, Below.refl _ _⟩
  case round =>
    obtain ⟨k, hka, hkb, rfl, hcmp, hbel⟩ := hrel
    have HC := Lib.hid hcmp
    clear hcmp
    by_cases ha : k < xs.length
    · by_cases hb : k < ys.length
      · obtain ⟨b1, o1, rfl, hc⟩ := (hra.below hbel).str_at ha
        obtain ⟨b2, o2, rfl, hd⟩ := (hrb.below hbel).str_at hb
        have hs1 := HMA.out xs[k] (List.getElem_mem ha)
        have hs2 := HMB.out ys[k] (List.getElem_mem hb)
        have hstep := Pl.identsCmp_step xs ys k ha hb
        obtain ⟨x, hx⟩ : ∃ x, xs[k] = x := ⟨_, rfl⟩
        obtain ⟨y, hy⟩ : ∃ y, ys[k] = y := ⟨_, rfl⟩
        rw [hx] at hc hs1 hstep
        rw [hy] at hd hs2 hstep
        have HS := Lib.hid hstep
        clear hstep hx hy
        obtain ⟨z, hz⟩ : ∃ z, Pl.idOne x y = z := ⟨_, rfl⟩
        have hcall : ∀ W : World, Calls Tryz.prog 74 #[S x, S y] W fun e w' => e = .returned (.int .i64 z) ∧ W = w' := by
          intro W
          rw [← hz]
          exact pageOne_any ⟨x.toArray⟩ ⟨y.toArray⟩ W (by unfold maxLen; rw [S_size]; omega) (by unfold maxLen; rw [S_size]; omega)
        rw [hz] at HS
        clear hz
        have HCALL := Lib.hid hcall
        clear hcall
        by_cases hz0 : z = 0
        · have hz1 : (z != 0) = false := by simp [hz0]
          have HZ0 := Lib.hid hz0
          clear hz0
          go_wp2
          go_quiet ((go_at_call 74; exact quiet_left (HCALL.out _)))
          go_wp2
          go_roundw
          case rel => exact ⟨k + 1, by omega, by omega, by go_num, by rw [← HC.out, HS.out, if_neg (by rw [HZ0.out]; simp)], below_drewN hbel _⟩
          case measure => simp [intOf]; omega
        · have hz1 : (z != 0) = true := by simpa using hz0
          have HZ0 := Lib.hid hz0
          clear hz0
          go_wp2
          go_quiet ((go_at_call 74; exact quiet_left (HCALL.out _)))
          go_wp2
          go_ret
          exact ⟨ret_int (by rw [← HC.out, HS.out, if_pos HZ0.out]), below_drewN hbel _⟩
      · go_wp2_with (go_at_call 73; refine (orderInts_any _ _ _).mono ?_; rintro e w' ⟨rfl, rfl⟩)
        go_ret
        exact ⟨ret_int (by rw [← HC.out, Pl.identsCmp_end _ _ _ (Or.inr (by omega)) hka hkb]), hbel⟩
    · go_wp2_with (go_at_call 73; refine (orderInts_any _ _ _).mono ?_; rintro e w' ⟨rfl, rfl⟩)
      go_ret
      exact ⟨ret_int (by rw [← HC.out, Pl.identsCmp_end _ _ _ (Or.inl (by omega)) hka hkb]), hbel⟩

theorem Builds_any (a b : ByteArray) (w : World) (ha : a.size ≤ 30000) (hb : b.size ≤ 30000) :
    Calls Tryz.prog 86 #[.string a, .string b] w fun e w' => e = .returned (.int .i64 (Pl.builds a.data.toList b.data.toList)) ∧ Below w.heap.size w w' := by
  have hla := idents_len' a ha
  have hma := idents_mem' a ha
  have hlb := idents_len' b hb
  have hmb := idents_mem' b hb
  have HMA := Lib.hid hma
  have HMB := Lib.hid hmb
  clear hma hmb
  obtain ⟨X, hX⟩ : ∃ X, Pl.idents a.data.toList = X := ⟨_, rfl⟩
  obtain ⟨Y, hY⟩ : ∃ Y, Pl.idents b.data.toList = Y := ⟨_, rfl⟩
  obtain ⟨R, hR⟩ : ∃ R, Pl.builds a.data.toList b.data.toList = R := ⟨_, rfl⟩
  rw [hR]
  have HR := Lib.hid hR
  clear hR
  have cX := likeIdentifiers_any a
  have cY := likeIdentifiers_any b
  have HX := Lib.hid hX
  have HY := Lib.hid hY
  rw [hX] at HMA hla cX
  rw [hY] at HMB hlb cY
  have CX := Lib.hid cX
  have CY := Lib.hid cY
  clear hX hY cX cY
  by_cases hx0 : X.length = 0
  · obtain rfl : X = [] := List.eq_nil_of_length_eq_zero hx0
    clear hx0
    by_cases hy0 : Y.length = 0
    · obtain rfl : Y = [] := List.eq_nil_of_length_eq_zero hy0
      clear hy0
      go_enter Tryz.func86, Tryz.ntmps86
      go_wp2_with fail
      refine (CX.out _ ha).mono ?_; rintro e w1 ⟨A, ca, rfl, hown1, hb1⟩
      go_wp2_with fail
      refine (CY.out _ hb).mono ?_; rintro e w2 ⟨B, cb, rfl, hown2, hb2⟩
      go_wp2_with fail
      all_goals
        refine (orderInts_any _ _ _).mono ?_; rintro e w3 ⟨rfl, rfl⟩
        go_wp2_with fail
        go_ret
        refine ⟨ret_int ?_, hb1.trans (hb2.mono hb1.size)⟩
        rw [← HR.out, Pl.builds, HX.out, HY.out, if_pos (.inl rfl)]
        congr 1 <;> (try simp only [List.length_nil]) <;> omega
    · have hy1 : 1 ≤ Y.length := by omega
      clear hy0
      go_enter Tryz.func86, Tryz.ntmps86
      go_wp2_with fail
      refine (CX.out _ ha).mono ?_; rintro e w1 ⟨A, ca, rfl, hown1, hb1⟩
      go_wp2_with fail
      refine (CY.out _ hb).mono ?_; rintro e w2 ⟨B, cb, rfl, hown2, hb2⟩
      go_wp2_with fail
      all_goals
        refine (orderInts_any _ _ _).mono ?_; rintro e w3 ⟨rfl, rfl⟩
        go_wp2_with fail
        go_ret
        refine ⟨ret_int ?_, hb1.trans (hb2.mono hb1.size)⟩
        rw [← HR.out, Pl.builds, HX.out, HY.out, if_pos (.inl rfl)]
        congr 1 <;> (try simp only [List.length_nil]) <;> omega
  · by_cases hy0 : Y.length = 0
    · obtain rfl : Y = [] := List.eq_nil_of_length_eq_zero hy0
      have hx1 : ((X.length : Int) == 0) = false := by rw [beq_eq_false_iff_ne]; omega
      have hx2 : 1 ≤ X.length := by omega
      clear hx0 hy0
      go_enter Tryz.func86, Tryz.ntmps86
      go_wp2_with fail
      refine (CX.out _ ha).mono ?_; rintro e w1 ⟨A, ca, rfl, hown1, hb1⟩
      go_wp2_with fail
      refine (CY.out _ hb).mono ?_; rintro e w2 ⟨B, cb, rfl, hown2, hb2⟩
      go_wp2_with fail
      all_goals
        refine (orderInts_any _ _ _).mono ?_; rintro e w3 ⟨rfl, rfl⟩
        go_wp2_with fail
        go_ret
        refine ⟨ret_int ?_, hb1.trans (hb2.mono hb1.size)⟩
        rw [← HR.out, Pl.builds, HX.out, HY.out, if_pos (.inr rfl)]
        congr 1 <;> (try simp only [List.length_nil]) <;> omega
    · have hx1 : ((X.length : Int) == 0) = false := by rw [beq_eq_false_iff_ne]; omega
      have hy1 : ((Y.length : Int) == 0) = false := by rw [beq_eq_false_iff_ne]; omega
      go_enter Tryz.func86, Tryz.ntmps86
      go_wp2_with fail
      refine (CX.out _ ha).mono ?_; rintro e w1 ⟨A, ca, rfl, hown1, hb1⟩
      go_wp2_with fail
      refine (CY.out _ hb).mono ?_; rintro e w2 ⟨B, cb, rfl, hown2, hb2⟩
      go_wp2_with fail
      refine (Identifiers_any _ _ _ _ X Y _ ((Rd.of_own hown1).below hb2) (Rd.of_own hown2) hla hlb HMA.out HMB.out).mono ?_; rintro e w3 ⟨rfl, hb3⟩
      go_wp2_with fail
      go_ret
      refine ⟨ret_int ?_, (hb1.trans (hb2.mono hb1.size)).trans (hb3.mono (Nat.le_trans hb1.size hb2.size))⟩
      rw [← HR.out, Pl.builds, HX.out, HY.out, if_neg (by omega)]
end Go.Proofs.YtgfkdjmoflbmdaaGreatDoor
