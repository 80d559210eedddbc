/- Functions that touch no memory, run on constants by the kernel; Contract; Contract; Contracts; Contract. -/
import Derived.Test.YtgfkdjmoflbmdaaGreatDoorRSr
import Derived.Laws.FloatArith
import Derived.Lib.SlBytesConst
import Derived.Test.YtgfkdjmoflbmdaaGreatDoorRXpxXv
namespace Go.Proofs.YtgfkdjmoflbmdaaGreatDoor
open Go.RowKit
open Go.Proofs
def isRet : FrameMode → Bool
  | .returning => true
  | _ => false
def runU (P : Program) (f : FuncId) : Nat → Machine → Machine
  | 0, m => m
  | n + 1, m => match m.gs[0]? with
    | some g => if g.frame.fn == f && isRet g.frame.mode then m else match step P m with
      | .next m' => runU P f n m'
      | _ => m
    | none => m
theorem steps_runU (P : Program) (f : FuncId) : ∀ (n : Nat) (m : Machine), Steps P m (runU P f n m)
  | 0, m => .refl _ _
  | n + 1, m => by
    unfold runU
    split
    · split
      · exact .refl _ _
      · split
        · rename_i m' h
          exact Steps.trans (.one h) (steps_runU P f n m')
        · exact .refl _ _
    · exact .refl _ _
theorem calls_run {P : Program} {f : FuncId} {fn : Func} {args : Array Value} {w : World} {v : Value} (n : Nat) (fr : List Frame → Frame)
    (h : ∀ cs, runU P f n (lone (Frame.enter P f args .normal) cs w) = lone (fr cs) cs w) (h1 : ∀ cs, (fr cs).mode = .returning ∧ (fr cs).defers = [] ∧ (fr cs).kind = .normal ∧ (fr cs).fn = f) (h2 : P.funcs[f]? = some fn) (h3 : ∀ cs, (results fn (fr cs).tmps).run P w = .ok v w) : Calls P f args w fun e w' => e = .returned v ∧ w = w' := by
  intro cs
  refine ⟨.returned v, w, fr cs, ⟨rfl, rfl⟩, ?_, (h1 cs).2.2.2, (h1 cs).1, (h1 cs).2.1, (h1 cs).2.2.1, fn, ?_, h3 cs⟩
  · have := steps_runU P f n (lone (Frame.enter P f args .normal) cs w)
    rw [h cs] at this
    exact this
  · rw [(h1 cs).2.2.2]; exact h2
def frOf (P : Program) (f : FuncId) (n : Nat) (args : Array Value) (w : World) (cs : List Frame) : Frame := match (runU P f n (lone (Frame.enter P f args .normal) cs w)).gs[0]? with
  | some g => g.frame
  | none => Frame.enter P f args .normal
theorem log2_ten (w : World) : Calls Tryz.prog 178 #[.float .f64 4621819117588971520] w fun e w' => e = .returned (.float .f64 4614662735865160561) ∧ w = w' :=
  calls_run (fn := Tryz.f178) 900 (frOf Tryz.prog 178 900 #[.float .f64 4621819117588971520] w) (fun cs => by kernel_rfl) (fun cs => ⟨by kernel_rfl, by kernel_rfl, by kernel_rfl, by kernel_rfl⟩) Tryz.func178 (fun cs => by kernel_rfl)
theorem drop_strip : ∀ (l : List Nat) (j : Nat) (hj : j < l.length), (∀ x (h : x < j), l[x]'(by omega) = 48) → l[j] ≠ 48 → l.drop j = Pl.strip0 l
  | c :: r, 0, hj, _, h => by
    simp only [List.getElem_cons_zero] at h
    unfold Pl.strip0
    rw [List.drop_zero, List.dropWhile_cons]
    have : (c == 48) = false := by rw [beq_eq_false_iff_ne]; exact h
    rw [this]; rfl
  | c :: r, j + 1, hj, h0, h => by
    have hc : c = 48 := h0 0 (by omega)
    subst hc
    have ih := drop_strip r j (by simpa using hj) (fun x hx => by have := h0 (x + 1) (by omega); simpa using this) (by simpa using h)
    rw [List.drop_succ_cons, ih]
    unfold Pl.strip0
    rw [List.dropWhile_cons]
    simp
theorem strip_all48 : ∀ (l : List Nat), (∀ x (h : x < l.length), l[x] = 48) → Pl.strip0 l = []
  | [], _ => rfl
  | c :: r, h => by
    have hc : c = 48 := h 0 (by simp)
    subst hc
    have ih := strip_all48 r (fun x hx => by have := h (x + 1) (by simp; omega); simpa using this)
    unfold Pl.strip0 at *
    rw [List.dropWhile_cons]
    simpa using ih
def iofR (k : Nat) : Option Nat := floatBits .quo .f64 (floatOfInt .f64 (k : Int)) 4614662735865160561
theorem iof_all : ((List.range 5100).all fun k => match iofR k with
    | some r => (match floatToIntVal .f64 r .i64 with
      | some n => Nat.ble (2 ^ k) (10 ^ (n.toNat + 1)) && (decide (0 ≤ n) && decide (n ≤ 1600))
      | none => false)
    | none => false) = true := by kernel_rfl
theorem iof_at {k : Nat} (h : k < 5100) : ∃ r n, iofR k = some r ∧ floatToIntVal .f64 r .i64 = some ((n : Nat) : Int) ∧ 2 ^ k ≤ 10 ^ (n + 1) ∧ n ≤ 1600 := by
  have h1 := List.all_eq_true.1 iof_all k (List.mem_range.2 h)
  cases hr : iofR k with
  | none => rw [hr] at h1; simp at h1
  | some r =>
    rw [hr] at h1
    simp only at h1
    cases hn : floatToIntVal .f64 r .i64 with
    | none => rw [hn] at h1; simp at h1
    | some n =>
      rw [hn] at h1
      simp only [Bool.and_eq_true, decide_eq_true_eq] at h1
      obtain ⟨h2, h3, h4⟩ := h1
      refine ⟨r, n.toNat, rfl, ?_, Nat.le_of_ble_eq_true h2, by omega⟩
      rw [hn]; congr 1; omega
theorem cv_if (k : Nat) (w : World) : (convert 3 204 (.int .i64 (k : Int))).run Tryz.prog w = .ok (.float .f64 (floatOfInt .f64 (k : Int))) w := by kernel_rfl
theorem cv_ten (w : World) : (convert 3 204 (.int .i64 10)).run Tryz.prog w = .ok (.float .f64 4621819117588971520) w := by kernel_rfl
theorem cv_fi (r : Nat) (n : Int) (w : World) (h : floatToIntVal .f64 r .i64 = some n) : (convert 204 3 (.float .f64 r)).run Tryz.prog w = .ok (.int .i64 n) w :=
  run_convert_float_int w 204 3 .f64 .i64 r n (by kernel_rfl) Tryz.underlying3 h
theorem info5c : (Tryz.prog.info? 5).map (fun i => (i.zero, i.size, i.bytes)) = some (some (.int .u8 0), 1, 1) := by kernel_rfl
theorem mkByte_row (n : Nat) (hn : n ≤ 2000) (w : World) : (Instr.makeSlice 91 (.int .i64 (n : Int)) (.int .i64 (n : Int))).run Tryz.prog w = .ok (.slice (some ⟨w.heap.size, 0, none⟩) n n) (w.alloc (.cells (madeCells (Value.int .u8 0).cells n) 5)) := by
  obtain ⟨i0, hi, hz0, hz1, hz2⟩ := info_parts info5c
  have hr := run_make (P := Tryz.prog) w 91 5 i0 _ Tryz.underlying91 hi hz0 .i64 .i64 n n (by omega) (by omega) (by rw [hz2]; omega) (by omega)
  simp only [Int.toNat_natCast, hz1, Nat.mul_one] at hr
  exact hr
def ItoaBk (w : World) (V : Nat) (e : Ending) (w' : World) : Prop :=
  ∃ sb o c, e = .returned (.slice (some ⟨sb, o, none⟩) (Pl.shown V).length c) ∧ BAt w' sb o (Pl.shown V) ∧ Below w.heap.size w w'
abbrev New (w : World) : Nat → Nat → Prop := fun b _ => w.heap.size ≤ b
def Divs2 (w : World) (p ln : Nat) (e : Ending) (w' : World) : Prop :=
  ∃ TV t q' A' c', e = .returned TV ∧ t ≤ 4 ∧ (t = 0 → ln ≤ 8) ∧ StkAt w' p q' A' 0 c' ∧ Chg w w' (StkCh p none none 0) ∧ (A' = none ∨ ∃ b, A' = some ⟨b, 0, none⟩ ∧ w.heap.size ≤ b) ∧ (q' = none ∨ ∃ b, q' = some b ∧ w.heap.size ≤ b) ∧
    (TV = .slice none 0 0 ∧ t = 0 ∨ ∃ tb, TV = .slice (some ⟨tb, 0, none⟩) t t ∧ tb < w'.heap.size ∧ (∀ off, ¬ StkCh p q' A' 0 tb off) ∧ (∀ sb N, BArr w' sb N → tb ≠ sb) ∧ ∀ j, j < t → ∃ b c, Ent w' tb j b c ∧ A' ≠ some ⟨b, 0, none⟩)
theorem divs_both (p ln : Nat) (w : World) (hS : StkAt w p none none 0 0) (hV : BigVars w) (hp : 16 < p) (hl : ln ≤ 79) :
    Calls Tryz.prog 182 #[.pointer (some ⟨p, 0, none⟩), .int .i64 (ln : Int), .int .u64 10, .int .i64 19, .int .u64 10000000000000000000] w (Divs2 w p ln) := by
  rcases Nat.lt_or_ge 8 ln with h8 | h8
  · refine (divisors_any p none none 0 0 ln w hS hV ⟨hp, fun _ h => (by cases h), fun _ h => (by cases h)⟩ (by omega) h8 (by omega)).mono ?_
    rintro e w' ⟨tb, k, q', A', c', rfl, hk1, hk4, hT, hE⟩
    refine ⟨_, k, q', A', c', rfl, hk4, fun h => by omega, hT.stk, hT.chg, hT.ga, hT.gq, Or.inr ⟨tb, rfl, ?_, hT.not_stk, ?_, fun j hj => ?_⟩⟩
    · obtain ⟨cs, hB, _⟩ := hT.blk
      exact hB.lt
    · rintro sb N ⟨cs2, hB2, _⟩
      obtain ⟨cs, hB, _⟩ := hT.blk
      exact Blk.ne_ hB hB2 (by decide)
    · obtain ⟨b, c, h1, _, h3⟩ := hE j hj
      exact ⟨b, c, h1, h3⟩
  · refine (divisors_few p ln w hV h8).mono ?_
    rintro e w' ⟨rfl, rfl⟩
    exact ⟨_, 0, none, none, 0, rfl, by omega, fun _ => h8, hS, Chg.refl _ _, Or.inl rfl, Or.inl rfl, Or.inl ⟨rfl, rfl⟩⟩
set_option maxRecDepth 100000 in
set_option maxHeartbeats 4000000 in
theorem itoa_any (xb xc V : Nat) (w : World) (hX : NatW w xb xc (Pl.digs M V)) (hV : BigVars w) (h0 : 0 < V) (hl : (Pl.digs M V).length ≤ 79) :
    Calls Tryz.prog 163 #[.slice (some ⟨xb, 0, none⟩) (Pl.digs M V).length xc, .bool false, .int .i64 10] w (ItoaBk w V) := by
  obtain ⟨ln, hln⟩ : ∃ ln, (Pl.digs M V).length = ln := ⟨_, rfl⟩
  have hbl := bitLenN_any xb xc V w hX h0 (by omega)
  rw [hln] at hbl hl ⊢
  have hln0 : 0 < ln := by rw [← hln]; exact digs_pos_len h0
  have hlz : ((ln : Int) == 0) = false := by rw [beq_eq_false_iff_ne]; omega
  have HBL := Lib.hid hbl
  have HI := Lib.hid (And.intro hX (And.intro hV (And.intro h0 hln)))
  have hcten := cv_ten
  clear hX hV h0 hln hbl
  go_enter_defers Tryz.func163, Tryz.ntmps163
  go_wp2_with fail
  refine HBL.out.mono ?_; rintro e w1 ⟨k, hk0, hB, rfl, rfl⟩
  have hk5 : k < 5100 := by
    obtain ⟨hX, hV, h0, hln⟩ := HI.out
    rcases Nat.lt_or_ge k 5100 with h | h
    · exact h
    · exfalso
      have h1 := Pl.val_lt M _ (Pl.digs_lt M V M_two)
      rw [Pl.val_digs M _ M_two, hln, show M = 2 ^ 64 from rfl, ← Nat.pow_mul] at h1
      have h2 := Pl.pow2_mono (show 64 * ln ≤ k - 1 by omega)
      have := hB.lo
      omega
  obtain ⟨r, n, hr, hn, hkn, hn16⟩ := iof_at hk5
  have hif := cv_if k
  have hfi := fun W => cv_fi r (n : Int) W hn
  have hquo : ∀ W, (binOp .quo 204 (.float .f64 (floatOfInt .f64 (k : Int))) (.float .f64 4614662735865160561)).run Tryz.prog W = .ok (.float .f64 r) W := fun W => run_float_arith W .quo 204 .f64 _ _ r hr
  have hVt : V < ten (n + 1) := Nat.lt_of_lt_of_le hB.hi hkn
  have HVT := Lib.hid hVt
  have i1 : IntKind.i64.wrap ((n : Int) + 1) = ((n + 1 : Nat) : Int) := by rw [IntWalk.i64_in _ (by omega)]; omega
  have hmk := mkByte_row (n + 1) (by omega) w
  obtain ⟨s, hs⟩ : ∃ s, n + 1 = s := ⟨_, rfl⟩
  rw [hs] at i1 hmk HVT
  have hs2 : s ≤ 1601 ∧ 0 < s := by omega
  obtain ⟨sb, hsb⟩ : ∃ sb, w.heap.size = sb := ⟨_, rfl⟩
  obtain ⟨W1, hW1⟩ : ∃ W1, w.alloc (.cells (madeCells (Value.int .u8 0).cells s) 5) = W1 := ⟨_, rfl⟩
  rw [hW1, hsb] at hmk
  have hBA1 : BArr W1 sb s := by rw [← hW1, ← hsb]; exact ⟨_, Blk.new _ _ _, size_madeCells _ _⟩
  have hbw1 : Below w.heap.size w W1 := by rw [← hW1]; exact (Below.refl _ _).alloc (Nat.le_refl _) _
  have H1 := Lib.hid (And.intro hBA1 (And.intro hbw1 hsb))
  clear hr hn hkn hVt hB hk5 hs hW1 hsb hBA1 hbw1
  go_wp2_with fail
  refine (log2_ten w).mono ?_; rintro e wx ⟨rfl, rfl⟩
  go_wp2_with fail
  refine (getStack_any W1).mono ?_; rintro e w2 ⟨p, rfl, hp, hS2, hb2⟩
  have H2 := Lib.hid (And.intro hp (And.intro hS2 hb2))
  clear hp hS2 hb2
  go_wp2_with fail
  refine (maxPow_ten w2).mono ?_; rintro e wx ⟨rfl, rfl⟩
  have hc02 : Chg w w2 (New w) := (Chg.of_below H1.out.2.1 (New w)).trans (Chg.of_below H2.out.2.2 (New w)) (fun _ _ h => h) (fun _ _ _ h => h)
  have h16 := HI.out.2.1.lt
  have hpw : w.heap.size ≤ p := Nat.le_trans H1.out.2.1.size H2.out.1
  have hdv := divs_both p ln w2 H2.out.2.1 (HI.out.2.1.chg hc02 (fun b _ h => Nat.lt_of_lt_of_le h16 h)) (Nat.lt_of_lt_of_le h16 hpw) hl
  have HDV := Lib.hid hdv
  have HC2 := Lib.hid (And.intro hc02 (And.intro h16 hpw))
  clear hc02 h16 hpw hdv
  go_wp2_with fail
  refine HDV.out.mono ?_; rintro e w3 ⟨TV, t, q', A', c', rfl, ht4, ht0, hS3, hc3, hA3, hq3, hT⟩
  obtain ⟨hc02, h16, hpw⟩ := HC2.out
  have hc03 : Chg w w3 (New w) := hc02.trans hc3 (fun _ _ h => h) (fun b off hb h => by
    rcases h with h | h | h
    · rw [h]; exact hpw
    · cases h
    · cases h.1)
  have hX3 := HI.out.1.chg hc03 (fun off h => by have := HI.out.1.arr.lt; omega)
  have hset := set_any none 0 0 xb 0 ln xc (Pl.digs M V) w3 (Or.inl ⟨rfl, rfl⟩) (Nat.le_refl _) hX3.at_ HI.out.2.2.2 hln0 (by omega) (by simp)
  have HSET := Lib.hid hset
  have H3 := Lib.hid (And.intro ht4 (And.intro ht0 (And.intro hS3 (And.intro hc3 (And.intro hA3 (And.intro hq3 (And.intro hT (And.intro hc03 (And.intro h16 hpw)))))))))
  clear ht4 ht0 hS3 hc3 hA3 hq3 hT hc02 h16 hpw hc03 hX3 hset
  go_wp2_with fail
  refine HSET.out.mono ?_; rintro e w4 ⟨g, cg, rfl, hN4, hg, hc4⟩
  have hg' : w3.heap.size ≤ g := by
    rcases hg with h | h
    · cases h
    · exact h
  have hc4' : Chg w3 w4 (fun _ _ => False) := hc4.mono (fun b off _ h => by
    rcases h with h | h
    · cases h
    · exact h)
  obtain ⟨ht4, ht0, hS3, hc3, hA3, hq3, hT, hc03, h16, hpw⟩ := H3.out
  have hS4 : StkAt w4 p q' A' 0 c' := hS3.chg hc4' (fun _ _ h => h.elim)
  have hc04 : Chg w w4 (New w) := hc03.trans hc4' (fun _ _ h => h) (fun _ _ _ h => h.elim)
  have hsz2 := H2.out.2.2.size
  have hsz1 := H1.out.2.1.size
  have hBA2 : BArr w2 sb s := H1.out.1.chg (Chg.of_below H2.out.2.2 (fun _ _ => False)) (fun _ h => h)
  have hBA3 : BArr w3 sb s := hBA2.chg hc3 (fun off h => stk_not_bytes H2.out.2.1 hBA2 off h)
  have hBA4 : BArr w4 sb s := hBA3.chg hc4' (fun _ h => h)
  have hAw : ∀ b, A' = some ⟨b, 0, none⟩ → w.heap.size ≤ b := by
    intro b e
    rcases hA3 with h | ⟨b', h, h2⟩
    · rw [h] at e; cases e
    · rw [h] at e; injection e with e; injection e with e; omega
  have hqw : ∀ b, q' = some b → w.heap.size ≤ b := by
    intro b e
    rcases hq3 with h | ⟨b', h, h2⟩
    · rw [h] at e; cases e
    · rw [h] at e; injection e with e; omega
  have hAg : A' ≠ some ⟨g, 0, none⟩ := stk_not hS3 (zA := none) (Or.inr hg') (by simp)
  have hhi : StkHi p q' A' := ⟨by omega, fun b e => by have := hqw b e; omega, fun b e => by have := hAw b e; omega⟩
  have hsbw : sb = w.heap.size := H1.out.2.2.symm
  have hcw := cw_any t ht4 p q' A' 0 c' g cg sb 0 s s s V TV w4 hS4 (HI.out.2.1.chg hc04 (fun b _ h => by omega)) hhi (by have := hc03.size; omega) (by omega) hN4 hAg hBA4 (by omega) HVT.out (Nat.le_refl _) (by omega) (by rw [HI.out.2.2.2]; exact hl) (by omega) (fun e => by rw [HI.out.2.2.2]; exact ht0 e) (by
    rcases hT with h | ⟨tb, h1, h2, h3, h4, h5⟩
    · exact Or.inl h
    · refine Or.inr ⟨tb, t, h1, Nat.le_refl _, fun j hj => ?_⟩
      obtain ⟨b, c, hE, hb⟩ := h5 j hj
      refine ⟨b, c, hE.chg hc4' (fun _ _ h => h) (fun _ h => h), ?_, ?_⟩
      · have hbl := hE.nat.arr.lt
        rintro off (k | k | k)
        · omega
        · exact hBA3.ne hE.nat.arr k.1
        · exact stk_not_words hS3 hE.nat.arr hb off k
      · rintro off (k | k | k)
        · omega
        · exact h4 _ _ hBA3 k.1
        · exact h3 off k)
  rw [HI.out.2.2.2] at hcw ⊢
  have HCW := Lib.hid hcw
  have H4 := Lib.hid (And.intro hc04 (And.intro hAw (And.intro hqw (And.intro hpw (And.intro hsbw (by have := hc03.size; omega : w.heap.size ≤ g))))))
  clear hN4 hg hc4 hg' hc4' ht4 ht0 hS3 hc3 hA3 hq3 hT hc03 h16 hpw hS4 hc04 hsz2 hsz1 hBA2 hBA3 hBA4 hAw hqw hAg hhi hsbw hcw
  go_wp2_with fail
  refine HCW.out.mono ?_; rintro e w5 ⟨rfl, hB5, q3, A3, c3, hC5⟩
  have hlen := Pl.dec_len s V
  have hstr := Pl.strip0_dec s V HI.out.2.2.1 HVT.out
  obtain ⟨L, hL⟩ : ∃ L, Pl.dec s V = L := ⟨_, rfl⟩
  rw [hL] at hB5 hlen hstr
  have H5 := Lib.hid (And.intro hC5 (And.intro hstr hB5))
  have hlt256 : ∀ d ∈ L, d < 256 := fun d hd => by rw [← hL] at hd; have := Pl.dec_dig s V d hd; omega
  have HL := Lib.hid (And.intro hlen hlt256)
  clear hB5 hC5 hlen hstr hL hlt256
  go_wp2_with fail
  go_loopw [7] (fun iv wx => ∃ j : Nat, j ≤ s ∧ iv = .int .i64 (j : Int) ∧ (∀ x < j, L[x]? = some 48) ∧ w5 = wx) (fun iv _ => s - (intOf iv).toNat)
  case atStart => exact ⟨0, Nat.zero_le _, rfl, fun x hx => by omega, rfl⟩
  case round =>
    obtain ⟨j, hj, rfl, hz, hw⟩ := hrel
    subst hw
    have hjs : j < s := by
      rcases Nat.lt_or_ge j s with h | h
      · exact h
      · exfalso
        have := strip_all48 L (fun x hx => by
          have h2 := hz x (by have := HL.out.1; omega)
          rw [List.getElem?_eq_getElem hx] at h2
          exact Option.some.inj h2)
        rw [H5.out.2.1] at this
        exact Pl.shown_ne V this
    have hjl : j < L.length := by rw [HL.out.1]; exact hjs
    have hcell := H5.out.2.2 j hjl
    rw [Nat.zero_add] at hcell
    obtain ⟨d, hd⟩ : ∃ d, L[j] = d := ⟨_, rfl⟩
    rw [hd] at hcell
    have hjz : (j : Int) < (s : Int) := by omega
    have HZ := Lib.hid (And.intro hz hd)
    by_cases h48 : d = 48
    · have hdz : ((d : Int) == 48) = true := by rw [h48]; rfl
      have hz2 : ∀ x < j + 1, L[x]? = some 48 := by
        intro x hx
        rcases Nat.lt_or_ge x j with h | h
        · exact hz x h
        · obtain rfl : x = j := by omega
          rw [List.getElem?_eq_getElem hjl, hd, h48]
      have HZ2 := Lib.hid hz2
      clear hz hz2 hd h48
      go_wp2
      go_roundw
      case rel => exact ⟨j + 1, by omega, by go_num, HZ2.out, trivial⟩
      case measure => simp [intOf]; omega
    · have hdz : ((d : Int) == 48) = false := by rw [beq_eq_false_iff_ne]; omega
      have hsh : L.drop j = Pl.shown V := by
        rw [← H5.out.2.1]
        exact drop_strip L j hjl (fun x hx => by
          have h2 := hz x hx
          rw [List.getElem?_eq_getElem (by omega)] at h2
          exact Option.some.inj h2) (by rw [hd]; exact h48)
      have hsl : s - j = (Pl.shown V).length := by rw [← hsh, List.length_drop, HL.out.1]
      have HSH := Lib.hid (And.intro hsh hsl)
      have hsj : ¬ s = j := by omega
      have hjz2 : (j : Int) ≤ (s : Int) := by omega
      clear hz hd h48 hsh hsl
      go_wp2
      show Leaves Tryz.prog Tryz.f163 _ _ _ .returning w5
      refine leaves_cons (f := 181) (args := #[.pointer (some ⟨p, 0, none⟩)]) (by simp) (by simp [go_sem]) ?_
      refine (freeD_any p q3 A3 0 c3 .returning w5 H5.out.1.stk).mono ?_
      rintro e u' wz ⟨rfl, rfl, hcz⟩
      have hC5 := H5.out.1
      obtain ⟨hc04, hAw, hqw, hpw, hsbw, hgw⟩ := H4.out
      have hsz4 := hc04.size
      have hc05 : Chg w w5 (New w) := hc04.trans hC5.chg (fun _ _ h => h) (fun b off hb k => by
        rcases k with k | k | k | k | k
        · omega
        · omega
        · omega
        · have := hqw b k; omega
        · have := hAw b k.1; omega)
      have hq3 : ∀ b, q3 = some b → w.heap.size ≤ b := by
        intro b e
        rcases hC5.gq with h | ⟨b', h, h2⟩
        · exact hqw b (h ▸ e)
        · rw [h] at e; injection e with e; omega
      have hc06 : Chg w wz (New w) := hc05.trans hcz (fun _ _ h => h) (fun b off _ k => hq3 b k.1)
      have hBA5 := hC5.arr
      have hnq : ∀ off, ¬ (q3 = some sb ∧ off = 0) := fun off k => stk_not_bytes hC5.stk hBA5 0 (Or.inr (Or.inl k.1))
      have hBz : BAt wz sb j (Pl.shown V) := by
        have h1 := H5.out.2.2.chg hcz (fun _ _ => hnq _)
        rw [← HSH.out.1]
        intro x hx
        rw [List.length_drop] at hx
        have := h1 (j + x) (by omega)
        rw [Nat.zero_add] at this
        rw [this, List.getElem_drop]
      exact ⟨.slice (some ⟨sb, j, none⟩) (s - j) (s - j), by simp [results, Tryz.results163, go_sem], sb, j, s - j, by rw [HSH.out.2], hBz, hc06.below (fun b off _ k => k) (Nat.le_refl _)⟩
theorem BAt.rd {w : World} {b o n : Nat} {l : List Nat} (h : BAt w b o l) (hn : l.length = n) : Rd w 1 (some ⟨b, o, none⟩) n (B8 l) := by
  refine ⟨by rw [B8_len, hn, Nat.mul_one], fun _ => ⟨b, o, rfl, fun j u hu => ?_⟩⟩
  have hj : j < l.length := by
    have := (List.getElem?_eq_some_iff.1 hu).1
    rwa [B8_len] at this
  rw [B8_get l j hj] at hu
  rw [← Option.some.inj hu]
  exact h j hj
set_option maxRecDepth 100000 in
theorem itoa_zero (A : Option Addr) (c : Nat) (w : World) :
    Calls Tryz.prog 163 #[.slice A 0 c, .bool false, .int .i64 10] w (ItoaBk w 0) := by
  have hcv := Lib.run_convert_bytes_const (P := Tryz.prog) w 91 5 #[.int .u8 48] 1 1 Tryz.underlying91 Tryz.underlying5
  obtain ⟨W2, hW2⟩ : ∃ W2, w.alloc (.cells #[.int .u8 48] 5 (1, 2)) = W2 := ⟨_, rfl⟩
  have hcell : W2.cell? ⟨w.heap.size, 0, none⟩ = some (.int .u8 48) := by
    rw [← hW2]
    exact cell_of_row _ _ 0 _ 5 (1, 2) (heap_alloc_new w _)
  have hb : Below w.heap.size w W2 := by rw [← hW2]; exact (Below.refl _ _).alloc (Nat.le_refl _) _
  have hcv2 : (convert 91 91 (.slice (some ⟨w.heap.size, 0, none⟩) 1 1)).run Tryz.prog (w.alloc (.cells #[.int .u8 48] 5)) = .ok (.slice (some ⟨w.heap.size, 0, none⟩) 1 1) W2 := by rw [← hW2]; exact hcv
  have HB := Lib.hid (And.intro hcell hb)
  clear hcell hb hcv hW2
  go_enter_defers Tryz.func163, Tryz.ntmps163
  go_wp2
  have e : Pl.shown 0 = [48] := Pl.shown_low (by omega)
  refine ⟨.slice (some ⟨w.heap.size, 0, none⟩) 1 1, by simp [results, Tryz.results163, go_sem], w.heap.size, 0, 1, by rw [e]; rfl, ?_, HB.out.2⟩
  rw [e]
  intro j hj
  have : j = 0 := by simp at hj; omega
  subst this
  exact HB.out.1
theorem itoa_own (B N : Nat) (u : Value) (w : World) (hU : w.ownsRow B 179 1 u (Pl.digs M N).length (WC (Pl.digs M N))) (hV : BigVars w) (hl : (Pl.digs M N).length ≤ 79) :
    Calls Tryz.prog 163 #[u, .bool false, .int .i64 10] w (ItoaBk w N) := by
  rcases Nat.eq_zero_or_pos N with h | h
  · subst h
    rw [Pl.digs_zero] at hU
    obtain ⟨A, c, rfl⟩ := own_form hU
    exact itoa_zero A c w
  · obtain ⟨g, c, rfl, _, hN⟩ := natW_of_own hU rfl (digs_pos_len h)
    exact itoa_any g c N w hN hV h hl
set_option maxRecDepth 100000 in
theorem Text_any (Z B N : Nat) (w : World) (hZ : IntAt w Z B false N) (hV : BigVars w) (hl : (Pl.digs M N).length ≤ 79) :
    Calls Tryz.prog 149 #[.pointer (some ⟨Z, 0, none⟩), .int .i64 10] w fun e w' => e = .returned (S (Pl.shownB N)) ∧ Below w.heap.size w w' := by
  obtain ⟨u, hB, hU⟩ := hZ
  have c0 := hB.cell 0
  have c1 := hB.cell 1
  simp at c0 c1
  have hw : Below w.heap.size w w.drew := (Below.refl _ _).drew
  have HI := Lib.hid (itoa_own B N u w.drew (own_below hU hw) (hV.below hw) hl)
  clear hB hU hV hl hw
  go_enter Tryz.func149, Tryz.ntmps149
  go_wp2_with fail
  go_still_tail 9, (by kernel_rfl)
  change wpList _ _ _ _ _ w.drew
  go_wp2_with fail
  refine HI.out.mono ?_; rintro e w2 ⟨sb, o, c, rfl, hB, hb⟩
  have hcv := run_bytes_S (P := Tryz.prog) w2 91 9 5 (some ⟨sb, o, none⟩) (Pl.shown N).length c (Pl.shown N) Tryz.underlying91 Tryz.underlying5 Tryz.underlying9 (hB.rd rfl)
  have HBB := Lib.hid hb
  clear hB hb
  obtain ⟨ln, hln⟩ : ∃ ln, (Pl.shown N).length = ln := ⟨_, rfl⟩
  rw [hln] at hcv ⊢
  obtain ⟨T, hT⟩ : ∃ T, S ((Pl.shown N).map UInt8.ofNat) = T := ⟨_, rfl⟩
  rw [hT] at hcv
  have HT := Lib.hid hT
  clear hln hT
  go_wp2_with fail
  go_ret
  exact ⟨by rw [show Pl.shownB N = (Pl.shown N).map UInt8.ofNat from rfl, HT.out]; rfl, ((Below.refl w.heap.size w).drew).trans HBB.out⟩
theorem String_any (Z B N : Nat) (w : World) (hZ : IntAt w Z B false N) (hV : BigVars w) (hl : (Pl.digs M N).length ≤ 79) :
    Calls Tryz.prog 132 #[.pointer (some ⟨Z, 0, none⟩)] w fun e w' => e = .returned (S (Pl.shownB N)) ∧ Below w.heap.size w w' := by
  have HT := Lib.hid (Text_any Z B N w hZ hV hl)
  clear hZ hV hl
  go_enter Tryz.func132, Tryz.ntmps132
  go_wp2_with fail
  refine HT.out.mono ?_; rintro e w2 ⟨rfl, hb⟩
  go_wp2
  go_ret
  exact ⟨rfl, hb⟩
theorem tail_take_succ (es : List Nat) (k : Nat) (hk : k < es.length) : Pl.tailB (es.take (k + 1)) = Pl.tailB (es.take k) ++ (46 :: Pl.shownB es[k]) := by
  rw [List.take_succ_eq_append_getElem hk, Pl.tailB_snoc]
theorem tail_take_len (es : List Nat) (k : Nat) : (Pl.tailB (es.take k)).length ≤ (Pl.tailB es).length := by
  have h : Pl.tailB es = Pl.tailB (es.take k) ++ Pl.tailB (es.drop k) := by rw [← Pl.tailB_app, List.take_append_drop]
  rw [h, List.length_append]; omega
set_option maxRecDepth 100000 in
set_option maxHeartbeats 4000000 in
theorem fetchMore_any (p base : Nat) (v : Bool) (A : Option Addr) (c m : Nat) (ns : List Nat) (bd og : ByteArray) (w : World) (hb : Blk w p 56 #[.bool v, .slice A ns.length c, .string bd, .string og]) (hA : OwnBigs w base (.slice A ns.length c) ns) (hm : m < ns.length) (hV : BigVars w)
    (hl : ∀ n ∈ ns, (Pl.digs M n).length ≤ 79) (hn : ns.length ≤ 100000) (hs : bd.size + (Pl.tailB (ns.drop m)).length ≤ 100000) :
    Calls Tryz.prog 114 #[.pointer (some ⟨p, 0, none⟩), .int .i64 (m : Int)] w fun e w' => e = .returned (.tuple #[.slice A m c, S (bd.data.toList ++ Pl.tailB (ns.drop m))]) ∧ Below w.heap.size w w' := by
  obtain ⟨Zs, hz1, hz2, hz3⟩ := hA
  obtain ⟨g, cc, cur, hv, hg, hgB, hnc, hcm, _, htk⟩ : ∃ g cap cur, (Value.slice A ns.length c) = .slice (some ⟨g, 0, none⟩) ns.length cap ∧ base ≤ g ∧ w.heap[g]? = some (.cells cur 123 (0, 0)) ∧ ns.length ≤ cap ∧ cap ≤ maxLen ∧ cur.size = cap * 1 ∧ cur.toList.take (ns.length * 1) = Zs.map PtrV := by
    rcases hz2.2 with ⟨_, h0⟩ | ⟨g, cap, cur, h⟩
    · omega
    · exact ⟨g, cap, cur, h⟩
  injection hv with hA _ hcc
  subst hA
  subst hcc
  have hRd := Rd.of_own hz2
  obtain ⟨b', o', he, hcell⟩ := hRd.2 (by omega)
  injection he with he
  injection he with he1 he2
  subst he1
  subst he2
  obtain ⟨n, hnn⟩ : ∃ n, ns.length = n := ⟨_, rfl⟩
  obtain ⟨es, hes⟩ : ∃ es, ns.drop m = es := ⟨_, rfl⟩
  have hel : es.length = n - m := by rw [← hes, List.length_drop, hnn]
  have hent : ∀ k (hk : k < es.length), ∃ Z B, w.cell? ⟨g, m + k, none⟩ = some (.pointer (some ⟨Z, 0, none⟩)) ∧ IntAt w Z B false es[k] ∧ (Pl.digs M es[k]).length ≤ 79 := by
    intro k hk
    have h1 : m + k < ns.length := by omega
    obtain ⟨B, hI⟩ := hz3 (m + k) h1 (by omega)
    have e2 : es[k] = ns[m + k] := by
      have : (ns.drop m)[k]'(by rw [hes]; exact hk) = ns[m + k] := by rw [List.getElem_drop]
      rw [← this]; congr 1; exact hes.symm
    refine ⟨Zs[m + k]'(by omega), B, ?_, by rw [e2]; exact hI, by rw [e2]; exact hl _ (List.getElem_mem _)⟩
    have := hcell (m + k) (PtrV (Zs[m + k]'(by omega))) (by rw [List.getElem?_map, List.getElem?_eq_getElem (by omega)]; rfl)
    rw [Nat.zero_add] at this
    exact this
  have c1 := hb.cell 1
  have c2 := hb.cell 2
  rw [hnn] at c1
  simp at c1 c2
  rw [hes] at hs
  obtain ⟨W1, hW1⟩ : ∃ W1, w.alloc (.cells #[.pointer none, .slice none 0 0] 149) = W1 := ⟨_, rfl⟩
  have hb1 : Below w.heap.size w W1 := by rw [← hW1]; exact (Below.refl _ _).alloc (Nat.le_refl _) _
  have hI1 : Lib.IsBuilder 149 5 w.heap.size w.heap.size (Lib.byteCells []) W1 := by rw [← hW1]; exact Lib.fresh_isBuilder 149 5 w
  have hc2' := (hb1.cell (p := ⟨p, 2, none⟩) (by have := hb.lt; exact this)).trans c2
  have HWS := Lib.hid (WriteString_any w.heap.size w.heap.size (Lib.byteCells []) bd W1 hI1 (by rw [Lib.byteCells_length]; simp; omega) hb1.size)
  have HI := Lib.hid (And.intro hent (And.intro hes (And.intro hel (And.intro hV (And.intro hb1 (And.intro hs hnn))))))
  rw [← hW1] at hc2'
  have HW1 := Lib.hid hW1
  have m1 : ((m : Int) == -1) = false := by rw [beq_eq_false_iff_ne]; omega
  have m2 : ¬ (n : Int) ≤ (m : Int) := by omega
  have m3 : (m : Int) ≤ (n : Int) := by omega
  have m4 : m ≤ n := by omega
  have m5 : m ≤ c := by omega
  have m6 : ¬ c = m := by omega
  have m7 : (m : Int) ≤ (c : Int) := by omega
  rw [hnn] at hm hn hnc
  rw [hes]
  clear hb hz1 hz2 hz3 hgB hcm htk hRd hcell hent hes hel hs hV hl hb1 hI1 hnn hW1
  go_enter Tryz.func114, Tryz.ntmps114
  go_wp2_with fail
  rw [HW1.out]
  refine HWS.out.mono ?_; rintro e w2 ⟨rfl, hI2, hb2⟩
  obtain ⟨sb, hsb⟩ : ∃ sb, w.heap.size = sb := ⟨_, rfl⟩
  have HI2 := Lib.hid (And.intro hI2 hb2)
  obtain ⟨hent, hes, hel, hV, hb1, hs, hnn⟩ := HI.out
  have hstart : Lib.IsBuilder 149 5 sb sb (Lib.byteCells (bd.data.toList ++ Pl.tailB (es.take 0))) w2 ∧ Below w.heap.size w w2 := by
    rw [← hsb]
    refine ⟨Or.inr ?_, hb1.trans (hb2.mono (Nat.le_refl _))⟩
    rw [List.take_zero, Pl.tailB_nil, List.append_nil]
    exact hI2
  have HS := Lib.hid hstart
  have HSB := Lib.hid hsb
  have HEL := Lib.hid hel
  rw [hsb]
  clear hI2 hb2 hent hes hel hV hb1 hs hnn hstart hsb
  go_wp2_with fail
  go_loopw [49] (fun kv wr => ∃ k : Nat, k ≤ es.length ∧ kv = .int .i64 (k : Int) ∧ Lib.IsBuilder 149 5 sb sb (Lib.byteCells (bd.data.toList ++ Pl.tailB (es.take k))) wr ∧ Below w.heap.size w wr) (fun kv _ => es.length - (intOf kv).toNat)
  case atStart => exact ⟨0, Nat.zero_le _, rfl, HS.out.1, HS.out.2⟩
  case round =>
    obtain ⟨w3, hw3⟩ : ∃ w3, w3 = wr := ⟨_, rfl⟩
    subst hw3
    obtain ⟨k, hk, rfl, hIB, hbel⟩ := hrel
    by_cases hlt : k < es.length
    · obtain ⟨Z, B, hcZ, hZ, hZl⟩ := HI.out.1 k hlt
      have hcZ3 : w3.cell? ⟨g, m + k, none⟩ = some (.pointer (some ⟨Z, 0, none⟩)) := (hbel.cell (p := ⟨g, m + k, none⟩) (World.block_lt_of_cell? w _ hcZ)).trans hcZ
      have HST := Lib.hid (String_any Z B es[k] w3 (hZ.below hbel) (HI.out.2.2.2.1.below hbel) hZl)
      have hkn : k < n - m := by have := HEL.out; omega
      have hkz : (k : Int) < ((n - m : Nat) : Int) := by omega
      have hT := HI.out.2.2.2.2.2.1
      have h1 := tail_take_succ es k hlt
      have h2 := tail_take_len es (k + 1)
      have h3 := congrArg List.length h1
      rw [List.length_append, List.length_cons] at h3
      have hWS : ∀ w4, Below w3.heap.size w3 w4 → Calls Tryz.prog 131 #[.pointer (some ⟨sb, 0, none⟩), .string (⟨#[46]⟩ ++ ⟨(Pl.shownB es[k]).toArray⟩)] w4 fun e w' => e = .returned (.tuple #[.int .i64 ((⟨#[46]⟩ : ByteArray) ++ ⟨(Pl.shownB es[k]).toArray⟩).size, .nilIface]) ∧ Lib.IsBuilder 149 5 sb sb (Lib.byteCells (bd.data.toList ++ Pl.tailB (es.take (k + 1)))) w' ∧ Below sb w4 w' := by
        intro w4 hb4
        have hsz : ((⟨#[46]⟩ : ByteArray) ++ ⟨(Pl.shownB es[k]).toArray⟩).data.toList = 46 :: Pl.shownB es[k] := by simp
        have hsz2 : ((⟨#[46]⟩ : ByteArray) ++ ⟨(Pl.shownB es[k]).toArray⟩).size = (Pl.shownB es[k]).length + 1 := by rw [← len_list, hsz, List.length_cons]
        have hIB4 : Lib.IsBuilder 149 5 sb sb (Lib.byteCells (bd.data.toList ++ Pl.tailB (es.take k))) w4 := by
          have key : ∀ q, Lib.BuilderAt 149 5 sb sb q (Lib.byteCells (bd.data.toList ++ Pl.tailB (es.take k))) w3 → Lib.BuilderAt 149 5 sb sb q (Lib.byteCells (bd.data.toList ++ Pl.tailB (es.take k))) w4 := by
            intro q h
            have hl := h.lt
            obtain ⟨k1, v, k2, k3, k4⟩ := h
            exact ⟨k1, v, (hb4.block sb hl).trans k2, own_below k3 hb4, k4⟩
          rcases hIB with h | h
          · exact Or.inl (key _ h)
          · exact Or.inr (key _ h)
        refine (WriteString_any sb sb _ _ w4 hIB4 (by rw [Lib.byteCells_length, List.length_append, hsz2, len_list]; omega) ?_).mono ?_
        · have := HSB.out; have := hbel.size; have := hb4.size; omega
        · rintro e w' ⟨rfl, r1, r2⟩
          refine ⟨rfl, Or.inr ?_, r2⟩
          rw [Lib.strCells_eq, hsz, ← Lib.byteCells_append, List.append_assoc, ← h1] at r1
          exact r1
      have hcl : ¬ 9223372036854775807 < 1 + (Pl.shownB es[k]).length := by omega
      obtain ⟨T, hTT⟩ : ∃ T, Pl.shownB es[k] = T := ⟨_, rfl⟩
      rw [hTT] at HST hWS hcl
      have HWS2 := Lib.hid hWS
      have HB := Lib.hid hbel
      clear hcZ hZ hZl hT h1 h2 h3 hWS hTT hIB hbel
      go_wp2_with fail
      refine HST.out.mono ?_; rintro e w4 ⟨rfl, hb4⟩
      have HW4 := Lib.hid (HWS2.out w4 hb4)
      have HB4 := Lib.hid hb4
      clear hb4
      go_wp2_with fail
      refine HW4.out.mono ?_; rintro e w5 ⟨rfl, hI5, hb5⟩
      have HI5 := Lib.hid (And.intro hI5 hb5)
      clear hI5 hb5
      go_wp2_with fail
      go_roundw
      case rel => exact ⟨k + 1, by omega, by go_num, HI5.out.1, (HB.out.trans (HB4.out.mono HB.out.size)).trans (by rw [HSB.out]; exact HI5.out.2)⟩
      case measure => simp [intOf]; omega
    · obtain rfl : k = es.length := by omega
      rw [List.take_length] at hIB
      have HST := Lib.hid (Tryz.Builder_String_any sb sb (bd.data.toList ++ Pl.tailB es) w3 hIB (by have := HSB.out; have := hbel.size; omega))
      have hkz : ¬ ((es.length : Nat) : Int) < ((n - m : Nat) : Int) := by have := HEL.out; omega
      have HB := Lib.hid hbel
      clear hIB hbel
      go_wp2_with fail
      refine HST.out.mono ?_; rintro e w4 ⟨rfl, hb4⟩
      have HB4 := Lib.hid hb4
      clear hb4
      go_wp2
      exact bodyPost_ret (v := .tuple #[.slice (some ⟨g, 0, none⟩) m c, S (bd.data.toList ++ Pl.tailB es)]) (by simp [results, Tryz.results114, go_sem]) rfl ⟨rfl, HB.out.trans (by rw [HSB.out]; exact HB4.out)⟩
theorem own_take {w : World} {base m n c : Nat} {A : Option Addr} {e : TypeId} {xs : List Value} (h : w.ownsRow base e 1 (.slice A n c) n xs) (hm : m ≤ n) (hm0 : 0 < m) : w.ownsRow base e 1 (.slice A m c) m (xs.take m) := by
  obtain ⟨h1, h2⟩ := h
  refine ⟨by rw [List.length_take, h1]; omega, ?_⟩
  rcases h2 with ⟨_, h3⟩ | ⟨g, cap, cur, hv, hg, hh, hn, hc, hs, ht⟩
  · omega
  · injection hv with hA _ hcc
    subst hA
    subst hcc
    refine Or.inr ⟨g, c, cur, rfl, hg, hh, by omega, hc, hs, ?_⟩
    rw [← ht, List.take_take, Nat.min_eq_left (by omega), Nat.mul_one]
theorem OwnBigs.take {w : World} {base m c : Nat} {A : Option Addr} {ns : List Nat} (h : OwnBigs w base (.slice A ns.length c) ns) (hm : m ≤ ns.length) (hm0 : 0 < m) : OwnBigs w base (.slice A m c) (ns.take m) := by
  obtain ⟨Zs, h1, h2, h3⟩ := h
  have hl : (ns.take m).length = m := by rw [List.length_take]; omega
  refine ⟨Zs.take m, by rw [List.length_take, List.length_take, h1], ?_, fun k hk hk' => ?_⟩
  · rw [hl, List.map_take]
    exact own_take h2 hm hm0
  · rw [hl] at hk
    obtain ⟨B, hI⟩ := h3 k (by omega) (by omega)
    exact ⟨B, by rw [List.getElem_take, List.getElem_take]; exact hI⟩
theorem pow_words : Nat.ble (ten 1500) (M ^ 78) = true := by kernel_rfl
theorem nums_words {s : ByteArray} (hs : s.size ≤ 1500) : ∀ n ∈ Pl.numsOf s.data.toList, (Pl.digs M n).length ≤ 79 := by
  intro n hn
  obtain ⟨p, rfl, hp, hd⟩ := numsOf_mem hn
  have h2 := coreOf_len s.data.toList
  rw [len_list] at h2
  have h3 := Pl.natOf_lt p hd
  have h4 : (10 : Nat) ^ p.length ≤ ten 1500 := ten_mono (by omega)
  have h5 := Nat.le_of_ble_eq_true pow_words
  have := Pl.digs_len_le M_two (Nat.lt_of_lt_of_le h3 (Nat.le_trans h4 h5))
  omega
theorem kept_all {k : Nat} {l : Pl.Bytes} (h : (Pl.numsOf l).length ≤ k) : Pl.keptN k l = Pl.numsOf l ∧ Pl.keptB k l = Pl.buildOf l := by
  constructor
  · unfold Pl.keptN; exact List.take_of_length_le h
  · unfold Pl.keptB; rw [List.drop_of_length_le h, Pl.tailB_nil, List.append_nil]
def KeptBack (w : World) (m : Nat) (s : ByteArray) : Ending → World → Prop := VersBack w (Pl.startsV s.data.toList) (Pl.keptN m s.data.toList) ⟨(Pl.keptB m s.data.toList).toArray⟩ s
set_option maxRecDepth 100000 in
set_option maxHeartbeats 1000000 in
theorem parseKept_any (s : ByteArray) (m : Nat) (pe pn pi : Addr) (w : World) (hs : s.size ≤ 1500) (hV : PkgVars w pe pn pi) (hBV : BigVars w) (hasc : Pl.ascii s.data.toList = true) (hm0 : 0 < m) :
    Calls Tryz.prog 93 #[.string s, .int .i64 (m : Int)] w (KeptBack w m s) := by
  rcases Nat.lt_or_ge m (Pl.numsOf s.data.toList).length with hm | hm
  · obtain ⟨W, hW⟩ : ∃ W, w.alloc (.cells #[.bool false, .slice none 0 0, .string ⟨#[]⟩, .string ⟨#[]⟩] 56) = W := ⟨_, rfl⟩
    have hbW : Below w.heap.size w W := by rw [← hW]; exact (Below.refl _ _).alloc (Nat.le_refl _) _
    have hRW : Blk W w.heap.size 56 #[.bool false, .slice none 0 0, .string ⟨#[]⟩, .string ⟨#[]⟩] := by rw [← hW]; exact Blk.new _ _ _
    have HC := Lib.hid (parse_any s pe pn pi W (by omega) (hV.below hbW) hasc)
    have HW := Lib.hid hW
    have hnl := numsOf_len s.data.toList
    rw [len_list] at hnl
    have hkb := Pl.tail_len s.data.toList m
    have hbl := buildOf_len s.data.toList
    rw [len_list] at hbl
    have hcl := coreOf_len s.data.toList
    rw [len_list] at hcl
    have hkl : (Pl.keptN m s.data.toList).length = m := by unfold Pl.keptN; rw [List.length_take]; omega
    have HX := Lib.hid (And.intro hnl (And.intro hkb (And.intro hbl (And.intro hcl (And.intro hkl hm)))))
    clear hW hnl hkb hbl hcl hkl hm
    go_enter Tryz.func93, Tryz.ntmps93
    go_wp2_with fail
    rw [HW.out]
    refine HC.out.mono ?_; rintro e w1 ⟨A, c, rfl, hob, hb1⟩
    have hR1 := hRW.below hb1 hRW.lt
    obtain ⟨X, hX⟩ : ∃ X, w1.alloc (.cells #[.bool (Pl.startsV s.data.toList), .slice A (Pl.numsOf s.data.toList).length c, .string ⟨(Pl.buildOf s.data.toList).toArray⟩, .string s] 56) = X := ⟨_, rfl⟩
    have hbX : Below w1.heap.size w1 X := by rw [← hX]; exact (Below.refl _ _).alloc (Nat.le_refl _) _
    have hV5 : Blk X w1.heap.size 56 #[.bool (Pl.startsV s.data.toList), .slice A (Pl.numsOf s.data.toList).length c, .string ⟨(Pl.buildOf s.data.toList).toArray⟩, .string s] := by rw [← hX]; exact Blk.new _ _ _
    have hRX := hR1.below hbX hR1.lt
    have hobX := hob.below hbX
    have hbwX : Below w.heap.size w X := (hbW.trans (hb1.mono hbW.size)).trans (hbX.mono (Nat.le_trans hbW.size hb1.size))
    have hF := fetchMore_any w1.heap.size W.heap.size (Pl.startsV s.data.toList) A c m (Pl.numsOf s.data.toList) ⟨(Pl.buildOf s.data.toList).toArray⟩ s X hV5 hobX HX.out.2.2.2.2.2 (hBV.below hbwX) (nums_words hs) (by have := HX.out.1; omega) (by rw [S_size]; have := HX.out; omega)
    have HX2 := Lib.hid hX
    have HF := Lib.hid hF
    clear hX hF
    go_wp2_with fail
    rw [HX2.out]
    refine HF.out.mono ?_; rintro e Y ⟨rfl, hbY⟩
    have hR3 := hRX.below hbY hRX.lt
    have hV3 := hV5.below hbY hV5.lt
    have hob3 : OwnBigs Y W.heap.size (.slice A m c) (Pl.keptN m s.data.toList) := (hobX.below hbY).take (by have := HX.out.2.2.2.2.2; omega) hm0
    have hbel3 : Below w.heap.size w Y := hbwX.trans (hbY.mono hbwX.size)
    have c0 := hV3.cell 0
    have c3 := hV3.cell 3
    have d0 := hR3.cell 0
    have d1 := hR3.cell 1
    have d2 := hR3.cell 2
    have d3 := hR3.cell 3
    have e0 := hR3.frozen 0
    have e1 := hR3.frozen 1
    have e2 := hR3.frozen 2
    have e3 := hR3.frozen 3
    simp at c0 c3 d0 d1 d2 d3
    have hkb2 : S (Pl.buildOf s.data.toList ++ Pl.tailB ((Pl.numsOf s.data.toList).drop m)) = S (Pl.keptB m s.data.toList) := rfl
    go_wp2
    refine bodyPost_ret (v := .agg #[.bool (Pl.startsV s.data.toList), .slice A m c, S (Pl.keptB m s.data.toList), .string s]) (by simp [results, Tryz.results93, go_sem, d0, d1, d2, d3]) rfl ⟨A, c, by rw [HX.out.2.2.2.2.1], ?_, ?_⟩
    · rw [HX.out.2.2.2.2.1]
      exact OwnBigs.four (OwnBigs.lower hob3 hbW.size) hR3
    · exact (((hbel3.setCell (Nat.le_refl _) _).setCell (Nat.le_refl _) _).setCell (Nat.le_refl _) _).setCell (Nat.le_refl _) _
  · have h := parseVersion_any s (m : Int) pe pn pi w (by omega) hV hasc (by omega)
    obtain ⟨k1, k2⟩ := kept_all hm
    unfold KeptBack
    rw [k1, k2]
    exact h
end Go.Proofs.YtgfkdjmoflbmdaaGreatDoor
