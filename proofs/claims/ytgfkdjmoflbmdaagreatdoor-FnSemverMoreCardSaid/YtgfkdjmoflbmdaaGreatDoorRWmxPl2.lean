/- Words for memory; PLAIN; DERIVED; DERIVED. -/
import Derived.WalkKit
import Derived.WalkLawsBesides
import Derived.WalkSpells
import Derived.KernelRfl
import Derived.Lib.Hide
import Derived.Lib.Strings
import Derived.Maps.AppendAt
import Derived.Deep.AppendLies
import Derived.Deep.LoopGhost
import Derived.Deep.Draws
import Derived.Laws.Rows
import Derived.Deep.QuietTactic
import Derived.BigQuiet
import Derived.Laws.OwnMore
import Derived.Laws.MakeOwn
import Derived.Laws.BytesString
import Derived.Laws.BytesArg
import Derived.Shelf.Small.Strs
import Derived.Shelf.Unicode.Latin
import Derived.Shelf.Bits.Mul64
import Derived.Test.YtgfkdjmoflbmdaaGreatDoorProg
import Derived.Shelf.Strings.Builder1
import Derived.Shelf.Strings.Builder2
import Derived.Shelf.Small.Bits
namespace Go.Proofs.YtgfkdjmoflbmdaaGreatDoor
open Go.RowKit
open Go.Proofs
abbrev S (l : List UInt8) : Value := .string ⟨l.toArray⟩
theorem S_data (l : List UInt8) : (⟨l.toArray⟩ : ByteArray).data.toList = l := rfl
theorem S_size (l : List UInt8) : (⟨l.toArray⟩ : ByteArray).size = l.length := rfl
theorem string_S (s : ByteArray) : Value.string s = S s.data.toList := rfl
theorem ret_bool {a b : Bool} (h : a = b) : Ending.returned (.bool a) = .returned (.bool b) := by rw [h]
theorem ret_int {k : IntKind} {a b : Int} (h : a = b) : Ending.returned (.int k a) = .returned (.int k b) := by rw [h]
theorem get_list (s : ByteArray) (k : Nat) (h : k < s.size) : s.data.toList[k]? = some s[k] := by
  rw [List.getElem?_eq_getElem (by simpa using h)]; rfl
theorem len_list (s : ByteArray) : s.data.toList.length = s.size := by cases s; rfl
theorem toList_eq (s : ByteArray) : s.toList = s.data.toList := ByteArray.toList_eq s
def Rd (w : World) (size : Nat) (A : Option Addr) (n : Nat) (xs : List Value) : Prop :=
  xs.length = n * size ∧ (0 < n → ∃ b o, A = some ⟨b, o, none⟩ ∧ ∀ j u, xs[j]? = some u → w.cell? ⟨b, o + j, none⟩ = some u)
section
variable {w w' : World} {B size n c : Nat} {A : Option Addr} {xs : List Value}
theorem Rd.nil (w : World) (size : Nat) (A : Option Addr) : Rd w size A 0 [] := ⟨by simp, fun h => absurd h (by omega)⟩
theorem Rd.keep (h : Rd w size A n xs) (hk : ∀ b o u, w.cell? ⟨b, o, none⟩ = some u → w'.cell? ⟨b, o, none⟩ = some u) : Rd w' size A n xs :=
  ⟨h.1, fun hn => by
    obtain ⟨b, o, e, hc⟩ := h.2 hn
    exact ⟨b, o, e, fun j u hu => hk _ _ _ (hc j u hu)⟩⟩
theorem Rd.below (h : Rd w size A n xs) (hb : Below w.heap.size w w') : Rd w' size A n xs :=
  h.keep fun b o _u hu => (hb.cell (p := ⟨b, o, none⟩) (World.block_lt_of_cell? w _ hu)).trans hu
theorem Rd.drew (h : Rd w size A n xs) : Rd w.drew size A n xs := h
theorem Rd.alloc (h : Rd w size A n xs) (o : Obj) : Rd (w.alloc o) size A n xs :=
  h.keep fun _ _ _ hu => (World.cell?_alloc_lt w _ _ (World.block_lt_of_cell? w _ hu)).trans hu
theorem Rd.of_own {base : Nat} {e : TypeId} (h : w.ownsRow base e size (.slice A n c) n xs) : Rd w size A n xs := by
  refine ⟨h.1, fun hn => ?_⟩
  obtain ⟨g, cap, hv, _, hlt⟩ := h.form hn
  have hA : A = some ⟨g, 0, none⟩ := by injection hv
  subst hA
  refine ⟨g, 0, rfl, fun j u hu => ?_⟩
  have := h.cells (g := g) rfl j u hu
  rw [Addr.add_lit] at this
  exact this
end
theorem below_drewN {B : Nat} {a w : World} (h : Below B a w) (n : Nat) : Below B a (w.drewN n) := ⟨h.os, h.tape, h.output, h.size, h.block⟩
theorem bcell {W w1 : World} (hb : Below W.heap.size W w1) : (∀ b o, b < W.heap.size → w1.cell? ⟨b, o, none⟩ = W.cell? ⟨b, o, none⟩) ∧ (∀ b o, b < W.heap.size → w1.frozen? ⟨b, o, none⟩ = W.frozen? ⟨b, o, none⟩) :=
  ⟨fun b o h => hb.cell (p := ⟨b, o, none⟩) h, fun b o h => hb.frozen (p := ⟨b, o, none⟩) h⟩
theorem cell_lts {w : World} {b o : Nat} {v : Value} (h : w.cell? ⟨b, o, none⟩ = some v) : b < w.heap.size ∧ b < w.heap.size + 1 ∧ b < w.heap.size + 2 ∧ b < w.heap.size + 3 := by
  have := World.block_lt_of_cell? w _ h
  simp only at this
  omega
theorem own_form {w : World} {base : Nat} {e : TypeId} {size : Nat} {v : Value} {n : Nat} {xs : List Value} (h : w.ownsRow base e size v n xs) : ∃ A c, v = .slice A n c := by
  rcases h.2 with ⟨rfl, rfl⟩ | ⟨g, cap, cur, hv, _⟩
  · exact ⟨_, _, rfl⟩
  · exact ⟨_, _, hv⟩
theorem ext_S (s : ByteArray) (a b : Nat) : Value.string (s.extract a b) = S ((s.data.toList.drop a).take (b - a)) := by
  rw [Lib.extract_eq]
theorem own_cast {w : World} {base : Nat} {e : TypeId} {size : Nat} {v : Value} {n m : Nat} {xs ys : List Value} (h : w.ownsRow base e size v n xs) (hn : n = m) (hx : xs = ys) : w.ownsRow base e size v m ys := by
  subst hn; subst hx; exact h
def B8 (l : List Nat) : List Value := l.map fun (d : Nat) => Value.int .u8 (d : Int)
theorem B8_get (l : List Nat) (j : Nat) (h : j < l.length) : (B8 l)[j]? = some (Value.int .u8 ((l[j] : Nat) : Int)) := by simp [B8, h]
theorem B8_len (l : List Nat) : (B8 l).length = l.length := by simp [B8]
theorem foldl_push (ds : List Nat) : ∀ b : ByteArray, (ds.map (fun d : Nat => (d : Int))).foldl (fun r n => r.push (UInt8.ofNat n.toNat)) b = ⟨(b.data.toList ++ ds.map UInt8.ofNat).toArray⟩ := by
  induction ds with
  | nil => intro b; simp
  | cons d ds ih =>
    intro b
    simp only [List.map_cons, List.foldl_cons, ih]
    congr 2
    simp [ByteArray.push]
theorem run_bytes_S {P : Program} (w : World) (src dst e : TypeId) (A : Option Addr) (n c : Nat) (ds : List Nat)
    (hs : P.underlying src = some (.slice e)) (he : P.underlying e = some (.int .u8)) (hd : P.underlying dst = some .string) (hr : Rd w 1 A n (B8 ds)) :
    (convert src dst (.slice A n c)).run P w = .ok (S (ds.map UInt8.ofNat)) w := by
  rw [run_convert_bytes_string w src dst e A n c hs he hd]
  have hl : ds.length = n := by have := hr.1; rw [B8_len] at this; omega
  cases A with
  | none =>
    have hn : n = 0 := by
      rcases Nat.eq_zero_or_pos n with h | h
      · exact h
      · obtain ⟨b, o, e, _⟩ := hr.2 h; cases e
    subst hn
    have : ds = [] := List.eq_nil_of_length_eq_zero hl
    subst this
    rfl
  | some a =>
    have hB : B8 ds = (ds.map (fun d : Nat => (d : Int))).map (Value.int .u8) := by simp [B8]
    have hload : (loadCells a n).run P w = .ok ((ds.map (fun d : Nat => (d : Int))).map (Value.int .u8)).toArray w := by
      have := run_loadCells_list (P := P) w a ((ds.map (fun d : Nat => (d : Int))).map (Value.int .u8)) (fun j v hj => by
        rw [← hB] at hj
        have hpos : 0 < n := by
          have := (List.getElem?_eq_some_iff.1 hj).1
          rw [B8_len] at this; omega
        obtain ⟨b, o, e, hc⟩ := hr.2 hpos
        injection e with e
        subst e
        rw [Addr.add_lit]
        exact hc j v hj)
      simpa [hl] using this
    rw [run_bytesToString (P := P) w a n c _ hload, foldl_push]
    rfl
theorem wpList_conv_S {P : Program} (w : World) {ops : Array Oper} {rest : List Oper} {o : Oper} {a : Act} {Q : Exit → Act → World → Prop} (hgd : o.guard = none) (x : Operand) (src dst e : TypeId)
    (ho : o.op = .convert src dst x) (hs : P.underlying src = some (.slice e)) (he : P.underlying e = some (.int .u8)) (hd : P.underlying dst = some .string)
    (A : Option Addr) (n c : Nat) (ds : List Nat) (hx : a.eval x = .slice A n c) (hr : Rd w 1 A n (B8 ds))
    (h : wpList P ops Q rest (a.put o.dst (S (ds.map UInt8.ofNat))) w) : wpList P ops Q (o :: rest) a w := by
  refine wpList_plain hgd fun K hK => ?_
  have hrun := run_bytes_S (P := P) w src dst e A n c ds hs he hd hr
  unfold Oper.wp
  simp [execOp, ho, hx, hrun, Result.andThen]
  exact hK _ _ h
theorem wpList_app1 {P : Program} (w : World) {ops : Array Oper} {rest : List Oper} {o : Oper} {a : Act} {Q : Exit → Act → World → Prop} (hgd : o.guard = none) (s x : Operand) (t : TypeId)
    (ho : o.op = .call { callee := .builtin .append, args := #[s, x], argTypes := #[t, t] })
    (base : Nat) (e : TypeId) (i : TypeInfo) (z : Value) (bytes : Nat) (ht : P.underlying t = some (.slice e)) (hi : P.info? e = some i) (hz : i.zero = some z)
    (hsize : i.size = 1) (hby : i.bytes = bytes) (hzs : z.cells.size = 1)
    (v : Value) (n : Nat) (xs : List Value) (hs : a.eval s = v) (hown : w.ownsRow base e 1 v n xs)
    (u : Value) (hx : a.eval x = .slice (some ⟨w.heap.size, 0, none⟩) 1 1) (h1 : u.oneCell' = true) (hbt : bytes ≤ 64) (hn : n ≤ 1000000) (hbase : base ≤ w.heap.size)
    (h : ∀ g cap w', w'.ownsRow base e 1 (.slice (some ⟨g, 0, none⟩) (n + 1) cap) (n + 1) (xs ++ [u]) → w.grownBy w' v.ownBlock → (v.ownBlock = some g ∨ w.heap.size ≤ g) → Below base w w' →
      wpList P ops Q rest (a.put o.dst (.slice (some ⟨g, 0, none⟩) (n + 1) cap)) w') : wpList P ops Q (o :: rest) a (w.alloc (.cells #[u] e)) := by
  have hbytes : (n + 1) * bytes ≤ 140737488355328 :=
    Nat.le_trans (Nat.mul_le_mul (show n + 1 ≤ 1000001 by omega) hbt) (by omega)
  refine wpList_append_lies (w.alloc (.cells #[u] e)) hgd s x t ho base e i z 1 bytes ht hi hz hsize hby hzs (by omega) v n xs hs (hown.alloc _) ⟨w.heap.size, 0, none⟩ 1 1 [u] hx rfl
    (World.news_of_block (heap_alloc_new w _)) (by simpa using h1) (by omega) (by unfold maxLen; omega) hbytes (by simp; omega) (w.heap.size + 1) (by simp) ?_
  intro g cap w' hown' hg hat _
  have hg2 : w.grownBy w' v.ownBlock := ⟨hg.os, hg.tape, hg.output, Nat.le_trans (by simp) hg.size, fun k hk hne => (hg.block k (by simp; omega) hne).trans (Below.heap_alloc _ _ _ hk)⟩
  refine h g cap w' hown' hg2 (hat.imp id (by omega)) ?_
  exact (Below.refl base w).grown hg2 hbase (fun k hk => (hown.lt k hk).1)
theorem quiet_left {P : Program} {f : FuncId} {args : Array Value} {w : World} {n : Nat} {v : Value}
    (h : Calls P f args (w.drewN n) fun e w' => e = .returned v ∧ w.drewN n = w') : Calls P f args (w.drewN n) fun e w'' => e = .returned v ∧ ∃ m, w'' = w.drewN m :=
  h.mono fun _ _ ⟨he, hm⟩ => ⟨he, n, hm.symm⟩
def Blk (w : World) (g : Nat) (t : TypeId) (cs : Array Value) : Prop := w.heap[g]? = some (.cells cs t (0, 0))
section
variable {w w' : World} {g : Nat} {t : TypeId} {cs : Array Value}
theorem Blk.lt (h : Blk w g t cs) : g < w.heap.size := by
  rcases Nat.lt_or_ge g w.heap.size with hlt | hge
  · exact hlt
  · unfold Blk at h; rw [Array.getElem?_eq_none hge] at h; cases h
theorem Blk.cell (h : Blk w g t cs) (i : Nat) : w.cell? ⟨g, i, none⟩ = cs[i]? := cell_of_row w g i cs t (0, 0) h
theorem Blk.frozen (h : Blk w g t cs) (i : Nat) : w.frozen? ⟨g, i, none⟩ = false := by
  unfold Blk at h
  simp [World.frozen?, h]
theorem Blk.new (w : World) (t : TypeId) (cs : Array Value) : Blk (w.alloc (.cells cs t)) w.heap.size t cs := heap_alloc_new w _
theorem Blk.drew (h : Blk w g t cs) : Blk w.drew g t cs := h
theorem Blk.drewN (h : Blk w g t cs) (n : Nat) : Blk (w.drewN n) g t cs := h
theorem Blk.alloc (h : Blk w g t cs) (o : Obj) : Blk (w.alloc o) g t cs := (Below.heap_alloc w o g h.lt).trans h
theorem Blk.set_ (h : Blk w g t cs) (i : Nat) (u : Value) : Blk (w.setCell ⟨g, i, none⟩ u) g t (cs.setIfInBounds i u) := by
  unfold Blk at h ⊢
  simp [World.setCell, Array.getElem?_modify, h]
theorem Blk.far (h : Blk w g t cs) {p : Addr} (hp : g ≠ p.block) (u : Value) : Blk (w.setCell p u) g t cs := (Below.heap_setCell w p u g hp).trans h
theorem Blk.below {B : Nat} (h : Blk w g t cs) (hb : Below B w w') (hg : g < B) : Blk w' g t cs := (hb.block g hg).trans h
theorem Blk.grown {row : Option Nat} (h : Blk w g t cs) (hb : w.grownBy w' row) (hg : some g ≠ row) : Blk w' g t cs := (hb.block g h.lt hg).trans h
theorem Blk.ne_ {g' : Nat} {t' : TypeId} {cs' : Array Value} (h : Blk w g t cs) (h' : Blk w g' t' cs') (hne : t ≠ t') : g ≠ g' := by
  rintro rfl
  unfold Blk at h h'
  rw [h] at h'
  injection h' with h'
  injection h' with _ ht
  exact hne ht
theorem own_blk_ne {base : Nat} {e : TypeId} {size n : Nat} {v : Value} {xs : List Value} (h : w.ownsRow base e size v n xs) (hg : Blk w g t cs) (hne : e ≠ t) : v.ownBlock ≠ some g := by
  rcases h.2 with ⟨rfl, _⟩ | ⟨g', cap, cur, rfl, _, hh, _⟩
  · simp [Value.ownBlock]
  · intro he
    have : g' = g := by simpa [Value.ownBlock] using he
    subst this
    exact Blk.ne_ (t := e) hh hg hne rfl
end
theorem own_own_ne {w : World} {b1 b2 : Nat} {e1 e2 : TypeId} {s1 s2 n1 n2 : Nat} {v1 v2 : Value} {xs ys : List Value} (h1 : w.ownsRow b1 e1 s1 v1 n1 xs) (h2 : w.ownsRow b2 e2 s2 v2 n2 ys) (hne : e1 ≠ e2) : v1.ownBlock = none ∨ v1.ownBlock ≠ v2.ownBlock := by
  rcases h1.2 with ⟨rfl, _⟩ | ⟨g, cap, cur, rfl, _, hh, _⟩
  · exact .inl rfl
  · refine .inr fun he => ?_
    exact own_blk_ne h2 (g := g) (t := e1) (cs := cur) hh (Ne.symm hne) (by rw [← he]; rfl)
theorem own_lower {w : World} {b1 b2 : Nat} {e : TypeId} {size n : Nat} {v : Value} {xs : List Value} (h : w.ownsRow b1 e size v n xs) (hb : b2 ≤ b1) : w.ownsRow b2 e size v n xs := by
  refine ⟨h.1, ?_⟩
  rcases h.2 with h2 | ⟨g, cap, cur, hv, hg, r⟩
  · exact .inl h2
  · exact .inr ⟨g, cap, cur, hv, by omega, r⟩
theorem own_below {w w' : World} {b : Nat} {e : TypeId} {size n : Nat} {v : Value} {xs : List Value} (h : w.ownsRow b e size v n xs) (hb : Below w.heap.size w w') : w'.ownsRow b e size v n xs := by
  refine ⟨h.1, ?_⟩
  rcases h.2 with h2 | ⟨g, cap, cur, hv, hg, hh, r⟩
  · exact .inl h2
  · exact .inr ⟨g, cap, cur, hv, hg, (hb.block g (Array.getElem?_eq_some_iff.1 hh).1).trans hh, r⟩
theorem own_far {w : World} {b : Nat} {e : TypeId} {size n : Nat} {v : Value} {xs : List Value} (h : w.ownsRow b e size v n xs) {p : Addr} (hp : v.ownBlock ≠ some p.block) (u : Value) : (w.setCell p u).ownsRow b e size v n xs := by
  refine ⟨h.1, ?_⟩
  rcases h.2 with h2 | ⟨g, cap, cur, hv, hg, hh, r⟩
  · exact .inl h2
  · refine .inr ⟨g, cap, cur, hv, hg, (Below.heap_setCell w p u g ?_).trans hh, r⟩
    rintro rfl
    subst hv
    exact hp rfl
theorem own_grown {w w' : World} {b : Nat} {e : TypeId} {size n : Nat} {v : Value} {xs : List Value} {row : Option Nat} (h : w.ownsRow b e size v n xs) (hg : w.grownBy w' row) (hne : row = none ∨ row ≠ v.ownBlock) : w'.ownsRow b e size v n xs := by
  refine ⟨h.1, ?_⟩
  rcases h.2 with h2 | ⟨g, cap, cur, hv, hb, hh, r⟩
  · exact .inl h2
  · refine .inr ⟨g, cap, cur, hv, hb, (hg.block g (Array.getElem?_eq_some_iff.1 hh).1 ?_).trans hh, r⟩
    intro e
    subst hv
    rcases hne with h | h
    · rw [h] at e; cases e
    · exact h e.symm
end Go.Proofs.YtgfkdjmoflbmdaaGreatDoor
namespace Go.Proofs.YtgfkdjmoflbmdaaGreatDoor.Pl
abbrev Bytes := List UInt8
def isDig (c : UInt8) : Bool := decide (48 ≤ c.toNat) && decide (c.toNat ≤ 57)
def allDig (l : Bytes) : Bool := l.all isDig && !l.isEmpty
def ascii (l : Bytes) : Bool := l.all fun c => decide (c.toNat ≤ 127)
def less : Bytes → Bytes → Bool
  | _, [] => false
  | [], _ :: _ => true
  | a :: x, b :: y => a < b || (a == b && less x y)
def ordB (a b : Bytes) : Int := if less a b = true then -1 else if less b a = true then 1 else 0
def ordI (a b : Int) : Int := if a < b then -1 else if b < a then 1 else 0
def stripZ : Bytes → Bytes
  | [] => []
  | c :: r => if c = 48 then stripZ r else c :: r
def ordNum (a b : Bytes) : Int :=
  if (stripZ a).length = (stripZ b).length then ordB (stripZ a) (stripZ b) else ordI (stripZ a).length (stripZ b).length
def ordMag (a b : Bytes) : Int := if a.length = b.length then ordB a b else ordI a.length b.length
def idOne (a b : Bytes) : Int :=
  if allDig a = true then (if allDig b = true then ordNum a b else -1) else if allDig b = true then 1 else ordB a b
def idxOf (c : UInt8) : Bytes → Option Nat
  | [] => none
  | d :: r => if d = c then some 0 else (idxOf c r).map (· + 1)
def splitB (c : UInt8) : Bytes → List Bytes
  | [] => [[]]
  | d :: r => if d = c then [] :: splitB c r else match splitB c r with
    | [] => [[d]]
    | p :: ps => (d :: p) :: ps
def cmpN (a b : Nat) : Int := if a < b then -1 else if b < a then 1 else 0
def digs (b n : Nat) : List Nat :=
  if _h : n = 0 ∨ b < 2 then [] else n % b :: digs b (n / b)
  termination_by n
  decreasing_by exact Nat.div_lt_self (by omega) (by omega)
def val (b : Nat) : List Nat → Nat
  | [] => 0
  | d :: r => d + b * val b r
theorem val_digs (b n : Nat) (hb : 2 ≤ b) : val b (digs b n) = n := by
  induction n using Nat.strongRecOn with
  | _ n ih =>
    unfold digs
    by_cases h : n = 0
    · simp [h, val]
    · rw [dif_neg (by omega)]
      simp only [val]
      rw [ih (n / b) (Nat.div_lt_self (by omega) (by omega))]
      exact Nat.mod_add_div n b
theorem digs_lt (b n : Nat) (hb : 2 ≤ b) : ∀ d ∈ digs b n, d < b := by
  induction n using Nat.strongRecOn with
  | _ n ih =>
    unfold digs
    by_cases h : n = 0
    · simp [h]
    · rw [dif_neg (by omega)]
      intro d hd
      rcases List.mem_cons.1 hd with rfl | hd
      · exact Nat.mod_lt _ (by omega)
      · exact ih (n / b) (Nat.div_lt_self (by omega) (by omega)) d hd
def Normd (l : List Nat) : Prop := l.getLast? ≠ some 0
theorem val_lt (b : Nat) (l : List Nat) (h : ∀ d ∈ l, d < b) : val b l < b ^ l.length := by
  induction l with
  | nil => simp [val]
  | cons d r ih =>
    have h1 : d < b := h d (by simp)
    have h2 := ih (fun x hx => h x (by simp [hx]))
    simp only [val, List.length_cons, Nat.pow_succ]
    calc d + b * val b r < b + b * val b r := by omega
      _ = b * (val b r + 1) := by rw [Nat.mul_add, Nat.mul_one]; omega
      _ ≤ b * b ^ r.length := Nat.mul_le_mul_left _ h2
      _ = b ^ r.length * b := Nat.mul_comm _ _
theorem val_append (b : Nat) (l m : List Nat) : val b (l ++ m) = val b l + b ^ l.length * val b m := by
  induction l with
  | nil => simp [val]
  | cons d r ih =>
    simp only [List.cons_append, val, ih, List.length_cons, Nat.pow_succ]
    rw [Nat.mul_add, Nat.add_assoc]
    congr 2
    rw [← Nat.mul_assoc, Nat.mul_comm b]
theorem val_ge (b : Nat) (l : List Nat) (hn : Normd l) (hl : l ≠ []) : b ^ (l.length - 1) ≤ val b l := by
  obtain ⟨r, d, rfl⟩ : ∃ r d, l = r ++ [d] := ⟨l.dropLast, l.getLast hl, (List.dropLast_concat_getLast hl).symm⟩
  have hd : d ≠ 0 := by
    intro h
    subst h
    simp [Normd] at hn
  rw [val_append]
  simp only [List.length_append, List.length_cons, List.length_nil, val]
  have : b ^ (r.length + (0 + 1) - 1) = b ^ r.length := by congr 1
  rw [this]
  have h1 : 1 ≤ d + b * 0 := by omega
  calc b ^ r.length = b ^ r.length * 1 := by rw [Nat.mul_one]
    _ ≤ b ^ r.length * (d + b * 0) := Nat.mul_le_mul_left _ h1
    _ ≤ _ := by omega
end Go.Proofs.YtgfkdjmoflbmdaaGreatDoor.Pl
namespace Go.Proofs
open Go.Shelf
def Tryz.lays213_ren : Go.Shelf.Ren := ⟨fun | 213 => 135 | 265 => 150 | n => n, fun | 9 => 9 | 3 => 3 | n => n, fun | n => n⟩
theorem Tryz.lays213 : Go.Proofs.Lays.n213 Tryz.prog Tryz.lays213_ren := {
  mixed := by kernel_rfl
  f213 := Tryz.func135.trans (congrArg some (by kernel_rfl))
  f265 := Tryz.func150.trans (congrArg some (by kernel_rfl))
  t3 := Tryz.underlying3
  a3 := Tryz.isAgg3
  z3 := Tryz.sizeOf3
  v3 := Tryz.zeroValue3
  t9 := Tryz.underlying9
  a9 := Tryz.isAgg9
  z9 := Tryz.sizeOf9
  v9 := Tryz.zeroValue9 }
open Go.RowKit in
theorem Tryz.bytealg_CompareString (a b : ByteArray) (w : World) :
    Calls Tryz.prog 135 #[.string a, .string b] w fun e w' => e = .returned (.int .i64 (Lib.compareBytes a.data.toList b.data.toList)) ∧ w' = w := Any.bytealg_CompareString Tryz.lays213 a b w
def Tryz.lays106_ren : Go.Shelf.Ren := ⟨fun | 106 => 116 | 213 => 135 | 265 => 150 | n => n, fun | 9 => 9 | 3 => 3 | n => n, fun | n => n⟩
theorem Tryz.lays106 : Go.Proofs.Lays.n106 Tryz.prog Tryz.lays106_ren := {
  mixed := by kernel_rfl
  f106 := Tryz.func116.trans (congrArg some (by kernel_rfl))
  f213 := Tryz.func135.trans (congrArg some (by kernel_rfl))
  f265 := Tryz.func150.trans (congrArg some (by kernel_rfl))
  t3 := Tryz.underlying3
  a3 := Tryz.isAgg3
  z3 := Tryz.sizeOf3
  v3 := Tryz.zeroValue3
  t9 := Tryz.underlying9
  a9 := Tryz.isAgg9
  z9 := Tryz.sizeOf9
  v9 := Tryz.zeroValue9 }
open Go.RowKit in
theorem Tryz.strings_Compare (a b : ByteArray) (w : World) :
    Calls Tryz.prog 116 #[.string a, .string b] w fun e w' => e = .returned (.int .i64 (Lib.compareBytes a.data.toList b.data.toList)) ∧ w' = w := Any.strings_Compare Tryz.lays106 a b w
def Tryz.lays204_ren : Go.Shelf.Ren := ⟨fun | 204 => 139 | 262 => 156 | 313 => 167 | 274 => 185 | 275 => 186 | n => n, fun | 21 => 21 | 4 => 4 | 3 => 3 | 162 => 192 | 203 => 190 | 160 => 213 | 46 => 113 | 0 => 0 | 208 => 238 | 51 => 212 | 206 => 236 | n => n, fun | 13 => 6 | n => n⟩
theorem Tryz.lays204 : Go.Proofs.Lays.n204 Tryz.prog Tryz.lays204_ren := {
  mixed := by kernel_rfl
  f204 := Tryz.func139.trans (congrArg some (by kernel_rfl))
  f262 := Tryz.func156.trans (congrArg some (by kernel_rfl))
  f274 := Tryz.func185.trans (congrArg some (by kernel_rfl))
  f275 := Tryz.func186.trans (congrArg some (by kernel_rfl))
  f313 := Tryz.func167.trans (congrArg some (by kernel_rfl))
  t0 := Tryz.underlying0
  a0 := Tryz.isAgg0
  z0 := Tryz.sizeOf0
  v0 := Tryz.zeroValue0
  t3 := Tryz.underlying3
  a3 := Tryz.isAgg3
  z3 := Tryz.sizeOf3
  v3 := Tryz.zeroValue3
  t4 := Tryz.underlying4
  a4 := Tryz.isAgg4
  z4 := Tryz.sizeOf4
  v4 := Tryz.zeroValue4
  t21 := Tryz.underlying21
  a21 := Tryz.isAgg21
  z21 := Tryz.sizeOf21
  v21 := Tryz.zeroValue21
  t46 := Tryz.underlying113
  a46 := Tryz.isAgg113
  z46 := Tryz.sizeOf113
  v46 := Tryz.zeroValue113
  t51 := Tryz.underlying212
  a51 := Tryz.isAgg212
  z51 := Tryz.sizeOf212
  v51 := Tryz.zeroValue212
  t160 := Tryz.underlying213
  a160 := Tryz.isAgg213
  z160 := Tryz.sizeOf213
  v160 := Tryz.zeroValue213
  t162 := Tryz.underlying192
  a162 := Tryz.isAgg192
  z162 := Tryz.sizeOf192
  v162 := Tryz.zeroValue192
  t203 := Tryz.underlying190
  a203 := Tryz.isAgg190
  z203 := Tryz.sizeOf190
  v203 := Tryz.zeroValue190
  t206 := Tryz.underlying236
  a206 := Tryz.isAgg236
  z206 := Tryz.sizeOf236
  v206 := Tryz.zeroValue236
  t208 := Tryz.underlying238
  a208 := Tryz.isAgg238
  z208 := Tryz.sizeOf238
  v208 := Tryz.zeroValue238
  g13 := by kernel_rfl }
open Go.RowKit Go.Lib in
theorem Tryz.unicode_ToLower (r : Int) (w : World) (h : r ≤ 127) :
    Calls Tryz.prog 139 #[.int .i32 r] w fun e w' => e = .returned (.int .i32 (Lib.toLowerR r)) ∧ w' = w := Any.unicode_ToLower Tryz.lays204 r w h
def Tryz.lays264_ren : Go.Shelf.Ren := ⟨fun | 264 => 264 | n => n, fun | 53 => 136 | 46 => 113 | n => n, fun | n => n⟩
theorem Tryz.lays264 : Go.Proofs.Lays.n264 Tryz.prog Tryz.lays264_ren := {
  mixed := by kernel_rfl
  f264 := Tryz.func264.trans (congrArg some (by kernel_rfl))
  t46 := Tryz.underlying113
  a46 := Tryz.isAgg113
  z46 := Tryz.sizeOf113
  v46 := Tryz.zeroValue113
  t53 := Tryz.underlying136
  a53 := Tryz.isAgg136
  z53 := Tryz.sizeOf136
  v53 := Tryz.zeroValue136 }
open Go.RowKit Go.Lib in
theorem Tryz.bits_Mul64 (x y : Nat) (hx : x < 18446744073709551616) (hy : y < 18446744073709551616) (w : World) :
    Calls Tryz.prog 264 #[.int .u64 x, .int .u64 y] w fun e w' => e = .returned (.tuple #[.int .u64 ((x * y / 18446744073709551616 : Nat) : Int), .int .u64 ((x * y % 18446744073709551616 : Nat) : Int)]) ∧ w' = w := Any.bits_Mul64 Tryz.lays264 x y hx hy w
def Tryz.lays212_ren : Go.Shelf.Ren := ⟨fun | 212 => 229 | 263 => 263 | 264 => 264 | n => n, fun | 46 => 113 | 51 => 212 | 146 => 281 | 53 => 136 | 148 => 283 | n => n, fun | n => n⟩
theorem Tryz.lays212 : Go.Proofs.Lays.n212 Tryz.prog Tryz.lays212_ren := {
  mixed := by kernel_rfl
  f212 := Tryz.func229.trans (congrArg some (by kernel_rfl))
  f263 := Tryz.func263.trans (congrArg some (by kernel_rfl))
  f264 := Tryz.func264.trans (congrArg some (by kernel_rfl))
  t46 := Tryz.underlying113
  a46 := Tryz.isAgg113
  z46 := Tryz.sizeOf113
  v46 := Tryz.zeroValue113
  t51 := Tryz.underlying212
  a51 := Tryz.isAgg212
  z51 := Tryz.sizeOf212
  v51 := Tryz.zeroValue212
  t53 := Tryz.underlying136
  a53 := Tryz.isAgg136
  z53 := Tryz.sizeOf136
  v53 := Tryz.zeroValue136
  t146 := Tryz.underlying281
  a146 := Tryz.isAgg281
  z146 := Tryz.sizeOf281
  v146 := Tryz.zeroValue281
  t148 := Tryz.underlying283
  a148 := Tryz.isAgg283
  z148 := Tryz.sizeOf283
  v148 := Tryz.zeroValue283 }
open Go.RowKit Go.Lib in
theorem Tryz.bits_Mul (x y : Nat) (hx : x < 18446744073709551616) (hy : y < 18446744073709551616) (w : World) :
    Calls Tryz.prog 229 #[.int .u64 x, .int .u64 y] w fun e w' => e = .returned (.tuple #[.int .u64 ((x * y / 18446744073709551616 : Nat) : Int), .int .u64 ((x * y % 18446744073709551616 : Nat) : Int)]) ∧ w' = w := Any.bits_Mul Tryz.lays212 x y hx hy w
def Tryz.lays169_ren : Go.Shelf.Ren := ⟨fun | 169 => 133 | n => n, fun | 70 => 147 | 9 => 9 | 0 => 0 | 72 => 149 | 37 => 91 | 127 => 172 | 3 => 3 | 5 => 5 | n => n, fun | n => n⟩
theorem Tryz.lays169 : Go.Proofs.Lays.n169 Tryz.prog Tryz.lays169_ren := {
  mixed := by kernel_rfl
  f169 := Tryz.func133.trans (congrArg some (by kernel_rfl))
  t0 := Tryz.underlying0
  a0 := Tryz.isAgg0
  z0 := Tryz.sizeOf0
  v0 := Tryz.zeroValue0
  t3 := Tryz.underlying3
  a3 := Tryz.isAgg3
  z3 := Tryz.sizeOf3
  v3 := Tryz.zeroValue3
  t9 := Tryz.underlying9
  a9 := Tryz.isAgg9
  z9 := Tryz.sizeOf9
  v9 := Tryz.zeroValue9
  t37 := Tryz.underlying91
  a37 := Tryz.isAgg91
  z37 := Tryz.sizeOf91
  v37 := Tryz.zeroValue91
  t70 := Tryz.underlying147
  a70 := Tryz.isAgg147
  z70 := Tryz.sizeOf147
  v70 := Tryz.zeroValue147
  t72 := Tryz.underlying149
  a72 := Tryz.isAgg149
  z72 := Tryz.sizeOf149
  v72 := Tryz.zeroValue149
  t127 := Tryz.underlying172
  a127 := Tryz.isAgg172
  z127 := Tryz.sizeOf172
  v127 := Tryz.zeroValue172 }
theorem Tryz.Builder_Extra_169 : Builder.Extra Tryz.prog Tryz.lays169_ren := {
  sizeBuilder := by kernel_rfl
  liesBuilder := by kernel_rfl
  t5 := Tryz.underlying5
  a5 := Tryz.isAgg5
  z5 := Tryz.sizeOf5
  v5 := Tryz.zeroValue5
  infoByte := by kernel_rfl
  cellsByte := by kernel_rfl
  sizeByte := by kernel_rfl
  neB5 := by decide }
open Go.RowKit in
theorem Tryz.Builder_String (B b : Nat) (l : List UInt8) (w : World) (h : Lib.IsBuilder 149 5 B b (Lib.byteCells l) w) (h0 : l ≠ []) :
    Calls Tryz.prog 133 #[.pointer (some ⟨b, 0, none⟩)] w fun e w' => e = .returned (.string ⟨l.toArray⟩) ∧ Below B w w' := Any.Builder_String Tryz.lays169 Tryz.Builder_Extra_169 B b l w h h0
open Go.RowKit in
theorem Tryz.Builder_String_empty (B b : Nat) (w : World) (h : Lib.IsBuilder 149 5 B b [] w) (hBw : B ≤ w.heap.size) :
    Calls Tryz.prog 133 #[.pointer (some ⟨b, 0, none⟩)] w fun e w' => e = .returned (.string ⟨#[]⟩) ∧ Below B w w' := Any.Builder_String_empty Tryz.lays169 Tryz.Builder_Extra_169 B b w h hBw
open Go.RowKit in
theorem Tryz.Builder_String_any (B b : Nat) (l : List UInt8) (w : World) (h : Lib.IsBuilder 149 5 B b (Lib.byteCells l) w) (hBw : B ≤ w.heap.size) :
    Calls Tryz.prog 133 #[.pointer (some ⟨b, 0, none⟩)] w fun e w' => e = .returned (.string ⟨l.toArray⟩) ∧ Below B w w' := Any.Builder_String_any Tryz.lays169 Tryz.Builder_Extra_169 B b l w h hBw
def Tryz.lays125_ren : Go.Shelf.Ren := ⟨fun | 125 => 194 | 128 => 206 | 129 => 207 | n => n, fun | 46 => 113 | 3 => 3 | 51 => 212 | 53 => 136 | 4 => 4 | 5 => 5 | 9 => 9 | n => n, fun | n => n⟩
theorem Tryz.lays125 : Go.Proofs.Lays.n125 Tryz.prog Tryz.lays125_ren := {
  mixed := by kernel_rfl
  f125 := Tryz.func194.trans (congrArg some (by kernel_rfl))
  f128 := Tryz.func206.trans (congrArg some (by kernel_rfl))
  f129 := Tryz.func207.trans (congrArg some (by kernel_rfl))
  t3 := Tryz.underlying3
  a3 := Tryz.isAgg3
  z3 := Tryz.sizeOf3
  v3 := Tryz.zeroValue3
  t4 := Tryz.underlying4
  a4 := Tryz.isAgg4
  z4 := Tryz.sizeOf4
  v4 := Tryz.zeroValue4
  t5 := Tryz.underlying5
  a5 := Tryz.isAgg5
  z5 := Tryz.sizeOf5
  v5 := Tryz.zeroValue5
  t9 := Tryz.underlying9
  a9 := Tryz.isAgg9
  z9 := Tryz.sizeOf9
  v9 := Tryz.zeroValue9
  t46 := Tryz.underlying113
  a46 := Tryz.isAgg113
  z46 := Tryz.sizeOf113
  v46 := Tryz.zeroValue113
  t51 := Tryz.underlying212
  a51 := Tryz.isAgg212
  z51 := Tryz.sizeOf212
  v51 := Tryz.zeroValue212
  t53 := Tryz.underlying136
  a53 := Tryz.isAgg136
  z53 := Tryz.sizeOf136
  v53 := Tryz.zeroValue136 }
theorem Tryz.bits_Len (x : Int) (w : World) (h0 : 0 ≤ x) (h1 : x ≤ 18446744073709551615) :
    Calls Tryz.prog 194 #[.int .u64 x] w fun e w' => e = .returned (.int .i64 (Lib.bitLen x.toNat)) ∧ w' = w := Any.bits_Len Tryz.lays125 x w h0 h1
def Tryz.lays134_ren : Go.Shelf.Ren := ⟨fun | 134 => 286 | 129 => 207 | n => n, fun | 53 => 136 | 3 => 3 | 4 => 4 | 46 => 113 | 5 => 5 | 9 => 9 | n => n, fun | n => n⟩
theorem Tryz.lays134 : Go.Proofs.Lays.n134 Tryz.prog Tryz.lays134_ren := {
  mixed := by kernel_rfl
  f129 := Tryz.func207.trans (congrArg some (by kernel_rfl))
  f134 := Tryz.func286.trans (congrArg some (by kernel_rfl))
  t3 := Tryz.underlying3
  a3 := Tryz.isAgg3
  z3 := Tryz.sizeOf3
  v3 := Tryz.zeroValue3
  t4 := Tryz.underlying4
  a4 := Tryz.isAgg4
  z4 := Tryz.sizeOf4
  v4 := Tryz.zeroValue4
  t5 := Tryz.underlying5
  a5 := Tryz.isAgg5
  z5 := Tryz.sizeOf5
  v5 := Tryz.zeroValue5
  t9 := Tryz.underlying9
  a9 := Tryz.isAgg9
  z9 := Tryz.sizeOf9
  v9 := Tryz.zeroValue9
  t46 := Tryz.underlying113
  a46 := Tryz.isAgg113
  z46 := Tryz.sizeOf113
  v46 := Tryz.zeroValue113
  t53 := Tryz.underlying136
  a53 := Tryz.isAgg136
  z53 := Tryz.sizeOf136
  v53 := Tryz.zeroValue136 }
theorem Tryz.bits_LeadingZeros64 (x : Int) (w : World) (h0 : 0 ≤ x) (h1 : x ≤ 18446744073709551615) :
    Calls Tryz.prog 286 #[.int .u64 x] w fun e w' => e = .returned (.int .i64 (64 - (Lib.bitLen x.toNat : Int))) ∧ w' = w := Any.bits_LeadingZeros64 Tryz.lays134 x w h0 h1
def Tryz.lays130_ren : Go.Shelf.Ren := ⟨fun | 130 => 261 | 125 => 194 | 128 => 206 | 129 => 207 | n => n, fun | 46 => 113 | 3 => 3 | 51 => 212 | 53 => 136 | 4 => 4 | 5 => 5 | 9 => 9 | n => n, fun | n => n⟩
theorem Tryz.lays130 : Go.Proofs.Lays.n130 Tryz.prog Tryz.lays130_ren := {
  mixed := by kernel_rfl
  f125 := Tryz.func194.trans (congrArg some (by kernel_rfl))
  f128 := Tryz.func206.trans (congrArg some (by kernel_rfl))
  f129 := Tryz.func207.trans (congrArg some (by kernel_rfl))
  f130 := Tryz.func261.trans (congrArg some (by kernel_rfl))
  t3 := Tryz.underlying3
  a3 := Tryz.isAgg3
  z3 := Tryz.sizeOf3
  v3 := Tryz.zeroValue3
  t4 := Tryz.underlying4
  a4 := Tryz.isAgg4
  z4 := Tryz.sizeOf4
  v4 := Tryz.zeroValue4
  t5 := Tryz.underlying5
  a5 := Tryz.isAgg5
  z5 := Tryz.sizeOf5
  v5 := Tryz.zeroValue5
  t9 := Tryz.underlying9
  a9 := Tryz.isAgg9
  z9 := Tryz.sizeOf9
  v9 := Tryz.zeroValue9
  t46 := Tryz.underlying113
  a46 := Tryz.isAgg113
  z46 := Tryz.sizeOf113
  v46 := Tryz.zeroValue113
  t51 := Tryz.underlying212
  a51 := Tryz.isAgg212
  z51 := Tryz.sizeOf212
  v51 := Tryz.zeroValue212
  t53 := Tryz.underlying136
  a53 := Tryz.isAgg136
  z53 := Tryz.sizeOf136
  v53 := Tryz.zeroValue136 }
theorem Tryz.bits_LeadingZeros (x : Int) (w : World) (h0 : 0 ≤ x) (h1 : x ≤ 18446744073709551615) :
    Calls Tryz.prog 261 #[.int .u64 x] w fun e w' => e = .returned (.int .i64 (64 - (Lib.bitLen x.toNat : Int))) ∧ w' = w := Any.bits_LeadingZeros Tryz.lays130 x w h0 h1
end Go.Proofs
namespace Go.Proofs.YtgfkdjmoflbmdaaGreatDoor.Pl
theorem splitB_ne (c : UInt8) (l : Bytes) : splitB c l ≠ [] := by
  induction l with
  | nil => simp [splitB]
  | cons d r ih =>
    unfold splitB
    by_cases h : d = c
    · simp [h]
    · rw [if_neg h]
      cases hs : splitB c r <;> simp
theorem splitB_hit (c : UInt8) : ∀ (m : Nat) (l : Bytes), l[m]? = some c → (∀ j, j < m → l[j]? ≠ some c) → splitB c l = l.take m :: splitB c (l.drop (m + 1))
  | 0, l, hm, _ => by
    cases l with
    | nil => simp at hm
    | cons d r =>
      obtain rfl : d = c := by simpa using hm
      simp [splitB]
  | m + 1, l, hm, hno => by
    cases l with
    | nil => simp at hm
    | cons d r =>
      have hd : d ≠ c := fun e => hno 0 (by omega) (by simp [e])
      have ih := splitB_hit c m r (by simpa using hm) (fun j hj => by simpa using hno (j + 1) (by omega))
      simp only [splitB, if_neg hd, ih, List.take_succ_cons, List.drop_succ_cons]
theorem splitB_none (c : UInt8) : ∀ (l : Bytes), (∀ j : Nat, j < l.length → l[j]? ≠ some c) → splitB c l = [l]
  | [], _ => rfl
  | d :: r, hno => by
    have hd : d ≠ c := fun e => hno 0 (by simp) (by simp [e])
    have ih := splitB_none c r (fun j hj => by simpa using hno (j + 1) (by simp; omega))
    simp only [splitB, if_neg hd, ih]
def CutAt (c : UInt8) (l : Bytes) (f k : Nat) (ps : List Bytes) : Prop :=
  f ≤ k ∧ (k ≤ l.length → splitB c l = ps ++ splitB c (l.drop f) ∧ ∀ j, f ≤ j → j < k → l[j]? ≠ some c) ∧ (l.length < k → k = l.length + 1 ∧ ps = splitB c l)
theorem CutAt.start (c : UInt8) (l : Bytes) : CutAt c l 0 0 [] := ⟨Nat.le_refl _, fun _ => ⟨by simp, fun j _ h => absurd h (by omega)⟩, fun h => absurd h (by omega)⟩
theorem CutAt.miss {c : UInt8} {l : Bytes} {f k : Nat} {ps : List Bytes} (h : CutAt c l f k ps) (hk : k < l.length) (hm : l[k]? ≠ some c) : CutAt c l f (k + 1) ps := by
  obtain ⟨h1, h2, h3⟩ := h
  obtain ⟨ha, hb⟩ := h2 (by omega)
  refine ⟨by omega, fun _ => ⟨ha, fun j hj hj2 => ?_⟩, fun h => absurd h (by omega)⟩
  by_cases e : j = k
  · subst e; exact hm
  · exact hb j hj (by omega)
theorem CutAt.hit {c : UInt8} {l : Bytes} {f k : Nat} {ps : List Bytes} (h : CutAt c l f k ps) (hk : l[k]? = some c) : CutAt c l (k + 1) (k + 1) (ps ++ [(l.drop f).take (k - f)]) := by
  obtain ⟨h1, h2, h3⟩ := h
  have hlt : k < l.length := (List.getElem?_eq_some_iff.1 hk).1
  obtain ⟨ha, hb⟩ := h2 (by omega)
  refine ⟨by omega, fun _ => ⟨?_, fun j hj hj2 => absurd hj2 (by omega)⟩, fun h => absurd h (by omega)⟩
  rw [ha, splitB_hit c (k - f) (l.drop f) (by rw [List.getElem?_drop, show f + (k - f) = k from by omega]; exact hk)
    (fun j hj => by rw [List.getElem?_drop]; exact hb _ (by omega) (by omega)), List.drop_drop, show f + (k - f + 1) = k + 1 from by omega]
  simp
theorem CutAt.last {c : UInt8} {l : Bytes} {f k : Nat} {ps : List Bytes} (h : CutAt c l f k ps) (hk : k = l.length) : CutAt c l (k + 1) (k + 1) (ps ++ [(l.drop f).take (k - f)]) := by
  obtain ⟨h1, h2, h3⟩ := h
  obtain ⟨ha, hb⟩ := h2 (by omega)
  refine ⟨by omega, fun h => absurd h (by omega), fun _ => ⟨by omega, ?_⟩⟩
  rw [ha, splitB_none c (l.drop f) (fun j hj => by rw [List.getElem?_drop]; rw [List.length_drop] at hj; exact hb _ (by omega) (by omega)), List.take_of_length_le (by rw [List.length_drop]; omega)]
theorem CutAt.done {c : UInt8} {l : Bytes} {f k : Nat} {ps : List Bytes} (h : CutAt c l f k ps) (hk : l.length < k) : ps = splitB c l := (h.2.2 hk).2
theorem splitB_length (c : UInt8) (l : Bytes) : (splitB c l).length ≤ l.length + 1 := by
  induction l with
  | nil => simp [splitB]
  | cons d r ih =>
    unfold splitB
    by_cases h : d = c
    · simp [h]; omega
    · rw [if_neg h]
      cases hs : splitB c r with
      | nil => simp
      | cons p ps => rw [hs] at ih; simp at ih ⊢; omega
theorem CutAt.short {c : UInt8} {l : Bytes} {f k : Nat} {ps : List Bytes} (h : CutAt c l f k ps) : ps.length ≤ l.length + 1 := by
  obtain ⟨h1, h2, h3⟩ := h
  have hl := splitB_length c l
  by_cases hk : k ≤ l.length
  · rw [(h2 hk).1, List.length_append] at hl; omega
  · rw [(h3 (by omega)).2]; exact hl
theorem splitB_mem (c : UInt8) : ∀ (l : Bytes), ∀ p ∈ splitB c l, p.length ≤ l.length ∧ ∀ x ∈ p, x ∈ l
  | [], p, hp => by simp [splitB] at hp; subst hp; simp
  | d :: r, p, hp => by
    unfold splitB at hp
    by_cases h : d = c
    · rw [if_pos h] at hp
      rcases List.mem_cons.1 hp with rfl | hp
      · simp
      · have := splitB_mem c r p hp
        exact ⟨by simp; omega, fun x hx => List.mem_cons_of_mem _ (this.2 x hx)⟩
    · rw [if_neg h] at hp
      cases hs : splitB c r with
      | nil => exact absurd hs (splitB_ne c r)
      | cons q qs =>
        have ih := fun x hx => splitB_mem c r x (by rw [hs]; exact hx)
        rw [hs] at hp
        rcases List.mem_cons.1 hp with rfl | hp
        · have := ih q (by simp)
          refine ⟨by simp; omega, fun x hx => ?_⟩
          rcases List.mem_cons.1 hx with rfl | hx
          · simp
          · exact List.mem_cons_of_mem _ (this.2 x hx)
        · have := ih p (by simp [hp])
          exact ⟨by simp; omega, fun x hx => List.mem_cons_of_mem _ (this.2 x hx)⟩
theorem splitB_no (c : UInt8) : ∀ (l : Bytes), ∀ p ∈ splitB c l, ∀ x ∈ p, x ≠ c
  | [], p, hp => by simp [splitB] at hp; subst hp; simp
  | d :: r, p, hp => by
    unfold splitB at hp
    by_cases h : d = c
    · rw [if_pos h] at hp
      rcases List.mem_cons.1 hp with rfl | hp
      · simp
      · exact splitB_no c r p hp
    · rw [if_neg h] at hp
      cases hs : splitB c r with
      | nil => exact absurd hs (splitB_ne c r)
      | cons q qs =>
        have ih := fun x hx => splitB_no c r x (by rw [hs]; exact hx)
        rw [hs] at hp
        rcases List.mem_cons.1 hp with rfl | hp
        · intro x hx
          rcases List.mem_cons.1 hx with rfl | hx
          · exact h
          · exact ih q (by simp) x hx
        · exact ih p (by simp [hp])
theorem all_takeWhile (p : UInt8 → Bool) : ∀ (l : Bytes), ∀ x ∈ l.takeWhile p, p x = true
  | [], x, h => by simp at h
  | d :: r, x, h => by
    by_cases hd : p d = true
    · rw [List.takeWhile_cons_of_pos hd] at h
      rcases List.mem_cons.1 h with rfl | h
      · exact hd
      · exact all_takeWhile p r x h
    · rw [List.takeWhile_cons_of_neg hd] at h
      simp at h
end Go.Proofs.YtgfkdjmoflbmdaaGreatDoor.Pl
