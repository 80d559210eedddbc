/- Words in arrays, by places; What a call changes, by places; The working stack of the divisions. -/
import Derived.Test.YtgfkdjmoflbmdaaGreatDoorRQixQk
import Derived.Defers
namespace Go.Proofs.YtgfkdjmoflbmdaaGreatDoor
open Go.RowKit
open Go.Proofs
def Arr (w : World) (b N : Nat) : Prop := ∃ l : List Value, Blk w b 179 l.toArray ∧ l.length = N
structure Wr (w w' : World) (b o n : Nat) : Prop where
  grown : w.grownBy w' (some b)
  arr : ∀ N, Arr w b N → Arr w' b N
  keep : ∀ off u, (off < o ∨ o + n ≤ off) → w.cell? ⟨b, off, none⟩ = some u → w'.cell? ⟨b, off, none⟩ = some u
section
variable {w w' w'' : World} {b o n bx ox N : Nat} {xs : List Nat}
theorem WAt.lt (h : WAt w bx ox xs) (h0 : 0 < xs.length) : bx < w.heap.size := World.block_lt_of_cell? w _ (h 0 h0)
theorem Arr.lt (h : Arr w b N) : b < w.heap.size := by obtain ⟨l, hB, _⟩ := h; exact hB.lt
theorem Arr.below (h : Arr w b N) (hb : Below w.heap.size w w') : Arr w' b N := by
  obtain ⟨l, hB, hl⟩ := h
  exact ⟨l, hB.below hb hB.lt, hl⟩
theorem WAt.below (h : WAt w bx ox xs) (hb : Below w.heap.size w w') : WAt w' bx ox xs := fun j hj =>
  (hb.cell (p := ⟨bx, ox + j, none⟩) (World.block_lt_of_cell? w _ (h j hj))).trans (h j hj)
theorem Wr.at (h : Wr w w' b o n) (hx : WAt w bx ox xs) (hd : bx ≠ b ∨ ox + xs.length ≤ o ∨ o + n ≤ ox) : WAt w' bx ox xs := by
  intro j hj
  have h0 := hx j hj
  by_cases hb : bx = b
  · subst hb
    refine h.keep (ox + j) _ ?_ h0
    rcases hd with hd | hd | hd
    · exact absurd rfl hd
    · left; omega
    · right; omega
  · exact (World.cell?_of_block (h.grown.block bx (World.block_lt_of_cell? w _ h0) (by simpa using hb))).trans h0
theorem Wr.arr' (h : Wr w w' b o n) (hx : Arr w bx N) : Arr w' bx N := by
  by_cases hb : bx = b
  · subst hb; exact h.arr N hx
  · obtain ⟨l, hB, hl⟩ := hx
    exact ⟨l, hB.grown h.grown (by simpa using hb), hl⟩
theorem Wr.trans {o' n' o2 n2 : Nat} (h : Wr w w' b o n) (h2 : Wr w' w'' b o' n') (h1 : o2 ≤ o) (h3 : o + n ≤ o2 + n2) (h4 : o2 ≤ o') (h5 : o' + n' ≤ o2 + n2) : Wr w w'' b o2 n2 :=
  ⟨h.grown.trans h2.grown, fun N hN => h2.arr N (h.arr N hN), fun off u hd hu => h2.keep off u (by omega) (h.keep off u (by omega) hu)⟩
theorem Wr.mono {o' n' : Nat} (h : Wr w w' b o n) (h1 : o' ≤ o) (h2 : o + n ≤ o' + n') : Wr w w' b o' n' :=
  ⟨h.grown, h.arr, fun off u hd hu => h.keep off u (by omega) hu⟩
theorem Wr.refl (w : World) (b o n : Nat) : Wr w w b o n := ⟨World.grownBy.refl _ _, fun _ h => h, fun _ _ _ h => h⟩
theorem Wr.of_below (hb : Below w.heap.size w w') (b o n : Nat) : Wr w w' b o n :=
  ⟨grown_bel hb _, fun _ h => h.below hb, fun off _ _ hu => (hb.cell (p := ⟨b, off, none⟩) (World.block_lt_of_cell? w _ hu)).trans hu⟩
theorem Wr.of_splice {l zs : List Value} (hB : Blk w b 179 l.toArray) (hB' : Blk w' b 179 (splice l o zs).toArray) (hg : w.grownBy w' (some b)) (hfit : o + zs.length ≤ l.length) : Wr w w' b o zs.length := by
  refine ⟨hg, fun N hN => ⟨_, hB', ?_⟩, fun off u hd hu => ?_⟩
  · obtain ⟨l2, h2, h3⟩ := hN
    unfold Blk at h2 hB
    rw [hB] at h2
    have : l.toArray = l2.toArray := by injection h2 with h2; injection h2
    have e : l = l2 := by simpa using this
    rw [splice_len hfit, e, h3]
  · rw [hB.cell off] at hu
    rw [hB'.cell off]
    simp only [List.getElem?_toArray] at hu ⊢
    rcases hd with hd | hd
    · rw [splice_lt (by omega) hd]; exact hu
    · rw [splice_ge hfit hd]; exact hu
theorem WAt.of_splice {l : List Value} {zs : List Nat} (hB' : Blk w' b 179 (splice l o (WC zs)).toArray) (ho : o ≤ l.length) : WAt w' b o zs := by
  intro j hj
  rw [hB'.cell (o + j)]
  simp only [List.getElem?_toArray]
  rw [splice_in ho (by rw [WC_len]; exact hj)]
  exact WC_get zs j hj
end
theorem at_places {f : FuncId} {args : Array Value} {w : World} {b o N : Nat} {zs : List Nat} {R : Ending → Prop} (hA : Arr w b N) (hfit : o + zs.length ≤ N)
    (h : ∀ l : List Value, Blk w b 179 l.toArray → o + zs.length ≤ l.length → Calls Tryz.prog f args w fun e w' => R e ∧ Blk w' b 179 (splice l o (WC zs)).toArray ∧ w.grownBy w' (some b)) :
    Calls Tryz.prog f args w fun e w' => R e ∧ WAt w' b o zs ∧ Wr w w' b o zs.length := by
  obtain ⟨l, hB, hl⟩ := hA
  refine (h l hB (by omega)).mono ?_
  rintro e w' ⟨h1, h2, h3⟩
  refine ⟨h1, WAt.of_splice h2 (by omega), ?_⟩
  have := Wr.of_splice hB h2 h3 (by rw [WC_len]; omega)
  rwa [WC_len] at this
theorem subVV_at (b o cz bx ox cx by_ oy cy N : Nat) (xs ys : List Nat) (w : World) (hl : xs.length ≤ 1000000) (hlen : ys.length = xs.length) (hA : Arr w b N) (hfit : o + xs.length ≤ N)
    (hX : WAt w bx ox xs) (hxo : bx ≠ b ∨ o ≤ ox ∨ ox + xs.length ≤ o) (hY : WAt w by_ oy ys) (hyo : by_ ≠ b ∨ o ≤ oy ∨ oy + xs.length ≤ o) :
    Calls Tryz.prog 274 #[.slice (some ⟨b, o, none⟩) xs.length cz, .slice (some ⟨bx, ox, none⟩) xs.length cx, .slice (some ⟨by_, oy, none⟩) xs.length cy] w fun e w' =>
      e = .returned (.int .u64 (((Pl.subV M xs ys 0).2 : Nat) : Int)) ∧ WAt w' b o (Pl.subV M xs ys 0).1 ∧ Wr w w' b o xs.length := by
  have hz := Pl.subV_len M xs ys 0 hlen.symm
  have := at_places (zs := (Pl.subV M xs ys 0).1) (R := fun e => e = .returned (.int .u64 (((Pl.subV M xs ys 0).2 : Nat) : Int))) hA (by rw [hz]; exact hfit) (fun l hB hf => subVV_any b o cz bx ox cx by_ oy cy xs ys l w hl hlen hB (by rw [hz] at hf; exact hf) ⟨hX, hxo⟩ ⟨hY, by rw [hlen]; exact hyo⟩)
  rw [hz] at this
  exact this
theorem addVV_at (b o cz bx ox cx by_ oy cy N : Nat) (xs ys : List Nat) (w : World) (hl : xs.length ≤ 1000000) (hlen : ys.length = xs.length) (hA : Arr w b N) (hfit : o + xs.length ≤ N) (hxlt : ∀ d ∈ xs, d < M) (hylt : ∀ d ∈ ys, d < M)
    (hX : WAt w bx ox xs) (hxo : bx ≠ b ∨ o ≤ ox ∨ ox + xs.length ≤ o) (hY : WAt w by_ oy ys) (hyo : by_ ≠ b ∨ o ≤ oy ∨ oy + xs.length ≤ o) :
    Calls Tryz.prog 235 #[.slice (some ⟨b, o, none⟩) xs.length cz, .slice (some ⟨bx, ox, none⟩) xs.length cx, .slice (some ⟨by_, oy, none⟩) xs.length cy] w fun e w' =>
      e = .returned (.int .u64 (((Pl.addV M xs ys 0).2 : Nat) : Int)) ∧ WAt w' b o (Pl.addV M xs ys 0).1 ∧ Wr w w' b o xs.length := by
  have hz := Pl.addV_len M xs ys 0 hlen.symm
  have := at_places (zs := (Pl.addV M xs ys 0).1) (R := fun e => e = .returned (.int .u64 (((Pl.addV M xs ys 0).2 : Nat) : Int))) hA (by rw [hz]; exact hfit) (fun l hB hf => addVV_any b o cz bx ox cx by_ oy cy xs ys l w hl hlen hB (by rw [hz] at hf; exact hf) hxlt hylt ⟨hX, hxo⟩ ⟨hY, by rw [hlen]; exact hyo⟩)
  rw [hz] at this
  exact this
theorem addMul_at (b o cz bx ox cx by_ oy cy N : Nat) (xs ys : List Nat) (m c0 : Nat) (w : World) (hl : xs.length ≤ 1000000) (hlen : ys.length = xs.length) (hA : Arr w b N) (hfit : o + xs.length ≤ N) (hm : m < M) (hc0 : c0 < M) (hxlt : ∀ d ∈ xs, d < M) (hylt : ∀ d ∈ ys, d < M)
    (hX : WAt w bx ox xs) (hxo : bx ≠ b ∨ o ≤ ox ∨ ox + xs.length ≤ o) (hY : WAt w by_ oy ys) (hyo : by_ ≠ b ∨ o ≤ oy ∨ oy + xs.length ≤ o) :
    Calls Tryz.prog 230 #[.slice (some ⟨b, o, none⟩) xs.length cz, .slice (some ⟨bx, ox, none⟩) xs.length cx, .slice (some ⟨by_, oy, none⟩) xs.length cy, .int .u64 (m : Int), .int .u64 (c0 : Int)] w fun e w' =>
      e = .returned (.int .u64 (((Pl.addMulV M xs ys m c0).2 : Nat) : Int)) ∧ WAt w' b o (Pl.addMulV M xs ys m c0).1 ∧ Wr w w' b o xs.length := by
  have hz := Pl.addMulV_len M xs ys m c0 hlen.symm
  have := at_places (zs := (Pl.addMulV M xs ys m c0).1) (R := fun e => e = .returned (.int .u64 (((Pl.addMulV M xs ys m c0).2 : Nat) : Int))) hA (by rw [hz]; exact hfit) (fun l hB hf => addMul_any b o cz bx ox cx by_ oy cy xs ys l w hl hlen hB (by rw [hz] at hf; exact hf) m c0 hm hc0 hxlt hylt ⟨hX, hxo⟩ ⟨hY, by rw [hlen]; exact hyo⟩)
  rw [hz] at this
  exact this
theorem mulVW_at (b o cz bx ox cx N : Nat) (xs : List Nat) (y c0 : Nat) (w : World) (hl : xs.length ≤ 1000000) (hA : Arr w b N) (hfit : o + xs.length ≤ N) (hy : y < M) (hc0 : c0 < M) (hxlt : ∀ d ∈ xs, d < M)
    (hX : WAt w bx ox xs) (hxo : bx ≠ b ∨ o ≤ ox ∨ ox + xs.length ≤ o) :
    Calls Tryz.prog 190 #[.slice (some ⟨b, o, none⟩) xs.length cz, .slice (some ⟨bx, ox, none⟩) xs.length cx, .int .u64 (y : Int), .int .u64 (c0 : Int)] w fun e w' =>
      e = .returned (.int .u64 (((Pl.mulV M xs y c0).2 : Nat) : Int)) ∧ WAt w' b o (Pl.mulV M xs y c0).1 ∧ Wr w w' b o xs.length := by
  have hz := Pl.mulV_len M xs y c0
  have := at_places (zs := (Pl.mulV M xs y c0).1) (R := fun e => e = .returned (.int .u64 (((Pl.mulV M xs y c0).2 : Nat) : Int))) hA (by rw [hz]; exact hfit) (fun l hB hf => mulAt_any b o cz bx ox cx y c0 xs l w hl hB (by rw [hz] at hf; exact hf) hy hc0 hxlt ⟨hX, hxo⟩)
  rw [hz] at this
  exact this
theorem lsh_at (b o cz bx ox cx N s : Nat) (xs : List Nat) (w : World) (h0 : 0 < xs.length) (hl : xs.length ≤ 1000000) (hs0 : 0 < s) (hs : s < 64) (hA : Arr w b N) (hfit : o + xs.length ≤ N) (hxlt : ∀ d ∈ xs, d < M)
    (hX : WAt w bx ox xs) (hxo : bx ≠ b ∨ ox ≤ o ∨ o + xs.length ≤ ox) :
    Calls Tryz.prog 234 #[.slice (some ⟨b, o, none⟩) xs.length cz, .slice (some ⟨bx, ox, none⟩) xs.length cx, .int .u64 (s : Int)] w fun e w' =>
      e = .returned (.int .u64 ((Pl.shlO (2 ^ (64 - s)) xs 0 : Nat) : Int)) ∧ WAt w' b o (Pl.shlV (2 ^ s) (2 ^ (64 - s)) xs 0) ∧ Wr w w' b o xs.length := by
  have hz := Pl.shlV_len (2 ^ s) (2 ^ (64 - s)) xs 0
  have := at_places (zs := Pl.shlV (2 ^ s) (2 ^ (64 - s)) xs 0) (R := fun e => e = .returned (.int .u64 ((Pl.shlO (2 ^ (64 - s)) xs 0 : Nat) : Int))) hA (by rw [hz]; exact hfit) (fun l hB hf => lsh_any b o cz bx ox cx s xs l w h0 hl hs0 hs hB (by rw [hz] at hf; exact hf) hxlt ⟨hX, hxo⟩)
  rw [hz] at this
  exact this
theorem rsh_at (b o cz bx ox cx N s : Nat) (xs : List Nat) (w : World) (h0 : 0 < xs.length) (hl : xs.length ≤ 1000000) (hs0 : 0 < s) (hs : s < 64) (hA : Arr w b N) (hfit : o + xs.length ≤ N) (hxlt : ∀ d ∈ xs, d < M)
    (hX : WAt w bx ox xs) (hxo : bx ≠ b ∨ o ≤ ox ∨ ox + xs.length ≤ o) :
    Calls Tryz.prog 193 #[.slice (some ⟨b, o, none⟩) xs.length cz, .slice (some ⟨bx, ox, none⟩) xs.length cx, .int .u64 (s : Int)] w fun e w' =>
      (∃ c : Nat, e = .returned (.int .u64 (c : Int))) ∧ WAt w' b o (Pl.shrV (2 ^ s) (2 ^ (64 - s)) xs) ∧ Wr w w' b o xs.length := by
  have hz := Pl.shrV_len (2 ^ s) (2 ^ (64 - s)) xs
  have := at_places (zs := Pl.shrV (2 ^ s) (2 ^ (64 - s)) xs) (R := fun e => ∃ c : Nat, e = .returned (.int .u64 (c : Int))) hA (by rw [hz]; exact hfit) (fun l hB hf => rsh_any b o cz bx ox cx s xs l w h0 hl hs0 hs hB (by rw [hz] at hf; exact hf) hxlt ⟨hX, hxo⟩)
  rw [hz] at this
  exact this
theorem divVW_at (b o cz bx ox cx N y s : Nat) (xs : List Nat) (w : World) (h0 : 0 < xs.length) (hl : xs.length ≤ 1000000) (hs : s < 64) (hn1 : 2 ^ 63 ≤ y * 2 ^ s) (hn2 : y * 2 ^ s < M) (hA : Arr w b N) (hfit : o + xs.length ≤ N) (hxlt : ∀ d ∈ xs, d < M)
    (hX : WAt w bx ox xs) (hxo : bx ≠ b ∨ ox ≤ o ∨ o + xs.length ≤ ox) :
    Calls Tryz.prog 216 #[.slice (some ⟨b, o, none⟩) xs.length cz, .int .u64 0, .slice (some ⟨bx, ox, none⟩) xs.length cx, .int .u64 (y : Int)] w fun e w' =>
      e = .returned (.int .u64 (((Pl.divV M y xs 0).2 : Nat) : Int)) ∧ WAt w' b o (Pl.divV M y xs 0).1 ∧ Wr w w' b o xs.length := by
  have hz := Pl.divV_len M y xs 0
  have := at_places (zs := (Pl.divV M y xs 0).1) (R := fun e => e = .returned (.int .u64 (((Pl.divV M y xs 0).2 : Nat) : Int))) hA (by rw [hz]; exact hfit) (fun l hB hf => divWVW_any b o cz bx ox cx y s xs l w h0 hl hs hn1 hn2 hB (by rw [hz] at hf; exact hf) hxlt ⟨hX, hxo⟩)
  rw [hz] at this
  exact this
structure Chg (w w' : World) (S : Nat → Nat → Prop) : Prop where
  os : w'.os = w.os
  tape : w'.tape = w.tape
  output : w'.output = w.output
  size : w.heap.size ≤ w'.heap.size
  cell : ∀ b off u, ¬ S b off → w.cell? ⟨b, off, none⟩ = some u → w'.cell? ⟨b, off, none⟩ = some u
  arr : ∀ b N, Arr w b N → Arr w' b N
  blk : ∀ b, (∀ off, ¬ S b off) → b < w.heap.size → w'.heap[b]? = w.heap[b]?
section
variable {w w' w'' : World} {S S' T : Nat → Nat → Prop} {b o n bx ox N : Nat} {xs : List Nat}
theorem Chg.refl (w : World) (S : Nat → Nat → Prop) : Chg w w S := ⟨rfl, rfl, rfl, Nat.le_refl _, fun _ _ _ _ h => h, fun _ _ h => h, fun _ _ _ => rfl⟩
theorem Chg.trans (h : Chg w w' S) (h2 : Chg w' w'' S') (h3 : ∀ b off, S b off → T b off) (h4 : ∀ b off, b < w.heap.size → S' b off → T b off) : Chg w w'' T :=
  ⟨h2.os.trans h.os, h2.tape.trans h.tape, h2.output.trans h.output, Nat.le_trans h.size h2.size,
    fun b off u hn hu => by
      have hl : b < w.heap.size := World.block_lt_of_cell? w _ hu
      exact h2.cell b off u (fun hs => hn (h4 b off hl hs)) (h.cell b off u (fun hs => hn (h3 b off hs)) hu),
    fun b N hN => h2.arr b N (h.arr b N hN),
    fun b hn hl => (h2.blk b (fun off hs => hn off (h4 b off hl hs)) (Nat.lt_of_lt_of_le hl h.size)).trans (h.blk b (fun off hs => hn off (h3 b off hs)) hl)⟩
theorem Chg.mono (h : Chg w w' S) (h3 : ∀ b off, b < w.heap.size → S b off → T b off) : Chg w w' T :=
  ⟨h.os, h.tape, h.output, h.size, fun b off u hn hu => h.cell b off u (fun hs => hn (h3 b off (World.block_lt_of_cell? w _ hu) hs)) hu, h.arr, fun b hn hl => h.blk b (fun off hs => hn off (h3 b off hl hs)) hl⟩
theorem Chg.of_wr (h : Wr w w' b o n) (h0 : 0 < n) : Chg w w' (fun b' off => b' = b ∧ o ≤ off ∧ off < o + n) :=
  ⟨h.grown.os, h.grown.tape, h.grown.output, h.grown.size,
    fun b' off u hn hu => by
      by_cases hb : b' = b
      · subst hb
        exact h.keep off u (by
          rcases Nat.lt_or_ge off o with h1 | h1
          · exact Or.inl h1
          · right
            rcases Nat.lt_or_ge off (o + n) with h2 | h2
            · exact absurd ⟨rfl, h1, h2⟩ hn
            · exact h2) hu
      · exact (World.cell?_of_block (h.grown.block b' (World.block_lt_of_cell? w _ hu) (by simpa using hb))).trans hu,
    fun b N hN => h.arr' hN,
    fun b' hn hl => by
      by_cases hb : b' = b
      · subst hb
        exact absurd ⟨rfl, Nat.le_refl _, by omega⟩ (hn o)
      · exact h.grown.block b' hl (by simpa using hb)⟩
theorem Chg.of_below (h : Below w.heap.size w w') (S : Nat → Nat → Prop) : Chg w w' S :=
  ⟨h.os, h.tape, h.output, h.size, fun b off _ _ hu => (h.cell (p := ⟨b, off, none⟩) (World.block_lt_of_cell? w _ hu)).trans hu, fun _ _ hN => hN.below h, fun b _ hl => h.block b hl⟩
theorem Chg.at (h : Chg w w' S) (hx : WAt w bx ox xs) (hd : ∀ j, j < xs.length → ¬ S bx (ox + j)) : WAt w' bx ox xs := fun j hj => h.cell bx (ox + j) _ (hd j hj) (hx j hj)
theorem Chg.below {base : Nat} (h : Chg w w' S) (hb : ∀ b off, b < w.heap.size → S b off → base ≤ b) (hbase : base ≤ w.heap.size) : Below base w w' :=
  ⟨h.os, h.tape, h.output, h.size, fun b hl => h.blk b (fun off hs => by have := hb b off (by omega) hs; omega) (by omega)⟩
end
theorem run_append_zeros (base : Option Addr) (c n : Nat) (cs : List Value) (w : World) (ty : TypeId) (hcl : cs.length = c) (hn : 0 < n) (hb : c + n ≤ 1000000000) (hnil : base = none → c = 0) (hcs : ∀ a, base = some a → ∀ j v, cs[j]? = some v → w.cell? (a.add j) = some v) :
    (Builtin.append_ #[125, 3] ty #[.slice base c c, .int .i64 (n : Int)]).run Tryz.prog w =
      .ok (.slice (some ⟨w.heap.size, 0, none⟩) (c + n) (grownCap w (c + n) c 179)) (w.drew.alloc (.cells (cs.toArray ++ Builtin.zeroCells #[.int .u64 0] n ++ Builtin.zeroCells #[.int .u64 0] (grownCap w (c + n) c 179 - (c + n))) 179)) := by
  obtain ⟨i0, hi, hz0, hz1, hz2⟩ := info_parts info179
  have h1 : ¬ (c + n ≤ c) := by omega
  have h2 : ¬ (9223372036854775807 < ((c : Int) + (n : Int))) := by omega
  have h3 : ¬ (281474976710656 < Builtin.nextslicecap (c + n) c * 8) := by
    have := nextslicecap_le (need := c + n) (old := c) (by omega)
    omega
  have h4 : IntKind.i64.wrap (n : Int) = (n : Int) := IntWalk.i64_in _ (by omega)
  have h5 : ¬ ((n : Int) < 0) := by omega
  have h6 : ¬ (281474976710656 < (n : Int) * 8) := by omega
  have h7 : n ≠ 0 := by omega
  have hf : (Builtin.firstCells 1 c (.slice base c c)).run Tryz.prog w.drew = .ok cs.toArray w.drew := by
    cases base with
    | none =>
      have := hnil rfl
      subst this
      have : cs = [] := List.eq_nil_of_length_eq_zero hcl
      subst this
      simp [Builtin.firstCells]
    | some a => exact run_firstCells_some (P := Tryz.prog) w.drew 1 c a c c cs (by rw [hcl]; simp) (fun j v hv => by simpa using hcs a rfl j v hv)
  simp [Builtin.append_, run_underlying Tryz.underlying125, run_underlying Tryz.underlying3, sizeOf, typeInfo, zeroValue, hi, hz0, hz1, hz2, h1, h2, h3, h4, h5, h6, h7, Question.forced, hf, newRow, grownCap, asInt, asIntOf]
  rfl
theorem wpList_append_zeros {w : World} {ops : Array Oper} {rest : List Oper} {o : Oper} {a : Act} {Q : Exit → Act → World → Prop} (hgd : o.guard = none) (s x : Operand)
    (ho : o.op = .call { callee := .builtin .append, args := #[s, x], argTypes := #[125, 3] }) (base : Option Addr) (c n : Nat) (cs : List Value) (hs : a.eval s = .slice base c c) (hx : a.eval x = .int .i64 (n : Int))
    (hcl : cs.length = c) (hn : 0 < n) (hb : c + n ≤ 1000000000) (hnil : base = none → c = 0) (hcs : ∀ a, base = some a → ∀ j v, cs[j]? = some v → w.cell? (a.add j) = some v)
    (h : ∀ g cap w', w'.heap.size ≠ 0 → w.heap.size ≤ g → c + n ≤ cap → cap ≤ maxLen → Arr w' g cap → Below w.heap.size w w' → wpList Tryz.prog ops Q rest (a.put o.dst (.slice (some ⟨g, 0, none⟩) (c + n) cap)) w') : wpList Tryz.prog ops Q (o :: rest) a w := by
  refine wpList_plain hgd fun K hK => ?_
  have hrun := run_append_zeros base c n cs w o.type hcl hn hb hnil hcs
  have hge := grownCap_ge w (c + n) c 179
  have hle := grownCap_le_maxLen w (c + n) c 179 (by unfold maxLen; omega)
  unfold Oper.wp
  simp [execOp, ho, resolve, invoke, builtin, hs, hx, hrun, Result.andThen]
  refine hK _ _ (h w.heap.size _ _ (by simp) (Nat.le_refl _) hge hle ⟨(cs.toArray ++ (Builtin.zeroCells #[.int .u64 0] n ++ Builtin.zeroCells #[.int .u64 0] (grownCap w (c + n) c 179 - (c + n)))).toList, ?_, ?_⟩ (((Below.refl w.heap.size w).drew).alloc (by simp) _))
  · rw [Array.toArray_toList]
    exact Blk.new w.drew 179 _
  · simp only [Array.length_toList, Array.size_append, size_zeroCells, List.size_toArray]
    simp [hcl]
    omega
def SlW (w : World) (A : Option Addr) (n c : Nat) : Prop := (A = none ∧ n = 0 ∧ c = 0) ∨ ∃ g, A = some ⟨g, 0, none⟩ ∧ Arr w g c ∧ n ≤ c ∧ c ≤ 9223372036854775807
def GrowBack (w : World) (A : Option Addr) (n c k : Nat) (e : Ending) (w' : World) : Prop :=
  ∃ g c', e = .returned (.slice (some ⟨g, 0, none⟩) n c') ∧ n + k ≤ c' ∧ c' ≤ 9223372036854775807 ∧ Arr w' g c' ∧ Below w.heap.size w w' ∧ ((A = some ⟨g, 0, none⟩ ∧ c' = c) ∨ w.heap.size ≤ g)
set_option maxRecDepth 100000 in
theorem Grow_any (A : Option Addr) (n c k : Nat) (w : World) (h : SlW w A n c) (hk : 0 < k) (hn : n + k ≤ 1000000) :
    Calls Tryz.prog 284 #[.slice A n c, .int .i64 (k : Int)] w (GrowBack w A n c k) := by
  have h1 : ¬ ((k : Int) < 0) := by omega
  by_cases hroom : n + k ≤ c
  · obtain ⟨g, rfl, hA, hnc, hcm⟩ : ∃ g, A = some ⟨g, 0, none⟩ ∧ Arr w g c ∧ n ≤ c ∧ c ≤ 9223372036854775807 := by
      rcases h with ⟨_, h2, h3⟩ | h
      · omega
      · exact h
    have h2 : IntKind.i64.wrap ((c : Int) - (n : Int)) = (c : Int) - (n : Int) := IntWalk.i64_in _ (by omega)
    have h3 : IntKind.i64.wrap ((k : Int) - ((c : Int) - (n : Int))) = (k : Int) - ((c : Int) - (n : Int)) := IntWalk.i64_in _ (by omega)
    have h4 : ¬ (0 < (k : Int) - ((c : Int) - (n : Int))) := by omega
    go_enter Tryz.func284, Tryz.ntmps284
    go_wp2
    go_ret
    exact ⟨g, c, rfl, hroom, hcm, hA, Below.refl _ _, Or.inl ⟨rfl, rfl⟩⟩
  · have hcn : n ≤ c := by
      rcases h with ⟨_, h2, h3⟩ | ⟨g, _, _, h2, _⟩ <;> omega
    have h2 : IntKind.i64.wrap ((c : Int) - (n : Int)) = (c : Int) - (n : Int) := IntWalk.i64_in _ (by omega)
    have h3 : IntKind.i64.wrap ((k : Int) - ((c : Int) - (n : Int))) = ((k - (c - n) : Nat) : Int) := by rw [IntWalk.i64_in _ (by omega)]; omega
    obtain ⟨m, hm⟩ : ∃ m, k - (c - n) = m := ⟨_, rfl⟩
    have hm0 : 0 < m := by omega
    have hm1 : c + m = n + k := by omega
    rw [hm] at h3
    have h4 : (0 : Int) < (m : Int) := by omega
    have hcs : ∃ cs : List Value, cs.length = c ∧ (A = none → c = 0) ∧ ∀ a, A = some a → ∀ j v, cs[j]? = some v → w.cell? (a.add j) = some v := by
      rcases h with ⟨hA, _, hc⟩ | ⟨g, hA, ⟨l, hB, hl⟩, _, _⟩
      · exact ⟨[], by rw [hc]; rfl, (fun _ => hc), (fun a ha => by rw [hA] at ha; cases ha)⟩
      · refine ⟨l, hl, (fun h0 => by rw [hA] at h0; cases h0), fun a ha j v hv => ?_⟩
        rw [hA] at ha
        injection ha with ha
        subst ha
        rw [Addr.add_lit, Nat.zero_add, hB.cell j]
        simpa using hv
    have hAg : A = none ∨ ∃ g, A = some ⟨g, 0, none⟩ := by
      rcases h with ⟨hA, _⟩ | ⟨g, hA, _⟩
      · exact Or.inl hA
      · exact Or.inr ⟨g, hA⟩
    obtain ⟨cs, hcl, hnil, hcc⟩ := hcs
    have HCC := Lib.hid hcc
    have HNIL := Lib.hid hnil
    have h5 : n ≤ c + m := by omega
    have h6 : c + m ≤ 1000000 := by omega
    have HM1 := Lib.hid hm1
    clear h hcc hnil hm
    rcases hAg with rfl | ⟨g0, rfl⟩
    · have hc0 := HNIL.out rfl
      subst hc0
      have hn0 : n = 0 := by omega
      subst hn0
      have hmk : m = k := by omega
      subst hmk
      clear hm1
      go_enter Tryz.func284, Tryz.ntmps284
      go_wp2_with (at_builtin; refine wpList_append_zeros rfl (.tmp 20) (.tmp 21) rfl none 0 m cs rfl rfl hcl hm0 (by omega) HNIL.out HCC.out ?_; intro g cap w' hw hg hcap hcm hA hb)
      go_ret
      have hm1 := HM1.out
      exact ⟨g, cap, rfl, by omega, by unfold maxLen at hcm; omega, hA, hb, Or.inr hg⟩
    · clear hm1
      go_enter Tryz.func284, Tryz.ntmps284
      go_wp2_with (at_builtin; refine wpList_append_zeros rfl (.tmp 20) (.tmp 21) rfl (some ⟨g0, 0, none⟩) c m cs rfl rfl hcl hm0 (by omega) HNIL.out HCC.out ?_; intro g cap w' hw hg hcap hcm hA hb; have hncap : n ≤ cap := by omega)
      go_ret
      have hm1 := HM1.out
      exact ⟨g, cap, rfl, by omega, by unfold maxLen at hcm; omega, hA, hb, Or.inr hg⟩
theorem andNot3 (k : Nat) (h : k < 1024) : bits .andNot .i64 ((k : Int) + 3) 3 = (((k + 3) / 4 * 4 : Nat) : Int) := by
  have hall : ∀ k : Fin 1024, bits .andNot .i64 (((k.val : Nat) : Int) + 3) 3 = (((k.val + 3) / 4 * 4 : Nat) : Int) := of_decide_eq_true (by kernel_rfl)
  exact hall ⟨k, h⟩
structure StkI (w : World) (q : Nat) (A : Option Addr) (n c : Nat) : Prop where
  inner : Blk w q 245 #[.slice A n c]
  arr : SlW w A n c
theorem SlW.below {w w' : World} {A : Option Addr} {n c : Nat} (h : SlW w A n c) (hb : Below w.heap.size w w') : SlW w' A n c := by
  rcases h with h | ⟨g, h1, h2, h3⟩
  · exact Or.inl h
  · exact Or.inr ⟨g, h1, h2.below hb, h3⟩
theorem Arr.cell {w : World} {b N j : Nat} (h : Arr w b N) (hj : j < N) : ∃ u, w.cell? ⟨b, j, none⟩ = some u ∧ w.frozen? ⟨b, j, none⟩ = false := by
  obtain ⟨l, hB, hl⟩ := h
  refine ⟨l[j], ?_, hB.frozen j⟩
  rw [hB.cell j]
  simp [hl, hj]
theorem Arr.far {w : World} {b N : Nat} (h : Arr w b N) {p : Addr} (hp : b ≠ p.block) (u : Value) : Arr (w.setCell p u) b N := by
  obtain ⟨l, hB, hl⟩ := h
  exact ⟨l, hB.far hp u, hl⟩
theorem Arr.set {w : World} {b N : Nat} (h : Arr w b N) (i : Nat) (u : Value) : Arr (w.setCell ⟨b, i, none⟩ u) b N := by
  obtain ⟨l, hB, hl⟩ := h
  refine ⟨(l.toArray.setIfInBounds i u).toList, ?_, by simpa using hl⟩
  rw [Array.toArray_toList]
  exact hB.set_ i u
theorem Arr.any {w : World} {b N : Nat} (h : Arr w b N) (p : Addr) (hp : p.spot = none) (u : Value) : Arr (w.setCell p u) b N := by
  by_cases hb : b = p.block
  · obtain ⟨pb, po, ps⟩ := p
    simp only at hp hb
    subst hp; subst hb
    exact h.set po u
  · exact h.far hb u
theorem SlW.set {w : World} {A : Option Addr} {n c : Nat} (h : SlW w A n c) (p : Addr) (hp : p.spot = none) (u : Value) : SlW (w.setCell p u) A n c := by
  rcases h with h | ⟨g, h1, h2, h3⟩
  · exact Or.inl h
  · exact Or.inr ⟨g, h1, h2.any p hp u, h3⟩
theorem Blk.not_arr {w : World} {q N : Nat} {t : TypeId} {cs : Array Value} (h : Blk w q t cs) (ht : t ≠ 179) {g : Nat} (ha : Arr w g N) : g ≠ q := by
  obtain ⟨l, hB, _⟩ := ha
  exact Blk.ne_ hB h (Ne.symm ht)
theorem chg_set (w : World) (b o : Nat) (u : Value) : Chg w (w.setCell ⟨b, o, none⟩ u) (fun b' off => b' = b ∧ off = o) :=
  ⟨rfl, rfl, rfl, by simp, fun b' off v hn hv => by
      rw [World.cell?_setCell_other]
      · exact hv
      · intro e
        injection e with e1 e2
        exact hn ⟨e1.symm, e2.symm⟩,
    fun b' N hN => hN.any _ rfl u,
    fun b' hn hl => heap_setCell_other w ⟨b, o, none⟩ b' u (fun e => hn o ⟨e, rfl⟩)⟩
def InnerBack (w : World) (q : Nat) (A : Option Addr) (n k : Nat) (e : Ending) (w' : World) : Prop :=
  ∃ g c', e = .returned (.slice (some ⟨g, n, none⟩) k k) ∧ Arr w' g c' ∧ n + k ≤ c' ∧ StkI w' q (some ⟨g, 0, none⟩) (n + (k + 3) / 4 * 4) c' ∧ (A = some ⟨g, 0, none⟩ ∨ w.heap.size ≤ g) ∧
    Chg w w' (fun b off => b = q ∨ (A = some ⟨b, 0, none⟩ ∧ off = n))
set_option maxRecDepth 100000 in
set_option maxHeartbeats 1000000 in
theorem innerNat_any (q : Nat) (A : Option Addr) (n c k : Nat) (w : World) (hS : StkI w q A n c) (hk : 0 < k) (hk2 : k < 1000) (hn : n ≤ 100000) :
    Calls Tryz.prog 269 #[.pointer (some ⟨q, 0, none⟩), .int .i64 (k : Int)] w (InnerBack w q A n k) := by
  have hnc : n ≤ c := by
    rcases hS.arr with ⟨_, h2, h3⟩ | ⟨g, _, _, h2, _⟩ <;> omega
  have hcq := hS.inner.cell 0
  simp at hcq
  have a1 := andNot3 k (by omega)
  obtain ⟨r, hr⟩ : ∃ r, (k + 3) / 4 * 4 = r := ⟨_, rfl⟩
  have hrk : k ≤ r ∧ r ≤ k + 3 := by omega
  rw [hr] at a1
  have HG := Lib.hid (Grow_any A n c r w hS.arr (by omega) (by omega))
  have HS := Lib.hid hS
  have HR := Lib.hid hr
  clear hS hr
  go_enter Tryz.func269, Tryz.ntmps269
  go_wp2_with fail
  refine HG.out.mono ?_; rintro e w2 ⟨g, c', rfl, hc1, hc2, hA2, hb2, hor⟩
  have hq2 := HS.out.inner.below hb2 HS.out.inner.lt
  have hcq2 := hq2.cell 0
  have hfq2 := hq2.frozen 0
  simp at hcq2
  have hgq := hq2.not_arr (by decide) hA2
  obtain ⟨u, hz, hzz⟩ := hA2.cell (j := n) (by omega)
  go_wp2_with fail
  go_ret
  have e2 := HR.out
  obtain ⟨W1, hW1⟩ : ∃ W1, w2.setCell ⟨q, 0, none⟩ (.slice (some ⟨g, 0, none⟩) n c') = W1 := ⟨_, rfl⟩
  obtain ⟨W2, hW2⟩ : ∃ W2, W1.setCell ⟨q, 0, none⟩ (.slice (some ⟨g, 0, none⟩) (n + r) c') = W2 := ⟨_, rfl⟩
  rw [hW1, hW2]
  have hA3 : Arr W2 g c' := by rw [← hW2, ← hW1]; exact (hA2.any _ rfl _).any _ rfl _
  have hA4 := hA3.any ⟨g, n, none⟩ rfl (.int .u64 1043915)
  have hq3 : Blk W2 q 245 #[.slice (some ⟨g, 0, none⟩) (n + r) c'] := by
    rw [← hW2, ← hW1]
    exact (hq2.set_ 0 _).set_ 0 _
  have hq4 := hq3.far (p := ⟨g, n, none⟩) (Ne.symm hgq) (.int .u64 1043915)
  refine ⟨g, c', (by show Ending.returned (.slice (some ⟨g, n, none⟩) (n + k - n) (n + k - n)) = _; rw [Nat.add_sub_cancel_left]), hA4, by omega, ?_, hor.imp (fun h => h.1) id, ?_⟩
  · rw [e2]
    exact ⟨hq4, Or.inr ⟨g, rfl, hA4, by omega, hc2⟩⟩
  · have k1 : Chg w W2 (fun b _ => b = q) := by
      rw [← hW2, ← hW1]
      refine ((Chg.of_below hb2 (fun b _ => b = q)).trans (chg_set w2 q 0 _) (fun _ _ h => h) (fun b off _ h => h.1)).trans (chg_set _ q 0 _) (fun _ _ h => h) (fun b off _ h => h.1)
    refine k1.trans (chg_set W2 g n _) (fun b _ h => Or.inl h) (fun b off hl h => ?_)
    rcases hor with hor | hor
    · right; rw [h.1]; exact ⟨hor.1, h.2⟩
    · have := h.1; omega
def StkAt (w : World) (p : Nat) (q : Option Nat) (A : Option Addr) (n c : Nat) : Prop :=
  match q with
  | none => Blk w p 226 #[.pointer none] ∧ A = none ∧ n = 0 ∧ c = 0
  | some q => Blk w p 226 #[.pointer (some ⟨q, 0, none⟩)] ∧ StkI w q A n c
theorem innerSave_any (q : Nat) (A : Option Addr) (n c : Nat) (w : World) (hS : StkI w q A n c) :
    Calls Tryz.prog 267 #[.pointer (some ⟨q, 0, none⟩)] w fun e w' => e = .returned (.int .i64 (n : Int)) ∧ w = w' := by
  have hcq := hS.inner.cell 0
  simp at hcq
  clear hS
  go_enter Tryz.func267, Tryz.ntmps267
  go_wp2
  go_ret
  exact ⟨rfl, rfl⟩
theorem save_any (p : Nat) (q : Option Nat) (A : Option Addr) (n c : Nat) (w : World) (hS : StkAt w p q A n c) :
    Calls Tryz.prog 232 #[.pointer (some ⟨p, 0, none⟩)] w fun e w' => e = .returned (.int .i64 (n : Int)) ∧ w = w' := by
  cases q with
  | none =>
    obtain ⟨hB, rfl, rfl, rfl⟩ := hS
    have hc := hB.cell 0
    simp at hc
    clear hB
    go_enter Tryz.func232, Tryz.ntmps232
    go_wp2
    go_ret
    exact ⟨rfl, rfl⟩
  | some q =>
    obtain ⟨hB, hI⟩ := hS
    have hc := hB.cell 0
    simp at hc
    have HI := Lib.hid (innerSave_any q A n c w hI)
    clear hB hI
    go_enter Tryz.func232, Tryz.ntmps232
    go_wp2_with fail
    refine HI.out.mono ?_; rintro e w2 ⟨rfl, rfl⟩
    go_wp2
    go_ret
    exact ⟨rfl, rfl⟩
theorem innerRestore_any (q : Nat) (A : Option Addr) (n c k : Nat) (w : World) (hS : StkI w q A n c) (hk : k ≤ c) :
    Calls Tryz.prog 266 #[.pointer (some ⟨q, 0, none⟩), .int .i64 (k : Int)] w fun e w' => e = .returned (.tuple #[]) ∧ StkI w' q A k c ∧ w' = w.setCell ⟨q, 0, none⟩ (.slice A k c) := by
  have hcq := hS.inner.cell 0
  have hfq := hS.inner.frozen 0
  simp at hcq
  have HS := Lib.hid hS
  have hA : (A = none ∧ c = 0) ∨ ∃ g, A = some ⟨g, 0, none⟩ := by
    rcases hS.arr with ⟨h1, _, h3⟩ | ⟨g, h1, _⟩
    · exact Or.inl ⟨h1, h3⟩
    · exact Or.inr ⟨g, h1⟩
  clear hS
  have fin : StkI (w.setCell ⟨q, 0, none⟩ (.slice A k c)) q A k c := by
    refine ⟨HS.out.inner.set_ 0 _, ?_⟩
    rcases HS.out.arr with ⟨h1, _, h3⟩ | ⟨g, h1, h2, h3, h4⟩
    · exact Or.inl ⟨h1, by omega, h3⟩
    · exact Or.inr ⟨g, h1, h2.any _ rfl _, hk, h4⟩
  have FIN := Lib.hid fin
  clear fin
  rcases hA with ⟨rfl, rfl⟩ | ⟨g, rfl⟩
  · have hk0 : k = 0 := by omega
    subst hk0
    go_enter Tryz.func266, Tryz.ntmps266
    go_wp2
    go_end0
    exact ⟨rfl, FIN.out, rfl⟩
  · go_enter Tryz.func266, Tryz.ntmps266
    go_wp2
    go_end0
    exact ⟨rfl, FIN.out, rfl⟩
theorem restoreD_any (p : Nat) (q : Option Nat) (A : Option Addr) (n c k : Nat) (u : FrameMode) (w : World) (hS : StkAt w p q A n c) (hk : k ≤ c) :
    CallsD Tryz.prog 231 #[.pointer (some ⟨p, 0, none⟩), .int .i64 (k : Int)] u w fun e u' w' => u' = u ∧ (e = .returned (.tuple #[]) ∧ StkAt w' p q A k c ∧ Chg w w' (fun b off => q = some b ∧ off = 0)) := by
  cases q with
  | none =>
    obtain ⟨hB, rfl, rfl, rfl⟩ := hS
    have hc := hB.cell 0
    simp at hc
    have hk0 : k = 0 := by omega
    subst hk0
    have HB := Lib.hid hB
    clear hB
    go_enter_d Tryz.func231, Tryz.ntmps231
    go_wp2
    refine bodyPost_ret (results_none rfl _ _ _) rfl ?_
    exact ⟨rfl, ⟨HB.out, rfl, rfl, rfl⟩, Chg.refl _ _⟩
  | some q =>
    obtain ⟨hB, hI⟩ := hS
    have hc := hB.cell 0
    simp at hc
    have HI := Lib.hid (innerRestore_any q A n c k w hI hk)
    have HB := Lib.hid hB
    have HQ := Lib.hid hI.inner
    clear hB hI
    go_enter_d Tryz.func231, Tryz.ntmps231
    go_wp2_with fail
    refine HI.out.mono ?_; rintro e w2 ⟨rfl, hI2, hw2⟩
    go_wp2
    go_end0
    subst hw2
    exact ⟨rfl, ⟨HB.out.far (p := ⟨q, 0, none⟩) (Blk.ne_ HB.out HQ.out (by decide)) _, hI2⟩, (chg_set w q 0 _).mono fun b off _ h => ⟨by rw [h.1], h.2⟩⟩
def NatBackS (w : World) (p : Nat) (q : Option Nat) (A : Option Addr) (n k : Nat) (e : Ending) (w' : World) : Prop :=
  ∃ g c' q', e = .returned (.slice (some ⟨g, n, none⟩) k k) ∧ Arr w' g c' ∧ n + k ≤ c' ∧ StkAt w' p (some q') (some ⟨g, 0, none⟩) (n + (k + 3) / 4 * 4) c' ∧ (A = some ⟨g, 0, none⟩ ∨ w.heap.size ≤ g) ∧ (q = some q' ∨ (q = none ∧ w.heap.size ≤ q')) ∧
    Chg w w' (fun b off => b = p ∨ q = some b ∨ (A = some ⟨b, 0, none⟩ ∧ off = n))
set_option maxRecDepth 100000 in
theorem stkNat_any (p : Nat) (q : Option Nat) (A : Option Addr) (n c k : Nat) (w : World) (hS : StkAt w p q A n c) (hk : 4 < k) (hk2 : k < 1000) (hn : n ≤ 100000) :
    Calls Tryz.prog 233 #[.pointer (some ⟨p, 0, none⟩), .int .i64 (k : Int)] w (NatBackS w p q A n k) := by
  cases q with
  | some q =>
    obtain ⟨hB, hI⟩ := hS
    have hc := hB.cell 0
    simp at hc
    have HI := Lib.hid (innerNat_any q A n c k w hI (by omega) hk2 hn)
    have HB := Lib.hid hB
    have HQ := Lib.hid hI
    clear hB hI
    go_enter Tryz.func233, Tryz.ntmps233
    go_wp2_with fail
    refine HI.out.mono ?_; rintro e w2 ⟨g, c', rfl, hA, hnk, hI2, hor, hch⟩
    have hpq : p ≠ q := Blk.ne_ HB.out HQ.out.inner (by decide)
    have hBp : Blk w2 p 226 #[.pointer (some ⟨q, 0, none⟩)] := by
      refine (hch.blk p (fun off h => ?_) HB.out.lt).trans HB.out
      rcases h with h | ⟨h, _⟩
      · exact hpq h
      · rcases HQ.out.arr with ⟨h1, _⟩ | ⟨g', h1, h2, _⟩
        · rw [h1] at h; cases h
        · rw [h1] at h
          injection h with h
          injection h with h
          exact HB.out.not_arr (by decide) h2 h
    go_wp2
    go_ret
    exact ⟨g, c', q, rfl, hA, hnk, ⟨hBp, hI2⟩, hor, Or.inl rfl, hch.mono fun b off _ h => h.imp (fun h => by rw [h]) id |> Or.inr⟩
  | none =>
    obtain ⟨hB, rfl, rfl, rfl⟩ := hS
    have hc := hB.cell 0
    have hf := hB.frozen 0
    simp at hc
    have HB := Lib.hid hB
    have hpl := hB.lt
    have hkz : ¬ (k : Int) ≤ 4 := by omega
    clear hB
    obtain ⟨W1, hW1⟩ : ∃ W1, w.setCell ⟨p, 0, none⟩ (.pointer (some ⟨w.heap.size, 0, none⟩)) = W1 := ⟨_, rfl⟩
    have hs1 : W1.heap.size = w.heap.size := by rw [← hW1]; simp
    have hB1 : Blk W1 p 226 #[.pointer (some ⟨w.heap.size, 0, none⟩)] := by rw [← hW1]; exact HB.out.set_ 0 _
    have hc1 : Chg w W1 (fun b off => b = p ∧ off = 0) := by rw [← hW1]; exact chg_set w p 0 _
    obtain ⟨W, hW⟩ : ∃ W, W1.alloc (.cells #[.slice none 0 0] 245) = W := ⟨_, rfl⟩
    have hBq : Blk W w.heap.size 245 #[.slice none 0 0] := by rw [← hW, ← hs1]; exact Blk.new _ _ _
    have hBp : Blk W p 226 #[.pointer (some ⟨w.heap.size, 0, none⟩)] := by rw [← hW]; exact hB1.alloc _
    have hc2 : Below W1.heap.size W1 W := by rw [← hW]; exact (Below.refl _ _).alloc (Nat.le_refl _) _
    have hcW : Chg w W (fun b _ => b = p) := hc1.trans (Chg.of_below hc2 (fun b _ => b = p)) (fun b off h => h.1) (fun b off _ h => h)
    have HW1 := Lib.hid hW1
    have HW := Lib.hid hW
    have HI := Lib.hid (innerNat_any w.heap.size none 0 0 k W ⟨hBq, Or.inl ⟨rfl, rfl, rfl⟩⟩ (by omega) hk2 hn)
    have hszW : w.heap.size ≤ W.heap.size := hcW.size
    clear hW1 hW hB1 hc1 hc2 hs1
    go_enter Tryz.func233, Tryz.ntmps233
    go_wp2_with fail
    rw [HW1.out, HW.out]
    refine HI.out.mono ?_; rintro e w2 ⟨g, c', rfl, hA, hnk, hI2, hor, hch⟩
    have hgW : W.heap.size ≤ g := by
      rcases hor with h | h
      · cases h
      · exact h
    have hBp2 : Blk w2 p 226 #[.pointer (some ⟨w.heap.size, 0, none⟩)] := by
      refine (hch.blk p (fun off h => ?_) hBp.lt).trans hBp
      rcases h with h | ⟨h, _⟩
      · omega
      · cases h
    go_wp2
    go_ret
    refine ⟨g, c', w.heap.size, rfl, hA, hnk, ⟨hBp2, hI2⟩, Or.inr (by omega), Or.inr ⟨rfl, Nat.le_refl _⟩, ?_⟩
    refine hcW.trans hch (fun b off h => Or.inl h) (fun b off hl h => ?_)
    rcases h with h | ⟨h, _⟩
    · omega
    · cases h
theorem mulWW_any (x y : Nat) (hx : x < M) (hy : y < M) (w : World) :
    Calls Tryz.prog 211 #[.int .u64 (x : Int), .int .u64 (y : Int)] w fun e w' => e = .returned (.tuple #[.int .u64 ((x * y / M : Nat) : Int), .int .u64 ((x * y % M : Nat) : Int)]) ∧ w = w' := by
  have HM := Lib.hid (Mul_any x y hx hy w)
  obtain ⟨q, hq⟩ : ∃ q, x * y / M = q := ⟨_, rfl⟩
  obtain ⟨r, hr⟩ : ∃ q, x * y % M = q := ⟨_, rfl⟩
  rw [hq, hr] at HM ⊢
  clear hq hr
  go_enter Tryz.func211, Tryz.ntmps211
  go_wp2_with fail
  refine HM.out.mono ?_; rintro e w2 ⟨rfl, rfl⟩
  go_wp2
  exact bodyPost_ret (v := .tuple #[.int .u64 (q : Int), .int .u64 (r : Int)]) (by simp [results, Tryz.results211, go_sem]) rfl ⟨rfl, rfl⟩
theorem greater_any (x1 x2 y1 y2 : Nat) (hx2 : x2 < M) (hy2 : y2 < M) (w : World) :
    Calls Tryz.prog 273 #[.int .u64 (x1 : Int), .int .u64 (x2 : Int), .int .u64 (y1 : Int), .int .u64 (y2 : Int)] w fun e w' => e = .returned (.bool (decide (y1 * M + y2 < x1 * M + x2))) ∧ w = w' := by
  rcases Nat.lt_trichotomy y1 x1 with h | h | h
  · have hr : decide (y1 * M + y2 < x1 * M + x2) = true := by
      rw [decide_eq_true_eq]
      have := Nat.mul_le_mul_right M (show y1 + 1 ≤ x1 by omega)
      rw [Nat.add_mul, Nat.one_mul] at this
      omega
    rw [hr]
    have h1 : (y1 : Int) < (x1 : Int) := by omega
    clear hr
    go_enter Tryz.func273, Tryz.ntmps273
    go_wp2
    go_ret
    exact ⟨rfl, rfl⟩
  · subst h
    by_cases h2 : y2 < x2
    · have hr : decide (y1 * M + y2 < y1 * M + x2) = true := by rw [decide_eq_true_eq]; omega
      rw [hr]
      have h1 : (y2 : Int) < (x2 : Int) := by omega
      clear hr
      go_enter Tryz.func273, Tryz.ntmps273
      go_wp2
      go_ret
      exact ⟨rfl, rfl⟩
    · have hr : decide (y1 * M + y2 < y1 * M + x2) = false := by rw [decide_eq_false_iff_not]; omega
      rw [hr]
      have h1 : ¬ (y2 : Int) < (x2 : Int) := by omega
      clear hr
      go_enter Tryz.func273, Tryz.ntmps273
      go_wp2
      go_ret
      exact ⟨rfl, rfl⟩
  · have hr : decide (y1 * M + y2 < x1 * M + x2) = false := by
      rw [decide_eq_false_iff_not]
      have := Nat.mul_le_mul_right M (show x1 + 1 ≤ y1 by omega)
      rw [Nat.add_mul, Nat.one_mul] at this
      omega
    rw [hr]
    have h1 : ¬ (y1 : Int) < (x1 : Int) := by omega
    have h3 : ((x1 : Int) == (y1 : Int)) = false := by rw [beq_eq_false_iff_ne]; omega
    clear hr
    go_enter Tryz.func273, Tryz.ntmps273
    go_wp2
    go_ret
    exact ⟨rfl, rfl⟩
end Go.Proofs.YtgfkdjmoflbmdaaGreatDoor
