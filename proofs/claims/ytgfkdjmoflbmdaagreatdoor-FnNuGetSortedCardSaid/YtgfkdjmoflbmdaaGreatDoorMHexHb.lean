/- Contract: spec.lower. Words: a rune of a text that is not ASCII. Contract: parseSemverLike (a text that is not ASCII: something stands behind the numbers). Contracts: parseSemverLikeVersion, all numbers kept. Contracts: ToLower of the empty text, ParseHackageVersion. -/
import Derived.Test.YtgfkdjmoflbmdaaGreatDoorMPl1xPl2
import Derived.Test.YtgfkdjmoflbmdaaGreatDoorMPlCxPlE
import Derived.Lib.ConvBytes
import Derived.Test.YtgfkdjmoflbmdaaGreatDoorMXhxWc
import Derived.Test.YtgfkdjmoflbmdaaGreatDoorMYp2xXw
namespace Go.Proofs.YtgfkdjmoflbmdaaGreatDoor
open Go.RowKit
open Go.Proofs

/-- bytes of one's own in block g -/
structure LowSt (w : World) (g sz : Nat) (l : Pl.Bytes) (wr : World) : Prop where
  blk : ∃ cs, wr.heap[g]? = some (.cells cs 5 (sz, sz + 1)) ∧ cs.size = sz ∧ ∀ j (h : j < l.length), cs[j]? = some (.int .u8 ((l[j].toNat : Nat) : Int))
  len : l.length ≤ sz
  bel : Below g w wr
theorem LowSt.cell {w wr : World} {g sz : Nat} {l : Pl.Bytes} (h : LowSt w g sz l wr) {j : Nat} (hj : j < l.length) : wr.cell? ⟨g, j, none⟩ = some (.int .u8 ((l[j].toNat : Nat) : Int)) := by
  obtain ⟨cs, h1, h2, h3⟩ := h.blk
  rw [cell_of_row wr g j cs 5 _ h1]; exact h3 j hj
theorem LowSt.frozen {w wr : World} {g sz : Nat} {l : Pl.Bytes} (h : LowSt w g sz l wr) {j : Nat} (hj : j < l.length) : wr.frozen? ⟨g, j, none⟩ = false := by
  obtain ⟨cs, h1, h2, h3⟩ := h.blk
  have := h.len
  simp [World.frozen?, h1]
  omega
theorem LowSt.rd {w wr : World} {g sz : Nat} {l : Pl.Bytes} (h : LowSt w g sz l wr) : Rd wr 1 (some ⟨g, 0, none⟩) l.length (B8 (l.map UInt8.toNat)) := by
  refine ⟨by simp [B8], fun _ => ⟨g, 0, rfl, fun j u hu => ?_⟩⟩
  have hj : j < l.length := by have := (List.getElem?_eq_some_iff.1 hu).1; simpa [B8] using this
  rw [Nat.zero_add, h.cell hj, ← hu]
  simp [B8, hj]
theorem LowSt.set_ {w wr : World} {g sz : Nat} {a b : Pl.Bytes} {c d : UInt8} (h : LowSt w g sz (a ++ c :: b) wr) : LowSt w g sz (a ++ d :: b) (wr.setCell ⟨g, a.length, none⟩ (.int .u8 ((d.toNat : Nat) : Int))) := by
  obtain ⟨cs, h1, h2, h3⟩ := h.blk
  have hl := h.len
  refine ⟨⟨cs.setIfInBounds a.length (.int .u8 ((d.toNat : Nat) : Int)), ?_, by simp [h2], fun j hj => ?_⟩, by simpa using hl, h.bel.setCell (Nat.le_refl _) _⟩
  · simp [World.setCell, Array.getElem?_modify, h1]
  · rw [Array.getElem?_setIfInBounds]
    have hj2 : j < (a ++ c :: b).length := by simpa using hj
    have hcs := h3 j hj2
    by_cases hja : a.length = j
    · subst hja
      rw [if_pos rfl, if_pos (by rw [h2]; simp at hl; omega)]
      simp
    · rw [if_neg hja, hcs]
      congr 4
      rcases Nat.lt_or_ge j a.length with hlt | hge
      · rw [List.getElem_append_left hlt, List.getElem_append_left hlt]
      · rw [List.getElem_append_right hge, List.getElem_append_right hge]
        obtain ⟨m, hm⟩ : ∃ m, j - a.length = m + 1 := ⟨j - a.length - 1, by omega⟩
        simp [hm]
theorem lowSt_start (s : ByteArray) (w : World) : LowSt w w.heap.size (Lib.bytesCells w 5 s).size s.data.toList (Lib.bytesWorld w 5 s) := by
  refine ⟨⟨_, Lib.bytesWorld_at_new w 5 s, rfl, fun j hj => ?_⟩, ?_, ⟨rfl, rfl, rfl, by rw [Lib.bytesWorld_size]; omega, fun k hk => Lib.bytesWorld_at_old w 5 s k hk⟩⟩
  · rw [len_list] at hj
    have := Lib.bytesWorld_cell w 5 s j hj
    rw [cell_of_row _ _ j _ 5 _ (Lib.bytesWorld_at_new w 5 s)] at this
    rw [this, List.getD_eq_getElem?_getD, List.getElem?_eq_getElem (by rw [len_list]; exact hj)]
    rfl
  · simp [Lib.bytesCells]
theorem low_split (l : Pl.Bytes) (k : Nat) (h : k < l.length) : Pl.lower (l.take k) ++ l.drop k = Pl.lower (l.take k) ++ l[k] :: l.drop (k + 1) := by rw [List.drop_eq_getElem_cons h]
theorem low_next (l : Pl.Bytes) (k : Nat) (h : k < l.length) : Pl.lower (l.take (k + 1)) ++ l.drop (k + 1) = Pl.lower (l.take k) ++ Pl.lowB l[k] :: l.drop (k + 1) := by
  rw [List.take_succ_eq_append_getElem h, Pl.lower_app]; simp [Pl.lower]
set_option maxRecDepth 100000 in
set_option maxHeartbeats 1000000 in
theorem lower_any (s : ByteArray) (w : World) (hs : s.size ≤ 30000) :
    Calls Tryz.prog 70 #[.string s] w fun e w' => e = .returned (S (Pl.lower s.data.toList)) ∧ Below w.heap.size w w' := by
  have hst := lowSt_start s w
  have hcv := Lib.run_convert_string_bytes (P := Tryz.prog) w 9 91 5 s Tryz.underlying9 Tryz.underlying91 Tryz.underlying5
  obtain ⟨cap, hcap⟩ : ∃ cap, grownCap w s.size 0 5 = cap := ⟨_, rfl⟩
  obtain ⟨sz, hsz⟩ : ∃ sz, (Lib.bytesCells w 5 s).size = sz := ⟨_, rfl⟩
  obtain ⟨W, hW⟩ : ∃ W, Lib.bytesWorld w 5 s = W := ⟨_, rfl⟩
  rw [hcap, hW] at hcv
  rw [hsz, hW] at hst
  have HCV := Lib.hid hcv
  clear hcv hcap hsz hW
  go_enter Tryz.func70, Tryz.ntmps70
  go_wp2_with fail
  rw [HCV.out]
  go_wp2
  go_loopw [4] (fun iv wr => ∃ k : Nat, k ≤ s.size ∧ iv = .int .i64 (k : Int) ∧ LowSt w w.heap.size sz (Pl.lower (s.data.toList.take k) ++ s.data.toList.drop k) wr) (fun iv _ => s.size - (intOf iv).toNat)
  case atStart => exact ⟨0, Nat.zero_le _, rfl, by simpa [Pl.lower] using hst⟩
  case round =>
    obtain ⟨k, hk, rfl, hlow⟩ := hrel
    by_cases hlt : k < s.size
    · have hkl : k < s.data.toList.length := by rw [len_list]; exact hlt
      have hn := low_next s.data.toList k hkl
      rw [low_split _ k hkl] at hlow
      have hal : (Pl.lower (s.data.toList.take k)).length = k := by rw [Pl.lower_len, List.length_take]; omega
      obtain ⟨c, hc⟩ : ∃ c, s.data.toList[k] = c := ⟨_, rfl⟩
      rw [hc] at hlow hn
      obtain ⟨a, ha⟩ : ∃ a, Pl.lower (s.data.toList.take k) = a := ⟨_, rfl⟩
      obtain ⟨b, hb⟩ : ∃ b, s.data.toList.drop (k + 1) = b := ⟨_, rfl⟩
      rw [ha, hb] at hlow
      rw [ha] at hn hal
      have hcell := hlow.cell (j := k) (by simp; omega)
      have hfro := hlow.frozen (j := k) (by simp; omega)
      have hck : (a ++ c :: b)[k]'(by simp; omega) = c := by
        rw [List.getElem_append_right (by omega)]; simp [hal]
      rw [hck] at hcell
      have hset := fun d => hlow.set_ (d := d)
      rw [hal] at hset
      have hb256 := UInt8.toNat_lt c
      have hlb := Pl.lowB_nat c
      have HN := Lib.hid hn
      have HB := Lib.hid hb
      have HSET := Lib.hid hset
      have HLB := Lib.hid hlb
      obtain ⟨x, hx⟩ : ∃ x, c.toNat = x := ⟨_, rfl⟩
      rw [hx] at hcell hb256
      have HX := Lib.hid hx
      clear hn hset hlb hc ha hb hck hal hx
      by_cases h1 : (65 : Int) ≤ (x : Int)
      · by_cases h2 : (x : Int) ≤ 90
        · go_wp2
          go_roundw
          case rel =>
            refine ⟨k + 1, by omega, by go_num, ?_⟩
            have hL : (Pl.lowB c).toNat = x + 32 := by rw [HLB.out, HX.out, if_pos (by omega)]
            have := HSET.out (Pl.lowB c)
            rw [hL] at this
            rw [HN.out, HB.out]
            exact this
          case measure => simp [intOf]; omega
        · go_wp2
          go_roundw
          case rel =>
            refine ⟨k + 1, by omega, by go_num, ?_⟩
            have hL : Pl.lowB c = c := by rw [← UInt8.toNat_inj, HLB.out, if_neg (by have := HX.out; omega)]
            rw [HN.out, HB.out, hL]
            exact hlow
          case measure => simp [intOf]; omega
      · go_wp2
        go_roundw
        case rel =>
          refine ⟨k + 1, by omega, by go_num, ?_⟩
          have hL : Pl.lowB c = c := by rw [← UInt8.toNat_inj, HLB.out, if_neg (by have := HX.out; omega)]
          rw [HN.out, HB.out, hL]
          exact hlow
        case measure => simp [intOf]; omega
    · obtain rfl : k = s.size := by omega
      rw [List.take_of_length_le (by rw [len_list]; exact Nat.le_refl _), List.drop_of_length_le (by rw [len_list]; exact Nat.le_refl _), List.append_nil] at hlow
      have hrd := hlow.rd
      rw [Pl.lower_len, len_list] at hrd
      have hmap : (Pl.lower s.data.toList).map (UInt8.ofNat ∘ UInt8.toNat) = Pl.lower s.data.toList := by
        have : ∀ d ∈ Pl.lower s.data.toList, (UInt8.ofNat ∘ UInt8.toNat) d = d := fun d _ => by simp
        rw [List.map_congr_left this, List.map_id']
      have HMAP := Lib.hid hmap
      clear hmap
      go_wp2_with (refine wpList_conv_S _ rfl (.tmp 33) 91 9 5 rfl Tryz.underlying91 Tryz.underlying5 Tryz.underlying9 _ s.size cap ((Pl.lower s.data.toList).map UInt8.toNat) rfl hrd ?_)
      go_ret
      exact ⟨congrArg (fun x => Ending.returned (S x)) HMAP.out, hlow.bel⟩
end Go.Proofs.YtgfkdjmoflbmdaaGreatDoor

namespace Go.Proofs.YtgfkdjmoflbmdaaGreatDoor
open Go.RowKit
open Go.Proofs

theorem decode_big (t : ByteArray) (pos : Nat) (h : pos < t.size) (ha : 128 ≤ (t[pos]'h).toNat) :
    128 ≤ (Utf8.decode t pos).1 ∧ (Utf8.decode t pos).1 < 2097152 ∧ 1 ≤ (Utf8.decode t pos).2 ∧ pos + (Utf8.decode t pos).2 ≤ t.size := by
  have e : t.get! (pos + 0) = t[pos]'h := by
    show t.get! pos = _
    simp [ByteArray.get!, getElem!_pos, h]
    rfl
  have hb := UInt8.toNat_lt (t[pos]'h)
  have hE : Utf8.runeError = 65533 := rfl
  simp only [Utf8.decode, e]
  rw [if_neg (by omega)]
  split
  · rename_i h1
    simp only [Bool.and_eq_true, decide_eq_true_eq] at h1
    split
    · refine ⟨by omega, by omega, by omega, by omega⟩
    · rw [hE]; refine ⟨by omega, by omega, by omega, by omega⟩
  · split
    · rename_i h1
      simp only [Bool.and_eq_true, decide_eq_true_eq] at h1
      split
      · rename_i h2
        simp only [Bool.and_eq_true, decide_eq_true_eq] at h2
        refine ⟨by omega, by omega, by omega, by omega⟩
      · rw [hE]; refine ⟨by omega, by omega, by omega, by omega⟩
    · split
      · rename_i h1
        simp only [Bool.and_eq_true, decide_eq_true_eq] at h1
        split
        · rename_i h2
          simp only [Bool.and_eq_true, decide_eq_true_eq] at h2
          refine ⟨by omega, by omega, by omega, by omega⟩
        · rw [hE]; refine ⟨by omega, by omega, by omega, by omega⟩
      · rw [hE]; refine ⟨by omega, by omega, by omega, by omega⟩
theorem encode_size (r : Int) : 1 ≤ (Utf8.encode r).data.toList.length ∧ (Utf8.encode r).data.toList.length ≤ 4 := by
  unfold Utf8.encode
  simp only
  repeat' split
  all_goals simp
theorem run_next_any {w : World} {g pos : Nat} {t : ByteArray} (hg : IterAt w g t pos) (ty : TypeId) (h : pos < t.size) :
    (Instr.next (.pointer (some ⟨g, 0, none⟩)) true ty).run Tryz.prog w = .ok (.tuple #[.bool true, .int .i64 pos, .int .i32 ((Utf8.decode t pos).1 : Nat)]) (iterSet w g t (pos + (Utf8.decode t pos).2)) := by
  unfold IterAt at hg
  simp only [Instr.next, getObj, setObj, Sem.run_bind, Sem.run, hg, Result.andThen, h, if_true]
  simp [goInt, iterSet]
theorem conv_rune (c : Int) (w : World) : (convert 21 9 (.int .i32 c)).run Tryz.prog w = .ok (S (Utf8.encode c).data.toList) w := conv_run c w
end Go.Proofs.YtgfkdjmoflbmdaaGreatDoor

namespace Go.Proofs.YtgfkdjmoflbmdaaGreatDoor
open Go.RowKit
open Go.Proofs

/-- what parsing a text hands back that is not ASCII -/
def BadBack (w : World) (s : ByteArray) (e : Ending) (w' : World) : Prop :=
  ∃ A n c bd, e = .returned (.agg #[.bool (Pl.startsV s.data.toList), .slice A n c, S bd, .string s]) ∧ bd ≠ [] ∧ bd.length ≤ 200000 ∧ Below w.heap.size w w'
/-- what has been read -/
def ReadW (t : ByteArray) (k : Nat) (ns : List Nat) (cur : List UInt8) (fb : Bool) : Prop :=
  (fb = false ∧ Pl.Read t.data.toList k ns cur false) ∨ (fb = true ∧ cur ≠ [] ∧ cur.length ≤ 4 * k ∧ ns.length ≤ t.size + 2)
theorem isASCIIDigit_gen (c : Nat) (w : World) : Calls Tryz.prog 112 #[.int .i32 (c : Int)] w fun e w' => e = .returned (.bool (decide (48 ≤ c) && decide (c ≤ 57))) ∧ w = w' := by
  by_cases h1 : 48 ≤ c
  · have t1 : (48 : Int) ≤ (c : Int) := by omega
    by_cases h2 : c ≤ 57
    · have t2 : (c : Int) ≤ 57 := by omega
      go_enter Tryz.func112, Tryz.ntmps112
      go_wp2
      go_ret
      exact ⟨ret_bool (by simp [h1, h2]), rfl⟩
    · have t2 : ¬ (c : Int) ≤ 57 := by omega
      go_enter Tryz.func112, Tryz.ntmps112
      go_wp2
      go_ret
      exact ⟨ret_bool (by simp), rfl⟩
  · have t1 : ¬ (48 : Int) ≤ (c : Int) := by omega
    go_enter Tryz.func112, Tryz.ntmps112
    go_wp2
    go_ret
    exact ⟨ret_bool (by simp), rfl⟩
theorem cat_SS (a b : List UInt8) : Value.string ((⟨a.toArray⟩ : ByteArray) ++ ⟨b.toArray⟩) = S (a ++ b) := by
  have h : ((⟨a.toArray⟩ : ByteArray) ++ ⟨b.toArray⟩).data.toList = a ++ b := by simp
  rw [string_S, h]
/-- the rune at a place: a byte below 128, or a greater one -/
theorem rune_at (t : ByteArray) (k : Nat) (h : k < t.size) : ∃ r d, Utf8.decode t k = (r, d) ∧ 1 ≤ d ∧ k + d ≤ t.size ∧ r < 2097152 ∧ ((r = t[k].toNat ∧ d = 1 ∧ r < 128) ∨ (128 ≤ t[k].toNat ∧ 128 ≤ r)) := by
  by_cases ha : t[k].toNat < 128
  · exact ⟨_, _, decode_ascii t k h ha, by omega, by omega, by omega, Or.inl ⟨rfl, rfl, ha⟩⟩
  · obtain ⟨h1, h2, h3, h4⟩ := decode_big t k h (by omega)
    exact ⟨_, _, rfl, h3, h4, h2, Or.inr ⟨by omega, h1⟩⟩
theorem trimV_ascii (l : Pl.Bytes) (h : Pl.ascii (Pl.restV l) = true) : Pl.ascii l = true := by
  cases l with
  | nil => rfl
  | cons c r =>
    rw [Pl.restV] at h
    by_cases hc : c = 118
    · rw [if_pos hc] at h
      rw [Pl.ascii, List.all_cons, Bool.and_eq_true]
      exact ⟨by subst hc; decide, h⟩
    · rw [if_neg hc] at h; exact h
theorem read_ascii {t : Pl.Bytes} {ns : List Nat} {cur : List UInt8} (h : Pl.Read t t.length ns cur false) : Pl.ascii t = true := by
  rcases h with ⟨_, h1, _⟩ | ⟨h, _⟩
  · rw [List.take_length] at h1
    refine List.all_eq_true.2 fun c hc => ?_
    have := List.all_eq_true.1 h1 c hc
    unfold Pl.coreB Pl.isDig at this
    simp only [Bool.or_eq_true, Bool.and_eq_true, decide_eq_true_eq, beq_iff_eq] at this ⊢
    rcases this with k | k
    · omega
    · subst k; decide
  · cases h

set_option maxRecDepth 100000 in
set_option maxHeartbeats 2000000 in
theorem parseBad_any (s : ByteArray) (pe pn pi : Addr) (w : World) (hs : s.size ≤ 30000) (hV : PkgVars w pe pn pi) (hasc : Pl.ascii s.data.toList = false) :
    Calls Tryz.prog 92 #[.string s] w (BadBack w s) := by
  have HP := Lib.hid (fun W => HasPrefix_any s 118 W (by omega))
  have HTP := Lib.hid (fun W => TrimPrefix_any s 118 W (by omega))
  simp only [trimC_118] at HTP
  obtain ⟨t, ht⟩ : ∃ t : ByteArray, t.data.toList = Pl.restV s.data.toList := ⟨⟨(Pl.restV s.data.toList).toArray⟩, rfl⟩
  have hts : t.size ≤ 30000 := by
    rw [← len_list, ht, ← trimC_118]
    cases hl : s.data.toList with
    | nil => simp [trimC]
    | cons c r =>
      have := len_list s
      rw [hl] at this
      show (if c = 118 then r else c :: r).length ≤ _
      split <;> simp at this ⊢ <;> omega
  have hT : Value.string t = S (Pl.restV s.data.toList) := by rw [string_S, ht]
  rw [← hT] at HTP
  have hta : Pl.ascii t.data.toList = false := by
    cases e : Pl.ascii t.data.toList with
    | false => rfl
    | true => rw [ht] at e; rw [trimV_ascii _ e] at hasc; cases hasc
  have HTA := Lib.hid hta
  clear ht hT hta hasc
  go_enter Tryz.func92, Tryz.ntmps92
  go_wp2_with fail
  refine (HP.out _).mono ?_; rintro e w1 ⟨rfl, rfl⟩
  go_wp2_with fail
  refine (HTP.out _).mono ?_; rintro e w2 ⟨rfl, rfl⟩
  go_upto_block 0 with (fail)
  obtain ⟨W, hW⟩ : ∃ W, (w.alloc (.cells #[.bool false, .slice none 0 0, .string ⟨#[]⟩, .string ⟨#[]⟩] 56)).iter t 0 = W := ⟨_, rfl⟩
  have hIW : IterAt W (w.heap.size + 1) t 0 := by
    rw [← hW]
    have := World.iter_heap (w.alloc (.cells #[.bool false, .slice none 0 0, .string ⟨#[]⟩, .string ⟨#[]⟩] 56)) t 0
    rw [World.size_alloc] at this
    exact this
  have hRW : Blk W w.heap.size 56 #[.bool false, .slice none 0 0, .string ⟨#[]⟩, .string ⟨#[]⟩] := by rw [← hW]; exact Blk.alloc (Blk.new _ _ _) _
  have hbW : Below w.heap.size w W := by rw [← hW]; exact ((Below.refl _ _).alloc (Nat.le_refl _) _).alloc (by simp) _
  rw [hW]
  clear hW
  go_wp2
  go_loopw [3, 5, 6] (fun cv sv fv wr => ∃ (k : Nat) (ns : List Nat) (cur : List UInt8) (fb : Bool), k ≤ t.size ∧ sv = S cur ∧ fv = .bool fb ∧ ReadW t k ns cur fb ∧ IterAt wr (w.heap.size + 1) t k ∧
    OwnBigs wr (w.heap.size + 2) cv ns ∧ Blk wr w.heap.size 56 #[.bool false, .slice none 0 0, .string ⟨#[]⟩, .string ⟨#[]⟩] ∧ Below w.heap.size w wr) (fun _ _ _ wr => t.size - iterPos wr (w.heap.size + 1))
  case atStart => exact ⟨0, [], [], false, Nat.zero_le _, rfl, rfl, Or.inl ⟨rfl, Pl.Read.start _⟩, hIW, ⟨[], rfl, World.ownsRow_nil _ _ _ _, fun k h => absurd h (by simp)⟩, hRW, hbW⟩
  case round =>
    obtain ⟨k, ns, cur, fb, hk, rfl, rfl, hread, hit, hob, hblk, hbel⟩ := hrel
    have HRD := Lib.hid hread
    clear hread
    by_cases hlt : k < t.size
    · have hnx := fun ty => run_next_any hit ty hlt
      obtain ⟨r, d, hdec, hd1, hkd, hrl, hrc⟩ := rune_at t k hlt
      simp only [hdec] at hnx
      obtain ⟨E, hE, hE1, hE4⟩ : ∃ E : List UInt8, (Utf8.encode (r : Int)).data.toList = E ∧ 1 ≤ E.length ∧ E.length ≤ 4 := ⟨_, rfl, encode_size _⟩
      have hcv := fun w => conv_rune (r : Int) w
      simp only [hE] at hcv
      have HRC := Lib.hid hrc
      have HEN := Lib.hid hE
      have HNX := Lib.hid hnx
      clear hnx hdec hrc hE
      cases fb with
      | true =>
        obtain ⟨hne, hcl4, hnl⟩ : cur ≠ [] ∧ cur.length ≤ 4 * k ∧ ns.length ≤ t.size + 2 := by
          rcases HRD.out with ⟨h, _⟩ | ⟨_, h⟩
          · cases h
          · exact h
        have HNE := Lib.hid hne
        clear hne
        have hcl : ¬ 9223372036854775807 < cur.length + E.length := by omega
        go_wp2_with fail
        rw [HNX.out]
        go_wp2
        go_roundw
        case rel =>
          exact ⟨k + d, ns, cur ++ E, true, hkd, cat_SS cur E, rfl, Or.inr ⟨rfl, by simp [HNE.out], by rw [List.length_append]; omega, hnl⟩, iterSet_at hit, hob.iter hit, hblk.grown (iterSet_grown _ _ _ _) (by simp), hbel.grown (iterSet_grown _ _ _ _) hbel.size (fun k hk => by injection hk with hk; omega)⟩
        case measure =>
          rw [iterPos_at (iterSet_at hit), iterPos_at hit]; omega
      | false =>
        have hrd : Pl.Read t.data.toList k ns cur false := by
          rcases HRD.out with ⟨_, h⟩ | ⟨h, _⟩
          · exact h
          · cases h
        have HRF := Lib.hid hrd
        clear hrd
        have hcl : ¬ 9223372036854775807 < cur.length + E.length := by have := HRF.out.len; omega
        have hck := get_list t k hlt
        have HCK := Lib.hid hck
        clear hck
        cases hd : (decide (48 ≤ r) && decide (r ≤ 57)) with
        | true =>
          have hbyte : Pl.isDig t[k] = true ∧ d = 1 ∧ E = [t[k]] := by
            rw [Bool.and_eq_true, decide_eq_true_eq, decide_eq_true_eq] at hd
            rcases HRC.out with ⟨e1, e2, e3⟩ | ⟨_, e2⟩
            · refine ⟨by rw [Pl.isDig, ← e1]; simpa using hd, e2, ?_⟩
              have := encode_ascii t[k] (by omega)
              rw [← e1] at this
              rw [← HEN.out, this]
            · omega
          have HBY := Lib.hid hbyte
          clear hbyte
          have HD := Lib.hid hd
          clear hd
          go_wp2_with fail
          rw [HNX.out]
          go_wp2_with (go_at_call 112; refine (isASCIIDigit_gen r _).mono ?_; rintro e w' ⟨rfl, rfl⟩; rw [show (decide (48 ≤ r) && decide (r ≤ 57)) = true from HD.out])
          go_roundw
          case rel =>
            refine ⟨k + d, ns, cur ++ E, false, hkd, cat_SS cur E, rfl, Or.inl ⟨rfl, ?_⟩, iterSet_at hit, hob.iter hit, hblk.grown (iterSet_grown _ _ _ _) (by simp), hbel.grown (iterSet_grown _ _ _ _) hbel.size (fun k hk => by injection hk with hk; omega)⟩
            rw [HBY.out.2.1, HBY.out.2.2]
            exact HRF.out.dig HCK.out HBY.out.1
          case measure =>
            rw [iterPos_at (iterSet_at hit), iterPos_at hit]; omega
        | false =>
          have HD := Lib.hid hd
          clear hd
          by_cases hcur : cur = []
          · subst hcur
            cases h46 : ((r : Int) == 46) with
            | true =>
              have hdot : t.data.toList[k]? = some 46 ∧ d = 1 := by
                rw [beq_iff_eq] at h46
                rcases HRC.out with ⟨e1, e2, _⟩ | ⟨_, e2⟩
                · refine ⟨?_, e2⟩
                  rw [HCK.out, Option.some_inj]
                  exact UInt8.toNat_inj.1 (by rw [show (46 : UInt8).toNat = 46 from rfl]; omega)
                · omega
              have HDOT := Lib.hid hdot
              clear hdot
              go_wp2_with fail
              rw [HNX.out]
              go_wp2_with (go_at_call 112; refine (isASCIIDigit_gen r _).mono ?_; rintro e w' ⟨rfl, rfl⟩; rw [show (decide (48 ≤ r) && decide (r ≤ 57)) = false from HD.out])
              go_roundw
              case rel =>
                refine ⟨k + d, ns, [], false, hkd, rfl, rfl, Or.inl ⟨rfl, ?_⟩, iterSet_at hit, hob.iter hit, hblk.grown (iterSet_grown _ _ _ _) (by simp), hbel.grown (iterSet_grown _ _ _ _) hbel.size (fun k hk => by injection hk with hk; omega)⟩
                have := HRF.out.dot HDOT.out.1
                rw [if_pos rfl] at this
                rw [HDOT.out.2]; exact this
              case measure =>
                rw [iterPos_at (iterSet_at hit), iterPos_at hit]; omega
            | false =>
              go_wp2_with fail
              rw [HNX.out]
              go_wp2_with (go_at_call 112; refine (isASCIIDigit_gen r _).mono ?_; rintro e w' ⟨rfl, rfl⟩; rw [show (decide (48 ≤ r) && decide (r ≤ 57)) = false from HD.out])
              go_roundw
              case rel =>
                refine ⟨k + d, ns, E, true, hkd, rfl, rfl, Or.inr ⟨rfl, ?_, by omega, ?_⟩, iterSet_at hit, hob.iter hit, hblk.grown (iterSet_grown _ _ _ _) (by simp), hbel.grown (iterSet_grown _ _ _ _) hbel.size (fun k hk => by injection hk with hk; omega)⟩
                · rintro rfl; simp at hE1
                · have := HRF.out.count; rw [len_list] at this; omega
              case measure =>
                rw [iterPos_at (iterSet_at hit), iterPos_at hit]; omega
          · have hcur1 : cur.isEmpty = false := by simpa using hcur
            obtain ⟨W0, hW0⟩ : ∃ W0, iterSet wr (w.heap.size + 1) t (k + d) = W0 := ⟨_, rfl⟩
            have hit0 : IterAt W0 (w.heap.size + 1) t (k + d) := by rw [← hW0]; exact iterSet_at hit
            have hob0 : OwnBigs W0 (w.heap.size + 2) u3 ns := by rw [← hW0]; exact hob.iter hit
            have hblk0 : Blk W0 w.heap.size 56 #[.bool false, .slice none 0 0, .string ⟨#[]⟩, .string ⟨#[]⟩] := by rw [← hW0]; exact hblk.grown (iterSet_grown _ _ _ _) (by simp)
            have hbel0 : Below w.heap.size w W0 := by rw [← hW0]; exact hbel.grown (iterSet_grown _ _ _ _) hbel.size (fun k hk => by injection hk with hk; omega)
            obtain ⟨hcd, hcl2⟩ := HRF.out.digs
            have had : Pl.allDig cur = true := by
              rw [Pl.allDig, Bool.and_eq_true]
              exact ⟨hcd, by rw [hcur1]; rfl⟩
            have hkn : Pl.idKnown1 cur = true := by
              rw [Pl.idKnown1]
              cases hcu : cur with
              | nil => rfl
              | cons x r =>
                rw [hcu] at hcd
                rw [List.all_cons, Bool.and_eq_true] at hcd
                have h45 : x ≠ 45 := by rintro rfl; exact absurd hcd.1 (by decide)
                have h43 : x ≠ 43 := by rintro rfl; exact absurd hcd.1 (by decide)
                simp [h45, h43]
            obtain ⟨W1, hW1⟩ : ∃ W1, W0.alloc (.cells #[.bool false, .slice none 0 0] 128) = W1 := ⟨_, rfl⟩
            have hbW1 : Below W0.heap.size W0 W1 := by rw [← hW1]; exact (Below.refl _ _).alloc (Nat.le_refl _) _
            have hZ1 : Blk W1 W0.heap.size 128 #[.bool false, .slice none 0 0] := by rw [← hW1]; exact Blk.new _ _ _
            have hsz1 : W1.heap.size = W0.heap.size + 1 := by rw [← hW1]; simp
            have hVW1 := (hV.below hbel0).below hbW1
            have hSET := SetString_any W0.heap.size ⟨cur.toArray⟩ pe pn W1 (by rw [S_size]; omega) hVW1.1 (by have := hV.lt; have := hbel0.size; omega) hZ1 hkn
            have HSET := Lib.hid hSET
            have HAD := Lib.hid had
            have HW0 := Lib.hid hW0
            have HW1 := Lib.hid hW1
            clear hSET had hkn hcd hW0 hW1
            obtain ⟨i0, hi, hz0, hz1, hz2⟩ := info_parts info123
            have hnl : ns.length ≤ 900000 := by have := HRF.out.count; rw [len_list] at this; omega
            cases h46 : ((r : Int) == 46) with
            | true =>
              have hdot : t.data.toList[k]? = some 46 ∧ d = 1 := by
                rw [beq_iff_eq] at h46
                rcases HRC.out with ⟨e1, e2, _⟩ | ⟨_, e2⟩
                · refine ⟨?_, e2⟩
                  rw [HCK.out, Option.some_inj]
                  exact UInt8.toNat_inj.1 (by rw [show (46 : UInt8).toNat = 46 from rfl]; omega)
                · omega
              have HDOT := Lib.hid hdot
              clear hdot
              go_wp2_with fail
              rw [HNX.out, HW0.out]
              go_wp2_with (first
              | (go_at_call 112; refine (isASCIIDigit_gen r _).mono ?_; rintro e w' ⟨rfl, rfl⟩; rw [show (decide (48 ≤ r) && decide (r ≤ 57)) = false from HD.out])
              | (go_at_call 113; rw [HW1.out]; refine HSET.out.mono ?_; intro e w2 hset; obtain ⟨hF, rfl, hI⟩ := set_yes HAD.out hset; have hb2 := FrB.below (hF.mono (by omega)) hbW1 (Nat.le_refl _); obtain ⟨Zs, z1, z2, z3⟩ := hob0.below hb2; have hb2s := Nat.le_trans hit0.lt hb2.size)
              | (at_builtin; refine wpList_app1 _ rfl (.tmp 43) (.tmp 45) 53 rfl (w.heap.size + 2) 123 i0 _ 8 Tryz.underlying53 hi hz0 hz1 hz2 rfl _ _ _ rfl z2 (PtrV W0.heap.size) rfl rfl (by omega) (by omega) hb2s ?_; intro g cap w3 hown3 hg3 hat3 hb3))
              go_roundw
              case rel =>
                have hlt2 := fun k hk => (World.ownsRow.lt z2 k hk).1
                refine ⟨k + d, ns ++ [Pl.natOf cur], [], false, hkd, rfl, rfl, ?_, (hit0.below hb2 hit0.lt).grown hg3 (fun e => by have := hlt2 _ e.symm; omega), OwnBigs.append z1 z2 z3 hI hown3 hg3, (hblk0.below hb2 hblk0.lt).grown hg3 (fun e => by have := hlt2 _ e.symm; omega), hbel0.trans ((hb2.mono hbel0.size).trans (hb3.mono (by omega)))⟩
                refine Or.inl ⟨rfl, ?_⟩
                have := HRF.out.dot HDOT.out.1
                rw [if_neg hcur] at this
                rw [HDOT.out.2]; exact this
              case measure =>
                rw [iterPos_at ((hit0.below hb2 hit0.lt).grown hg3 (fun e => by have := (World.ownsRow.lt z2 _ e.symm).1; omega)), iterPos_at hit]; omega
            | false =>
              go_wp2_with fail
              rw [HNX.out, HW0.out]
              go_wp2_with (first
              | (go_at_call 112; refine (isASCIIDigit_gen r _).mono ?_; rintro e w' ⟨rfl, rfl⟩; rw [show (decide (48 ≤ r) && decide (r ≤ 57)) = false from HD.out])
              | (go_at_call 113; rw [HW1.out]; refine HSET.out.mono ?_; intro e w2 hset; obtain ⟨hF, rfl, hI⟩ := set_yes HAD.out hset; have hb2 := FrB.below (hF.mono (by omega)) hbW1 (Nat.le_refl _); obtain ⟨Zs, z1, z2, z3⟩ := hob0.below hb2; have hb2s := Nat.le_trans hit0.lt hb2.size)
              | (at_builtin; refine wpList_app1 _ rfl (.tmp 43) (.tmp 45) 53 rfl (w.heap.size + 2) 123 i0 _ 8 Tryz.underlying53 hi hz0 hz1 hz2 rfl _ _ _ rfl z2 (PtrV W0.heap.size) rfl rfl (by omega) (by omega) hb2s ?_; intro g cap w3 hown3 hg3 hat3 hb3))
              go_roundw
              case rel =>
                have hlt2 := fun k hk => (World.ownsRow.lt z2 k hk).1
                refine ⟨k + d, ns ++ [Pl.natOf cur], E, true, hkd, rfl, rfl, ?_, (hit0.below hb2 hit0.lt).grown hg3 (fun e => by have := hlt2 _ e.symm; omega), OwnBigs.append z1 z2 z3 hI hown3 hg3, (hblk0.below hb2 hblk0.lt).grown hg3 (fun e => by have := hlt2 _ e.symm; omega), hbel0.trans ((hb2.mono hbel0.size).trans (hb3.mono (by omega)))⟩
                refine Or.inr ⟨rfl, ?_, by omega, ?_⟩
                · rintro rfl; simp at hE1
                · have h2 := HRF.out.count
                  rw [List.length_append]; rw [len_list] at h2; simp; omega
              case measure =>
                rw [iterPos_at ((hit0.below hb2 hit0.lt).grown hg3 (fun e => by have := (World.ownsRow.lt z2 _ e.symm).1; omega)), iterPos_at hit]; omega
    · obtain rfl : k = t.size := by omega
      have hnx := run_next_done hit 0 hlt
      have HNX := Lib.hid hnx
      clear hnx
      have c0 := hblk.cell 0
      have c1 := hblk.cell 1
      have c2 := hblk.cell 2
      have c3 := hblk.cell 3
      have f0 := hblk.frozen 0
      have f1 := hblk.frozen 1
      have f2 := hblk.frozen 2
      have f3 := hblk.frozen 3
      simp at c0 c1 c2 c3
      cases fb with
      | true =>
        obtain ⟨hne, hcl4, hnl⟩ : cur ≠ [] ∧ cur.length ≤ 4 * t.size ∧ ns.length ≤ t.size + 2 := by
          rcases HRD.out with ⟨h, _⟩ | ⟨_, h⟩
          · cases h
          · exact h
        have HNE := Lib.hid hne
        clear hne
        obtain ⟨Zs, z1, z2, z3⟩ := hob
        obtain ⟨A, cp, rfl⟩ := own_form z2
        go_wp2_with fail
        rw [HNX.out]
        go_wp2_with fail
        refine bodyPost_ret (v := .agg #[.bool (headIs 118 s.data.toList), .slice A ns.length cp, S cur, .string s]) (by simp [results, Tryz.results92, go_sem, c0, c1, c2, c3]) rfl ⟨A, ns.length, cp, cur, rfl, HNE.out, by omega, ?_⟩
        exact (((hbel.setCell (Nat.le_refl _) _).setCell (Nat.le_refl _) _).setCell (Nat.le_refl _) _).setCell (Nat.le_refl _) _
      | false =>
        exfalso
        rcases HRD.out with ⟨_, h⟩ | ⟨h, _⟩
        · rw [← len_list] at h
          have := read_ascii h
          rw [HTA.out] at this; cases this
        · cases h
end Go.Proofs.YtgfkdjmoflbmdaaGreatDoor

namespace Go.Proofs.YtgfkdjmoflbmdaaGreatDoor
open Go.RowKit
open Go.Proofs

theorem fetchAll_any (p : Nat) (v : Bool) (A : Option Addr) (n c : Nat) (bd og : ByteArray) (w : World) (hb : Blk w p 56 #[.bool v, .slice A n c, .string bd, .string og]) :
    Calls Tryz.prog 114 #[.pointer (some ⟨p, 0, none⟩), .int .i64 (-1)] w fun e w' => e = .returned (.tuple #[.slice A n c, .string bd]) ∧ ∃ q, w' = w.drewN q := by
  have c1 := hb.cell 1
  have c2 := hb.cell 2
  simp at c1 c2
  go_enter Tryz.func114, Tryz.ntmps114
  go_wp2_with fail
  go_quiet (fail)
  go_wp2
  exact bodyPost_ret (v := .tuple #[.slice A n c, .string bd]) (by simp [results, Tryz.results114, go_sem]) rfl ⟨rfl, _, rfl⟩

set_option maxRecDepth 100000 in
theorem parseAll_any (s : ByteArray) (pe pn pi : Addr) (w : World) (hs : s.size ≤ 30000) (hV : PkgVars w pe pn pi) (hasc : Pl.ascii s.data.toList = true) :
    Calls Tryz.prog 93 #[.string s, .int .i64 (-1)] w (ParseBack w s) := by
  obtain ⟨W, hW⟩ : ∃ W, w.alloc (.cells #[.bool false, .slice none 0 0, .string ⟨#[]⟩, .string ⟨#[]⟩] 56) = W := ⟨_, rfl⟩
  have hbW : Below w.heap.size w W := by rw [← hW]; exact (Below.refl _ _).alloc (Nat.le_refl _) _
  have hRW : Blk W w.heap.size 56 #[.bool false, .slice none 0 0, .string ⟨#[]⟩, .string ⟨#[]⟩] := by rw [← hW]; exact Blk.new _ _ _
  have HC := Lib.hid (parse_any s pe pn pi W hs (hV.below hbW) hasc)
  have HW := Lib.hid hW
  clear hW
  go_enter Tryz.func93, Tryz.ntmps93
  go_wp2_with fail
  rw [HW.out]
  refine HC.out.mono ?_; rintro e w1 ⟨A, c, rfl, hob, hb1⟩
  have hR1 := hRW.below hb1 hRW.lt
  obtain ⟨X, hX⟩ : ∃ X, w1.alloc (.cells #[.bool (Pl.startsV s.data.toList), .slice A (Pl.numsOf s.data.toList).length c, .string ⟨(Pl.buildOf s.data.toList).toArray⟩, .string s] 56) = X := ⟨_, rfl⟩
  have hbX : Below w1.heap.size w1 X := by rw [← hX]; exact (Below.refl _ _).alloc (Nat.le_refl _) _
  have hV5 : Blk X w1.heap.size 56 #[.bool (Pl.startsV s.data.toList), .slice A (Pl.numsOf s.data.toList).length c, .string ⟨(Pl.buildOf s.data.toList).toArray⟩, .string s] := by rw [← hX]; exact Blk.new _ _ _
  have hRX := hR1.below hbX hR1.lt
  have hobX := hob.below hbX
  have HX := Lib.hid hX
  clear hX
  go_wp2_with fail
  rw [HX.out]
  refine (fetchAll_any _ _ _ _ _ _ _ X hV5).mono ?_; rintro e w3 ⟨rfl, q, rfl⟩
  have hR3 : Blk (X.drewN q) w.heap.size 56 #[.bool false, .slice none 0 0, .string ⟨#[]⟩, .string ⟨#[]⟩] := hRX
  have hV3 : Blk (X.drewN q) w1.heap.size 56 #[.bool (Pl.startsV s.data.toList), .slice A (Pl.numsOf s.data.toList).length c, .string ⟨(Pl.buildOf s.data.toList).toArray⟩, .string s] := hV5
  have hob3 : OwnBigs (X.drewN q) W.heap.size (.slice A (Pl.numsOf s.data.toList).length c) (Pl.numsOf s.data.toList) := hobX
  have hbel3 : Below w.heap.size w (X.drewN q) := below_drewN (hbW.trans ((hb1.mono hbW.size).trans (hbX.mono (Nat.le_trans hbW.size hb1.size)))) q
  generalize X.drewN q = Y at hR3 hV3 hob3 hbel3 ⊢
  have c0 := hV3.cell 0
  have c3 := hV3.cell 3
  have d0 := hR3.cell 0
  have d1 := hR3.cell 1
  have d2 := hR3.cell 2
  have d3 := hR3.cell 3
  have e0 := hR3.frozen 0
  have e1 := hR3.frozen 1
  have e2 := hR3.frozen 2
  have e3 := hR3.frozen 3
  simp at c0 c3 d0 d1 d2 d3
  go_wp2
  refine bodyPost_ret (v := .agg #[.bool (Pl.startsV s.data.toList), .slice A (Pl.numsOf s.data.toList).length c, S (Pl.buildOf s.data.toList), .string s]) (by simp [results, Tryz.results93, go_sem, d0, d1, d2, d3]) rfl ⟨A, c, rfl, ?_, ?_⟩
  · exact OwnBigs.four (OwnBigs.lower hob3 hbW.size) hR3
  · exact (((hbel3.setCell (Nat.le_refl _) _).setCell (Nat.le_refl _) _).setCell (Nat.le_refl _) _).setCell (Nat.le_refl _) _
set_option maxRecDepth 100000 in
theorem parseAllBad_any (s : ByteArray) (pe pn pi : Addr) (w : World) (hs : s.size ≤ 30000) (hV : PkgVars w pe pn pi) (hasc : Pl.ascii s.data.toList = false) :
    Calls Tryz.prog 93 #[.string s, .int .i64 (-1)] w (BadBack w s) := by
  obtain ⟨W, hW⟩ : ∃ W, w.alloc (.cells #[.bool false, .slice none 0 0, .string ⟨#[]⟩, .string ⟨#[]⟩] 56) = W := ⟨_, rfl⟩
  have hbW : Below w.heap.size w W := by rw [← hW]; exact (Below.refl _ _).alloc (Nat.le_refl _) _
  have hRW : Blk W w.heap.size 56 #[.bool false, .slice none 0 0, .string ⟨#[]⟩, .string ⟨#[]⟩] := by rw [← hW]; exact Blk.new _ _ _
  have HC := Lib.hid (parseBad_any s pe pn pi W hs (hV.below hbW) hasc)
  have HW := Lib.hid hW
  clear hW
  go_enter Tryz.func93, Tryz.ntmps93
  go_wp2_with fail
  rw [HW.out]
  refine HC.out.mono ?_; rintro e w1 ⟨A, n, c, bd, rfl, hbd, hbl, hb1⟩
  have hR1 := hRW.below hb1 hRW.lt
  obtain ⟨X, hX⟩ : ∃ X, w1.alloc (.cells #[.bool (Pl.startsV s.data.toList), .slice A n c, .string ⟨bd.toArray⟩, .string s] 56) = X := ⟨_, rfl⟩
  have hbX : Below w1.heap.size w1 X := by rw [← hX]; exact (Below.refl _ _).alloc (Nat.le_refl _) _
  have hV5 : Blk X w1.heap.size 56 #[.bool (Pl.startsV s.data.toList), .slice A n c, .string ⟨bd.toArray⟩, .string s] := by rw [← hX]; exact Blk.new _ _ _
  have hRX := hR1.below hbX hR1.lt
  have HX := Lib.hid hX
  clear hX
  go_wp2_with fail
  rw [HX.out]
  refine (fetchAll_any _ _ _ _ _ _ _ X hV5).mono ?_; rintro e w3 ⟨rfl, q, rfl⟩
  have hR3 : Blk (X.drewN q) w.heap.size 56 #[.bool false, .slice none 0 0, .string ⟨#[]⟩, .string ⟨#[]⟩] := hRX
  have hV3 : Blk (X.drewN q) w1.heap.size 56 #[.bool (Pl.startsV s.data.toList), .slice A n c, .string ⟨bd.toArray⟩, .string s] := hV5
  have hbel3 : Below w.heap.size w (X.drewN q) := below_drewN (hbW.trans ((hb1.mono hbW.size).trans (hbX.mono (Nat.le_trans hbW.size hb1.size)))) q
  generalize X.drewN q = Y at hR3 hV3 hbel3 ⊢
  have c0 := hV3.cell 0
  have c3 := hV3.cell 3
  have d0 := hR3.cell 0
  have d1 := hR3.cell 1
  have d2 := hR3.cell 2
  have d3 := hR3.cell 3
  have e0 := hR3.frozen 0
  have e1 := hR3.frozen 1
  have e2 := hR3.frozen 2
  have e3 := hR3.frozen 3
  simp at c0 c3 d0 d1 d2 d3
  go_wp2
  refine bodyPost_ret (v := .agg #[.bool (Pl.startsV s.data.toList), .slice A n c, S bd, .string s]) (by simp [results, Tryz.results93, go_sem, d0, d1, d2, d3]) rfl ⟨A, n, c, bd, rfl, hbd, hbl, ?_⟩
  exact (((hbel3.setCell (Nat.le_refl _) _).setCell (Nat.le_refl _) _).setCell (Nat.le_refl _) _).setCell (Nat.le_refl _) _
end Go.Proofs.YtgfkdjmoflbmdaaGreatDoor

namespace Go.Proofs.YtgfkdjmoflbmdaaGreatDoor
open Go.RowKit
open Go.Proofs

theorem toLower_nil (w : World) : Calls Tryz.prog 117 #[.string ⟨#[]⟩] w fun e w' => e = .returned (.string ⟨#[]⟩) ∧ w = w' := by
  go_enter Tryz.func117, Tryz.ntmps117
  go_wp2
  go_loop [3, 4, 5] (fun a h iv => a = .bool true ∧ h = .bool false ∧ iv = .int .i64 0) (fun _ _ _ => 0)
  case atStart => exact ⟨rfl, rfl, rfl⟩
  case round =>
    obtain ⟨rfl, rfl, rfl⟩ := hrel
    go_wp2
    go_ret
    exact ⟨rfl, rfl⟩
theorem build_nil_ascii {l : Pl.Bytes} (h : Pl.buildOf l = []) : Pl.ascii l = true := by
  have h1 : (Pl.restV l).all Pl.coreB = true := by
    have e := List.takeWhile_append_dropWhile (p := Pl.coreB) (l := Pl.restV l)
    have h2 : (Pl.restV l).dropWhile Pl.coreB = [] := h
    rw [h2, List.append_nil] at e
    refine List.all_eq_true.2 fun x hx => ?_
    rw [← e] at hx
    exact Pl.all_takeWhile Pl.coreB _ x hx
  refine trimV_ascii l (List.all_eq_true.2 fun c hc => ?_)
  have := List.all_eq_true.1 h1 c hc
  unfold Pl.coreB Pl.isDig at this
  simp only [Bool.or_eq_true, Bool.and_eq_true, decide_eq_true_eq, beq_iff_eq] at this ⊢
  rcases this with k | k
  · omega
  · subst k; decide
theorem below_four4 {w w1 : World} {B g : Nat} (hb : Below B w w1) (hg : B ≤ g) (a b c d : Value) : Below B w ((((w1.setCell ⟨g, 0, none⟩ a).setCell ⟨g, 1, none⟩ b).setCell ⟨g, 2, none⟩ c).setCell ⟨g, 3, none⟩ d) :=
  (((hb.setCell hg _).setCell hg _).setCell hg _).setCell hg _
def HackOk (w : World) (s : ByteArray) (e : Ending) (w' : World) : Prop :=
  ∃ A c, e = .returned (.tuple #[.agg #[.bool (Pl.startsV s.data.toList), .slice A (Pl.numsOf s.data.toList).length c, .string ⟨#[]⟩, .string s], .nilIface]) ∧ OwnBigs w' w.heap.size (.slice A (Pl.numsOf s.data.toList).length c) (Pl.numsOf s.data.toList) ∧ Below w.heap.size w w'
def HackNo (pi : Addr) (w : World) (e : Ending) (w' : World) : Prop :=
  e = .returned (.tuple #[.agg #[.bool false, .slice none 0 0, .string ⟨#[]⟩, .string ⟨#[]⟩], .iface 305 (.pointer (some pi))]) ∧ Below w.heap.size w w'
set_option maxRecDepth 100000 in
set_option maxHeartbeats 1000000 in
theorem parseHack_ok (s : ByteArray) (pe pn pi : Addr) (w : World) (hs : s.size ≤ 30000) (hV : PkgVars w pe pn pi) (hb : Pl.buildOf s.data.toList = []) :
    Calls Tryz.prog 75 #[.string s] w (HackOk w s) := by
  obtain ⟨W, hW⟩ : ∃ W, w.alloc (.cells #[.bool false, .slice none 0 0, .string ⟨#[]⟩, .string ⟨#[]⟩] 82) = W := ⟨_, rfl⟩
  have hbW : Below w.heap.size w W := by rw [← hW]; exact (Below.refl _ _).alloc (Nat.le_refl _) _
  have hRW : Blk W w.heap.size 82 #[.bool false, .slice none 0 0, .string ⟨#[]⟩, .string ⟨#[]⟩] := by rw [← hW]; exact Blk.new _ _ _
  have HC := Lib.hid (parseAll_any s pe pn pi W hs (hV.below hbW) (build_nil_ascii hb))
  have HW := Lib.hid hW
  have HB := Lib.hid hb
  clear hW hb
  go_enter Tryz.func75, Tryz.ntmps75
  go_wp2_with fail
  rw [HW.out]
  refine HC.out.mono ?_; rintro e w1 ⟨A, c, rfl, hob, hb1⟩
  rw [HB.out]
  have hbel := hbW.trans (hb1.mono hbW.size)
  have hR1 := hRW.below hb1 hRW.lt
  have hgl := hR1.lt
  have d0 := hR1.cell 0
  have d1 := hR1.cell 1
  have d2 := hR1.cell 2
  have d3 := hR1.cell 3
  have e0 := hR1.frozen 0
  have e1 := hR1.frozen 1
  have e2 := hR1.frozen 2
  have e3 := hR1.frozen 3
  simp at d0 d1 d2 d3
  go_wp2
  refine bodyPost_ret (v := .tuple #[.agg #[.bool (Pl.startsV s.data.toList), .slice A (Pl.numsOf s.data.toList).length c, .string ⟨#[]⟩, .string s], .nilIface]) (by simp [results, Tryz.results75, go_sem, d0, d1, d2, d3, hgl]) rfl ⟨A, c, rfl, ?_, ?_⟩
  · exact OwnBigs.below (OwnBigs.fourT (OwnBigs.lower hob hbW.size) hR1 (by decide) (by decide) (by decide)) ((Below.refl _ _).alloc (Nat.le_refl _) _)
  · exact (below_four4 hbel (Nat.le_refl _) _ _ _ _).alloc (by simp; exact hbel.size) _
/-- a text behind whose numbers something stands -/
theorem parseHack_bad (s : ByteArray) (pe pn pi : Addr) (w : World) (hs : s.size ≤ 30000) (hV : PkgVars w pe pn pi) (hb : Pl.buildOf s.data.toList ≠ []) :
    Calls Tryz.prog 75 #[.string s] w (HackNo pi w) := by
  obtain ⟨W, hW⟩ : ∃ W, w.alloc (.cells #[.bool false, .slice none 0 0, .string ⟨#[]⟩, .string ⟨#[]⟩] 82) = W := ⟨_, rfl⟩
  have hbW : Below w.heap.size w W := by rw [← hW]; exact (Below.refl _ _).alloc (Nat.le_refl _) _
  have hRW : Blk W w.heap.size 82 #[.bool false, .slice none 0 0, .string ⟨#[]⟩, .string ⟨#[]⟩] := by rw [← hW]; exact Blk.new _ _ _
  have hC : Calls Tryz.prog 93 #[.string s, .int .i64 (-1)] W (BadBack W s) := by
    cases hasc : Pl.ascii s.data.toList with
    | false => exact parseAllBad_any s pe pn pi W hs (hV.below hbW) hasc
    | true =>
      refine (parseAll_any s pe pn pi W hs (hV.below hbW) hasc).mono ?_
      rintro e w1 ⟨A, c, rfl, _, hb1⟩
      exact ⟨A, _, c, _, rfl, hb, by have := buildOf_len s.data.toList; rw [len_list] at this; omega, hb1⟩
  have HC := Lib.hid hC
  have HW := Lib.hid hW
  have hVW := hV.below hbW
  clear hW hb hC
  go_enter Tryz.func75, Tryz.ntmps75
  go_wp2_with fail
  rw [HW.out]
  refine HC.out.mono ?_; rintro e w1 ⟨A, n, c, bd, rfl, hbd, hbl, hb1⟩
  have hbel := hbW.trans (hb1.mono hbW.size)
  have hR1 := hRW.below hb1 hRW.lt
  have hV1 := hVW.below hb1
  have hgl := hR1.lt
  have hge := hV1.2
  have h8 := hV1.lt
  have hw8 := (hV.below (Below.refl _ _)).lt
  have d0 := hR1.cell 0
  have d1 := hR1.cell 1
  have d2 := hR1.cell 2
  have d3 := hR1.cell 3
  have e0 := hR1.frozen 0
  have e1 := hR1.frozen 1
  have e2 := hR1.frozen 2
  have e3 := hR1.frozen 3
  simp at d0 d1 d2 d3
  have hbd1 : bd.isEmpty = false := by simpa using hbd
  have hX := hR1.alloc (.cells #[.bool (Pl.startsV s.data.toList), .slice A n c, S bd, .string s] 82)
  have hVX := hV1.below (w' := w1.alloc (.cells #[.bool (Pl.startsV s.data.toList), .slice A n c, S bd, .string s] 82)) ((Below.refl _ _).alloc (Nat.le_refl _) _)
  have hbX := hbel.alloc hbel.size (.cells #[.bool (Pl.startsV s.data.toList), .slice A n c, S bd, .string s] 82)
  obtain ⟨X, hXe⟩ : ∃ X, w1.alloc (.cells #[.bool (Pl.startsV s.data.toList), .slice A n c, S bd, .string s] 82) = X := ⟨_, rfl⟩
  rw [hXe] at hX hVX hbX
  have HX := Lib.hid hXe
  clear hXe
  have x0 := hX.cell 0
  have x1 := hX.cell 1
  have x2 := hX.cell 2
  have x3 := hX.cell 3
  have y0 := hX.frozen 0
  have y1 := hX.frozen 1
  have y2 := hX.frozen 2
  have y3 := hX.frozen 3
  have hgX := hVX.2
  have hne : (1 : Nat) ≠ w.heap.size := by omega
  simp at x0 x1 x2 x3
  go_wp2_with fail
  rw [HX.out]
  go_region
  all_goals go_wp2_with fail
  all_goals exact bodyPost_ret (v := .tuple #[.agg #[.bool false, .slice none 0 0, .string ⟨#[]⟩, .string ⟨#[]⟩], .iface 305 (.pointer (some pi))]) (by simp [results, Tryz.results75, go_sem, x0, x1, x2, x3]) rfl ⟨rfl, (below_four4 hbX (Nat.le_refl _) _ _ _ _).drew⟩
end Go.Proofs.YtgfkdjmoflbmdaaGreatDoor
