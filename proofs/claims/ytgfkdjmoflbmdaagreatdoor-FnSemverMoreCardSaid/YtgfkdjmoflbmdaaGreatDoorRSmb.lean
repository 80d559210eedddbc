/- divRecursiveStep after its last loop. (printed by gensmb.py) -/
import Derived.Test.YtgfkdjmoflbmdaaGreatDoorRSma
namespace Go.Proofs.YtgfkdjmoflbmdaaGreatDoor
open Go.RowKit
open Go.Proofs
def firstReg : Code → Option Nat
  | .region id _ _ => some id
  | .seq a _ => firstReg a
  | .loop c => firstReg c
  | .block _ c => firstReg c
  | .scope c => firstReg c
  | _ => none
def tailOf (k : Nat) : Code → Option Code
  | .seq a b => match firstReg a with
    | some n => if n = k then some (.seq a b) else match tailOf k a with
      | some c => some c
      | none => tailOf k b
    | none => match tailOf k a with
      | some c => some c
      | none => tailOf k b
  | .cond _ a b => match tailOf k a with
    | some c => some c
    | none => tailOf k b
  | .loop c => tailOf k c
  | .block _ c => tailOf k c
  | .scope c => tailOf k c
  | _ => none
def EndCh (bq oq lz bu ou lu : Nat) (b off : Nat) : Prop := (b = bu ∧ ou ≤ off ∧ off < ou + lu) ∨ (b = bq ∧ oq ≤ off ∧ off < oq + lz)
def EndSt (w : World) (bq oq lz bu ou lu U V : Nat) (wx : World) : Prop := ∃ us' qs' : List Nat, us'.length = lu ∧ qs'.length = lz ∧ (∀ d ∈ us', d < M) ∧ (∀ d ∈ qs', d < M) ∧ Pl.val M us' = U % V ∧ Pl.val M qs' = U / V ∧ WAt wx bu ou us' ∧ WAt wx bq oq qs' ∧ Chg w wx (EndCh bq oq lz bu ou lu)
set_option maxRecDepth 100000 in
set_option maxHeartbeats 8000000 in
theorem stepEnd (bu ou lu cu Nu bq oq lz cz Nq g1 a1 N1 lq g3 a3 _N3 Lp Lz : Nat) (qs : List Nat) (U V : Nat) (w0 w : World) (ds : List Deferred) {s1 s3 s4 s5 s6 s7 s8 s9 s10 s11 s12 s13 s14 s15 s16 s17 s18 s19 s20 s21 s22 s23 s24 s27 s28 s29 s30 s31 s32 s33 s34 s35 s36 s37 s38 s39 s40 s41 s42 s43 s44 s45 s46 s47 s48 s49 s50 s51 s52 s53 s54 s55 s56 s57 s58 s59 s60 s61 s62 s63 s64 s65 s66 s67 s68 s69 s70 s71 s72 s73 s74 s75 s76 s77 s78 s79 s80 s81 s82 s83 s84 s85 s86 s87 s88 s89 s90 s91 s92 s93 s94 s95 s96 s97 s98 s99 s100 s101 s102 s103 s104 s105 s106 s107 s108 s109 s110 s111 s112 s113 s114 s115 s116 s117 s118 s119 s120 s121 s122 s123 s124 s125 s126 s127 s128 s129 s130 s131 s132 s133 s134 s135 s136 s137 s138 s139 s140 s141 s142 s143 s144 s145 s146 s147 s148 s149 s150 s151 s152 s153 s154 s155 s156 s157 s158 s159 s160 s161 s162 s163 s164 s165 s166 s167 s168 s169 s170 s171 s172 s173 s174 s175 s176 s177 s178 s179 s180 s181 s182 s183 s184 s185 s186 s187 s188 s189 s190 s191 s192 s193 s194 s195 s196 s197 s198 s199 s200 s201 s202 s203 s204 s205 s206 s207 s208 s209 s210 s211 s212 s213 s214 s215 s216 s217 s218 s219 s220 s221 s222 s223 s224 s225 s226 s227 s228 s229 s230 s231 s232 s233 s234 s235 s236 s237 s238 s239 s240 s241 s242 s243 s244 s245 s246 s247 s248 s249 s250 s251 s252 s253 s254 s255 s256 s257 s258 s259 s260 s261 s262 s263 s264 s265 s266 s267 s268 s269 s270 s271 s272 s273 s274 s275 s276 s277 s278 s279 s280 s281 s282 s283 s284 s285 s286 s287 s288 s289 s290 s291 s292 s293 s294 s295 s296 : Value} {Q : Exit → Act → World → Prop}
    (hF : FixSt w0 g1 a1 lq g3 a3 Lp Lz bu ou lu U V w) (hlq : lq ≤ 33) (hLp : Lp ≤ Lz) (hLz : Lz ≤ 192) (hlu : 0 < lu ∧ lu ≤ 80) (hcu : lu ≤ cu) (hlz : 0 < lz ∧ lz ≤ 100) (hcz : lz ≤ cz)
    (hqs : qs.length = lz) (hqz : ∀ d ∈ qs, d = 0) (aqs : WAt w bq oq qs) (ru : Arr w bu Nu) (rq : Arr w bq Nq) (_r1 : Arr w g1 N1) (fu : ou + lu ≤ Nu) (fq : oq + lz ≤ Nq)
    (p3u : g3 ≠ bu ∨ a3 + Lz ≤ ou ∨ ou + lu ≤ a3) (p1u : g1 ≠ bu ∨ a1 + lq ≤ ou ∨ ou + lu ≤ a1) (pqu : bq ≠ bu ∨ oq + lz ≤ ou ∨ ou + lu ≤ oq) (p1q : g1 ≠ bq ∨ a1 + lq ≤ oq ∨ oq + lz ≤ a1)
    (hQ : U / V < M ^ lz)
    (hK : ∀ (wx : World) {v30 v262 v263 v264 v265 v266 v267 v268 v269 v270 v271 v272 v273 v274 v275 v276 v277 v278 v279 v280 v281 v282 v283 v284 v285 v286 v287 v288 v289 v290 v291 v292 v293 v294 v295 v296 : Value}, EndSt w bq oq lz bu ou lu U V wx → Q .normal ⟨#[.slice (some ⟨bq, oq, none⟩) lz cz, s1, .slice (some ⟨bu, ou, none⟩) lu cu, s3, s4, s5, s6, s7, s8, s9, s10, s11, s12, s13, s14, s15, s16, s17, s18, s19, s20, s21, s22, s23, s24, .slice (some ⟨g1, a1, none⟩) lq 33, .slice (some ⟨g3, a3, none⟩) Lp 192, s27, s28, s29, v30, s31, s32, s33, s34, s35, s36, s37, s38, s39, s40, s41, s42, s43, s44, s45, s46, s47, s48, s49, s50, s51, s52, s53, s54, s55, s56, s57, s58, s59, s60, s61, s62, s63, s64, s65, s66, s67, s68, s69, s70, s71, s72, s73, s74, s75, s76, s77, s78, s79, s80, s81, s82, s83, s84, s85, s86, s87, s88, s89, s90, s91, s92, s93, s94, s95, s96, s97, s98, s99, s100, s101, s102, s103, s104, s105, s106, s107, s108, s109, s110, s111, s112, s113, s114, s115, s116, s117, s118, s119, s120, s121, s122, s123, s124, s125, s126, s127, s128, s129, s130, s131, s132, s133, s134, s135, s136, s137, s138, s139, s140, s141, s142, s143, s144, s145, s146, s147, s148, s149, s150, s151, s152, s153, s154, s155, s156, s157, s158, s159, s160, s161, s162, s163, s164, s165, s166, s167, s168, s169, s170, s171, s172, s173, s174, s175, s176, s177, s178, s179, s180, s181, s182, s183, s184, s185, s186, s187, s188, s189, s190, s191, s192, s193, s194, s195, s196, s197, s198, s199, s200, s201, s202, s203, s204, s205, s206, s207, s208, s209, s210, s211, s212, s213, s214, s215, s216, s217, s218, s219, s220, s221, s222, s223, s224, s225, s226, s227, s228, s229, s230, s231, s232, s233, s234, s235, s236, s237, s238, s239, s240, s241, s242, s243, s244, s245, s246, s247, s248, s249, s250, s251, s252, s253, s254, s255, s256, s257, s258, s259, s260, s261, v262, v263, v264, v265, v266, v267, v268, v269, v270, v271, v272, v273, v274, v275, v276, v277, v278, v279, v280, v281, v282, v283, v284, v285, v286, v287, v288, v289, v290, v291, v292, v293, v294, v295, v296], ds⟩ wx) :
    Code.wp Tryz.prog ((Tryz.f275.body.bind (tailOf 60)).getD .skip) Q ⟨#[.slice (some ⟨bq, oq, none⟩) lz cz, s1, .slice (some ⟨bu, ou, none⟩) lu cu, s3, s4, s5, s6, s7, s8, s9, s10, s11, s12, s13, s14, s15, s16, s17, s18, s19, s20, s21, s22, s23, s24, .slice (some ⟨g1, a1, none⟩) lq 33, .slice (some ⟨g3, a3, none⟩) Lp 192, s27, s28, s29, s30, s31, s32, s33, s34, s35, s36, s37, s38, s39, s40, s41, s42, s43, s44, s45, s46, s47, s48, s49, s50, s51, s52, s53, s54, s55, s56, s57, s58, s59, s60, s61, s62, s63, s64, s65, s66, s67, s68, s69, s70, s71, s72, s73, s74, s75, s76, s77, s78, s79, s80, s81, s82, s83, s84, s85, s86, s87, s88, s89, s90, s91, s92, s93, s94, s95, s96, s97, s98, s99, s100, s101, s102, s103, s104, s105, s106, s107, s108, s109, s110, s111, s112, s113, s114, s115, s116, s117, s118, s119, s120, s121, s122, s123, s124, s125, s126, s127, s128, s129, s130, s131, s132, s133, s134, s135, s136, s137, s138, s139, s140, s141, s142, s143, s144, s145, s146, s147, s148, s149, s150, s151, s152, s153, s154, s155, s156, s157, s158, s159, s160, s161, s162, s163, s164, s165, s166, s167, s168, s169, s170, s171, s172, s173, s174, s175, s176, s177, s178, s179, s180, s181, s182, s183, s184, s185, s186, s187, s188, s189, s190, s191, s192, s193, s194, s195, s196, s197, s198, s199, s200, s201, s202, s203, s204, s205, s206, s207, s208, s209, s210, s211, s212, s213, s214, s215, s216, s217, s218, s219, s220, s221, s222, s223, s224, s225, s226, s227, s228, s229, s230, s231, s232, s233, s234, s235, s236, s237, s238, s239, s240, s241, s242, s243, s244, s245, s246, s247, s248, s249, s250, s251, s252, s253, s254, s255, s256, s257, s258, s259, s260, s261, s262, s263, s264, s265, s266, s267, s268, s269, s270, s271, s272, s273, s274, s275, s276, s277, s278, s279, s280, s281, s282, s283, s284, s285, s286, s287, s288, s289, s290, s291, s292, s293, s294, s295, s296], ds⟩ w := by
  conv => arg 2; whnf
  dsimp only
  have HK9 := Lib.hid hK
  have hX := hF.cmp (cu := cu) hcu (by omega) (by omega)
  obtain ⟨qw, zw, ul, h1, h2, h3, h4, h5, h6, h7, h8, h9, h10, h11, h12, h13, h14⟩ := hF
  have hLu : Lp ≤ lu := by
    have k2 := Pl.digs_len_le M_two (Pl.val_lt M ul h6)
    rw [h3] at k2
    rcases h13 with k | k
    · have k1 : Pl.val M zw < M ^ lu := by
        have := Pl.val_lt M ul h6
        rw [h3] at this; omega
      have k3 := Pl.digs_len_le M_two k1
      rw [← k, h2] at k3
      exact k3
    · omega
  have htl : (ul.take Lp).length = Lp := by rw [List.length_take]; omega
  have hdl : (ul.drop Lp).length = lu - Lp := by rw [List.length_drop]; omega
  have htt : ∀ d ∈ ul.take Lp, d < M := fun d hd => h6 d (List.mem_of_mem_take hd)
  have hdt : ∀ d ∈ ul.drop Lp, d < M := fun d hd => h6 d (List.mem_of_mem_drop hd)
  have hvv := Pl.val_take_drop M ul Lp (by omega)
  have hsv := Pl.subV_val M (ul.take Lp) zw 0 (by rw [htl, h2]) htt h5 (by omega)
  have hsl := Pl.subV_len M (ul.take Lp) zw 0 (by rw [htl, h2])
  have hst := Pl.subV_lt M M_pos (ul.take Lp) zw 0
  have hsc := Pl.subV_c M (ul.take Lp) zw 0 (by omega)
  have hval := sub_two (zs := ul) (ws := zw) (s := Lp) (by omega) h2 h6 h5 h10
  have hS := subVV_at bu ou cu bu ou cu g3 a3 192 Nu (ul.take Lp) zw
  rw [htl] at hsv hsl hS
  have hSV : ∀ W : World, Below w.heap.size w W → Calls Tryz.prog 274 #[.slice (some ⟨bu, ou, none⟩) Lp cu, .slice (some ⟨bu, ou, none⟩) Lp cu, .slice (some ⟨g3, a3, none⟩) Lp 192] W fun e w' => e = .returned (.int .u64 (((Pl.subV M (ul.take Lp) zw 0).2 : Nat) : Int)) ∧ WAt w' bu ou (Pl.subV M (ul.take Lp) zw 0).1 ∧ Wr w w' bu ou Lp := by
    intro W hb
    have h := hS W (by omega) (by omega) (ru.below hb) (by omega) ((h9.take Lp).below hb) (Or.inr (Or.inl (Nat.le_refl _))) (h8.below hb) (by omega)
    exact h.mono (fun e w' hh => ⟨hh.1, hh.2.1, (Wr.of_below hb bu ou Lp).trans hh.2.2 (Nat.le_refl _) (Nat.le_refl _) (Nat.le_refl _) (Nat.le_refl _)⟩)
  have hnq := fun (W : World) (ha : WAt W g1 a1 qw) => normW_any g1 a1 33 lq qw W h1 hlq (by omega) ha h4
  have hqd : (Pl.digs M (Pl.val M qw)).length ≤ lz := by
    rw [h12]; exact Pl.digs_len_le M_two hQ
  have hqd2 : (Pl.digs M (Pl.val M qw)).length ≤ lq := by
    have := Pl.digs_len_le M_two (Pl.val_lt M qw h4)
    rw [h1] at this; exact this
  have hq0 : Pl.val M qs = 0 := Pl.val_zeros M qs hqz
  obtain ⟨T, hT⟩ : ∃ l, (Pl.subV M (ul.take Lp) zw 0).1 = l := ⟨_, rfl⟩
  obtain ⟨c, hc⟩ : ∃ l, (Pl.subV M (ul.take Lp) zw 0).2 = l := ⟨_, rfl⟩
  rw [hT, hc] at hSV hval
  rw [hT] at hsl hst hsv
  rw [hc] at hsc hsv
  obtain ⟨D, hD⟩ : ∃ l, (Pl.subW M (ul.drop Lp) c).1 = l := ⟨_, rfl⟩
  obtain ⟨dc, hdc⟩ : ∃ l, (Pl.subW M (ul.drop Lp) c).2 = l := ⟨_, rfl⟩
  have hwv := Pl.subW_val M (by have := M_pos; omega) (ul.drop Lp) c hdt (by have := M_two; omega)
  have hwl := Pl.subW_len M (ul.drop Lp) c
  have hwt := Pl.subW_lt M M_pos (ul.drop Lp) c
  rw [hD, hdc, hdl] at hwv
  rw [hD, hdl] at hwl
  rw [hD] at hwt hval
  have HX := Lib.hid hX
  have HSV := Lib.hid hSV
  have hTx := Pl.val_lt M T hst
  rw [hsl] at hTx
  rw [h11] at hval
  -- the borrow over all
  have hdc0 : dc = 0 := by
    rcases Nat.eq_zero_or_pos dc with e | e
    · exact e
    · exfalso
      have k1 := Pl.val_lt M D hwt
      rw [hwl] at k1
      have k2 := Nat.mul_le_mul_left (M ^ (lu - Lp)) e
      rw [Nat.mul_one] at k2
      have k3 : M ^ Lp * (Pl.val M D + c) = M ^ Lp * (Pl.val M (ul.drop Lp) + M ^ (lu - Lp) * dc) := by rw [hwv]
      rw [Nat.mul_add, Nat.mul_add] at k3
      have k4 : M ^ Lp * (Pl.val M D + 1) ≤ M ^ Lp * M ^ (lu - Lp) := Nat.mul_le_mul_left _ k1
      have k5 : M ^ Lp * M ^ (lu - Lp) ≤ M ^ Lp * (M ^ (lu - Lp) * dc) := Nat.mul_le_mul_left _ k2
      rw [Nat.mul_add, Nat.mul_one] at k4
      omega
  have hc0 : c = 0 → Pl.val M (T ++ ul.drop Lp) = U % V := by
    intro e
    rw [Pl.val_append, hsl]
    rw [e, Nat.mul_zero, Nat.add_zero, Nat.add_zero] at hsv
    omega
  have hcp : 0 < c → Lp < lu := by
    intro e
    rcases Nat.lt_or_ge Lp lu with k | k
    · exact k
    · exfalso
      have k1 : ul.drop Lp = [] := List.drop_eq_nil_of_le (by omega)
      rw [k1] at hvv
      simp only [Pl.val, Nat.mul_zero, Nat.add_zero] at hvv
      have k2 := Nat.mul_le_mul_left (M ^ Lp) e
      omega
  have hfin : ∀ (w2 w3 wx : World) (us' qs' : List Nat) (S : Nat → Nat → Prop), Chg w w2 S → (∀ b off, S b off → b = bu ∧ ou ≤ off ∧ off < ou + lu) → WAt w2 bu ou us' → us'.length = lu → (∀ d ∈ us', d < M) → Pl.val M us' = U % V → qs'.length = lz → (∀ d ∈ qs', d < M) → Pl.val M qs' = Pl.val M qs + Pl.val M qw → WAt wx bq oq qs' → Wr w2 wx bq oq lz → EndSt w bq oq lz bu ou lu U V wx := by
    intro w2 _ wx us' qs' S k1 k2 k3 k4 k5 k6 k7 k8 k9 k10 k11
    refine ⟨us', qs', k4, k7, k5, k8, k6, by rw [k9, hq0, h12, Nat.zero_add], k11.at k3 (by omega), k10, ?_⟩
    exact k1.trans (Chg.of_wr k11 hlz.1) (fun b off k => Or.inl (k2 b off k)) (fun b off _ k => Or.inr k)
  have b1 : (Lp : Int) ≤ (cu : Int) := by omega
  have b2 : (Lp : Int) ≤ (lu : Int) := by omega
  have b3 : Lp ≤ lu := hLu
  have b4 : Lp ≤ cu := by omega
  have hqM : Pl.val M qs + Pl.val M (Pl.digs M (Pl.val M qw)) < M ^ lz := by rw [hq0, Pl.val_digs M _ M_two, h12, Nat.zero_add]; exact hQ
  have hqlt : ∀ d ∈ qs, d < M := fun d hd => by rw [hqz d hd]; exact M_pos
  have HADD := Lib.hid (fun (W W1 : World) (S : Nat → Nat → Prop) (k1 : Chg w W1 S) (k2 : ∀ b off, S b off → b = bu ∧ ou ≤ off ∧ off < ou + lu) (hb : W1 = W) => (by
    subst hb
    have hz1 : WAt W1 bq oq qs := k1.at aqs (fun j hj k => by have := k2 _ _ k; rw [hqs] at hj; omega)
    have hq1 : WAt W1 g1 a1 qw := k1.at h7 (fun j hj k => by have := k2 _ _ k; rw [h1] at hj; omega)
    refine (hnq W1 hq1).mono ?_
    rintro e w' ⟨rfl, _, k3, rfl⟩
    refine ⟨_, rfl, rfl, k3, ?_⟩
    have h := addTo_any bq oq Nq lz cz g1 a1 33 (Pl.digs M (Pl.val M qw)).length qs (Pl.digs M (Pl.val M qw)) W1 (k1.arr _ _ rq) (by omega) hqs hcz rfl (by omega) hqd (by omega) hz1 (by rw [← k3]; exact hq1.take _) hqlt (fun d hd => Pl.digs_lt M _ M_two d hd) (by omega) hqM
    rw [Pl.val_digs M _ M_two] at h
    exact h :
      Calls Tryz.prog 170 #[.slice (some ⟨g1, a1, none⟩) lq 33] W fun e w' => ∃ k, e = .returned (.slice (some ⟨g1, a1, none⟩) k 33) ∧ w' = W1 ∧ qw.take k = Pl.digs M (Pl.val M qw) ∧ Calls Tryz.prog 238 #[.slice (some ⟨bq, oq, none⟩) lz cz, .slice (some ⟨g1, a1, none⟩) k 33] W1 (AddToBack bq oq lz (Pl.val M qs + Pl.val M qw) W1)))
  have hTj : ∀ (w2 : World), WAt w2 bu ou T → Wr w w2 bu ou Lp → WAt w2 bu ou (T ++ ul.drop Lp) := fun w2 k1 k2 => WAt.join k1 hsl (k2.at (h9.drop Lp (by omega)) (by omega))
  have HSW := Lib.hid (fun (w2 : World) (k1 : Chg w w2 (fun b off => b = bu ∧ ou ≤ off ∧ off < ou + lu)) (k2 : WAt w2 bu (ou + Lp) (ul.drop Lp)) (e : 0 < c) => (by
    have h := subVW_any bu (ou + Lp) Nu (lu - Lp) c (cu - Lp) (cu - Lp) (ul.drop Lp) w2 (k1.arr _ _ ru) (by omega) hdl (by have := hcp e; omega) (by omega) k2 hdt
    rw [hD, hdc, hdc0] at h
    exact h : Calls Tryz.prog 281 #[.slice (some ⟨bu, ou + Lp, none⟩) (lu - Lp) (cu - Lp), .slice (some ⟨bu, ou + Lp, none⟩) (lu - Lp) (cu - Lp), .int .u64 (c : Int)] w2 fun e w' => e = .returned (.int .u64 ((0 : Nat) : Int)) ∧ WAt w' bu (ou + Lp) D ∧ Wr w2 w' bu (ou + Lp) (lu - Lp)))
  have HT := Lib.hid (And.intro hTj (And.intro hsl (And.intro hst (And.intro hwl (And.intro hwt (And.intro hval (And.intro hc0 (And.intro hcp (And.intro hdl (And.intro hdt (And.intro h3 h9)))))))))))
  have HFIN := Lib.hid hfin
  clear hK hX h1 h2 h3 h4 h5 h6 h7 h8 h9 h10 h11 h12 h13 h14 htl hdl htt hdt hvv hS hSV hnq hqd hqd2 hq0 hst hsl hT hsv hc hval hD hdc hwv hwl hwt hTx hdc0 hc0 hcp hfin hqM hqlt hTj hqs hqz aqs ru rq _r1 hQ
  go_wp2_with fail
  refine HX.out.mono ?_; rintro e w1 ⟨k, rfl, rfl, hY⟩
  have HY := Lib.hid hY
  clear hY
  go_wp2_with fail
  refine HY.out.mono ?_; rintro e w1 ⟨r, rfl, hr, kq, rfl⟩
  have hr0 : ¬ (0 : Int) < r := by omega
  clear hr
  go_wp2_with fail
  refine no_panicQ ?_
  go_region_with (first
    | (go_at_call 274; refine (HSV.out _ (by first | exact Below.refl _ _ | exact (Below.refl _ _).drew | exact below_drewN (Below.refl _ _) _)).mono ?_; rintro e w2 ⟨rfl, t2, k2⟩))
  have H2 : Hid (Chg w w2 (fun b off => b = bu ∧ ou ≤ off ∧ off < ou + lu) ∧ WAt w2 bu ou T ∧ WAt w2 bu ou (T ++ ul.drop Lp) ∧ WAt w2 bu (ou + Lp) (ul.drop Lp)) := by
    obtain ⟨hTj, hsl, hst, hwl, hwt, hval, hc0, hcp, hdl, hdt, h3, h9⟩ := HT.out
    exact Lib.hid ⟨Chg.of_wr ((Wr.refl w bu ou lu).trans k2 (Nat.le_refl _) (Nat.le_refl _) (Nat.le_refl _) (by omega)) hlu.1, t2, hTj w2 t2 k2, k2.at (h9.drop Lp (by omega)) (by omega)⟩
  clear t2 k2
  rcases Nat.eq_zero_or_pos c with e0 | e0
  · subst e0
    go_wp2_with fail
    refine (HADD.out _ w2 _ H2.out.1 (fun b off k => k) rfl).mono ?_; rintro e w5 ⟨k, rfl, rfl, k3, hA⟩
    have HA := Lib.hid hA
    clear hA k3
    go_wp2_with fail
    refine HA.out.mono ?_; rintro e w6 ⟨rfl, zs, z1, z2, z3, z4, z5⟩
    have H9 : Hid (EndSt w bq oq lz bu ou lu U V w6) := by
      obtain ⟨hTj, hsl, hst, hwl, hwt, hval, hc0, hcp, hdl, hdt, h3, h9⟩ := HT.out
      exact Lib.hid (HFIN.out w5 w5 w6 (T ++ ul.drop Lp) zs _ H2.out.1 (fun b off k => k) H2.out.2.2.1 (by rw [List.length_append, hsl, hdl]; omega) (fun d hd => by
        rcases List.mem_append.1 hd with hd | hd
        · exact hst d hd
        · exact hdt d hd) (hc0 (by first | rfl | trivial)) z1 z2 z3 z4 z5)
    clear z1 z2 z3 z4 z5
    go_wp2
    exact HK9.out _ H9.out
  · have e1 : (0 : Int) < (c : Int) := by omega
    have e2 : ¬ cu = Lp := by have := HT.out.2.2.2.2.2.2.2.1 e0; omega
    go_wp2_with fail
    refine no_panicQ ?_
    go_region_with (first
      | (go_at_call 281; refine (HSW.out _ (by first | exact H2.out.1 | exact H2.out.1.drewN 1) (by first | exact H2.out.2.2.2 | exact H2.out.2.2.2.drewN 1) e0).mono ?_; rintro e w3 ⟨rfl, t3, k3⟩))
    have H3 : Hid (Chg w w3 (fun b off => b = bu ∧ ou ≤ off ∧ off < ou + lu) ∧ WAt w3 bu ou (T ++ D)) := by
      obtain ⟨hTj, hsl, hst, hwl, hwt, hval, hc0, hcp, hdl, hdt, h3, h9⟩ := HT.out
      exact Lib.hid ⟨(H2.out.1.drewN 1).trans (Chg.of_wr k3 (by have := hcp e0; omega)) (fun b off k => k) (fun b off _ k => ⟨k.1, by omega, by omega⟩), WAt.join (k3.at (H2.out.2.1.drewN 1) (by omega)) hsl t3⟩
    clear t3 k3
    go_wp2_with fail
    refine (HADD.out _ w3 _ H3.out.1 (fun b off k => k) rfl).mono ?_; rintro e w5 ⟨k, rfl, rfl, k3, hA⟩
    have HA := Lib.hid hA
    clear hA k3
    go_wp2_with fail
    refine HA.out.mono ?_; rintro e w6 ⟨rfl, zs, z1, z2, z3, z4, z5⟩
    have H9 : Hid (EndSt w bq oq lz bu ou lu U V w6) := by
      obtain ⟨hTj, hsl, hst, hwl, hwt, hval, hc0, hcp, hdl, hdt, h3, h9⟩ := HT.out
      exact Lib.hid (HFIN.out w5 w5 w6 (T ++ D) zs _ H3.out.1 (fun b off k => k) H3.out.2 (by rw [List.length_append, hsl, hwl]; omega) (fun d hd => by
        rcases List.mem_append.1 hd with hd | hd
        · exact hst d hd
        · exact hwt d hd) hval z1 z2 z3 z4 z5)
    clear z1 z2 z3 z4 z5
    go_wp2
    exact HK9.out _ H9.out
end Go.Proofs.YtgfkdjmoflbmdaaGreatDoor
