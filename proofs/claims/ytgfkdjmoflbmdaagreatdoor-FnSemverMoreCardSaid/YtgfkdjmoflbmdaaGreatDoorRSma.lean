/- Contract: divRecursiveStep where the divisor has 64 words; divRecursive. -/
import Derived.Test.YtgfkdjmoflbmdaaGreatDoorRSl
namespace Go.Proofs.YtgfkdjmoflbmdaaGreatDoor
open Go.RowKit
open Go.Proofs
theorem normd_drop : ∀ (k : Nat) (l : List Nat), Pl.Normd l → Pl.Normd (l.drop k)
  | 0, _, h => h
  | _ + 1, [], h => h
  | k + 1, _ :: l, h => normd_drop k l (Pl.Normd_tail h)
theorem digs_drop (U k : Nat) : Pl.digs M (Pl.val M ((Pl.digs M U).drop k)) = (Pl.digs M U).drop k :=
  Pl.digs_val M M_two _ (fun d hd => Pl.digs_lt M U M_two d (List.mem_of_mem_drop hd)) (normd_drop k _ (Pl.digs_norm M U M_two))
set_option maxRecDepth 100000 in
theorem cmp_short (A B : Option Addr) (n m ca cb : Nat) (w : World) (h : n < m) : Calls Tryz.prog 143 #[.slice A n ca, .slice B m cb] w fun e w' => e = .returned (.int .i64 (-1)) ∧ ∃ q, w' = w.drewN q := by
  have h1 : ((n : Int) != (m : Int)) = true := by rw [bne_iff_ne]; omega
  have h2 : (n : Int) < (m : Int) := by omega
  go_enter Tryz.func143, Tryz.ntmps143
  go_wp2
  go_ret
  exact ⟨rfl, 0, rfl⟩
def FixSt (w7 : World) (g1 ns lq1 g3 n1 Lp Lz bu ou lun U V : Nat) (w : World) : Prop :=
  ∃ qw zw ul : List Nat, qw.length = lq1 ∧ zw.length = Lp ∧ ul.length = lun ∧ (∀ d ∈ qw, d < M) ∧ (∀ d ∈ zw, d < M) ∧ (∀ d ∈ ul, d < M) ∧ WAt w g1 ns qw ∧ WAt w g3 n1 zw ∧ WAt w bu ou ul ∧ Pl.val M zw ≤ Pl.val M ul ∧ Pl.val M ul - Pl.val M zw = U % V ∧ Pl.val M qw = U / V ∧
    (zw = Pl.digs M (Pl.val M zw) ∨ Lp < (Pl.digs M (Pl.val M ul)).length) ∧ Chg w7 w (FixCh g1 ns lq1 g3 n1 Lz bu ou lun)
theorem FixSt.drewN {w7 w : World} {g1 ns lq1 g3 n1 Lp Lz bu ou lun U V : Nat} (h : FixSt w7 g1 ns lq1 g3 n1 Lp Lz bu ou lun U V w) (k : Nat) : FixSt w7 g1 ns lq1 g3 n1 Lp Lz bu ou lun U V (w.drewN k) := by
  obtain ⟨qw, zw, ul, h1, h2, h3, h4, h5, h6, h7, h8, h9, h10, h11, h12, h13, h14⟩ := h
  exact ⟨qw, zw, ul, h1, h2, h3, h4, h5, h6, h7, h8, h9, h10, h11, h12, h13, h14.drewN k⟩
theorem FixSt.cmp {w7 w : World} {g1 ns lq1 g3 n1 Lp Lz bu ou lun U V cu : Nat} (h : FixSt w7 g1 ns lq1 g3 n1 Lp Lz bu ou lun U V w) (hcu : lun ≤ cu) (hl : lun ≤ 400) (hL : Lp ≤ 400) :
    Calls Tryz.prog 170 #[.slice (some ⟨bu, ou, none⟩) lun cu] w fun e w' => ∃ k, e = .returned (.slice (some ⟨bu, ou, none⟩) k cu) ∧ w = w' ∧ Calls Tryz.prog 143 #[.slice (some ⟨g3, n1, none⟩) Lp 192, .slice (some ⟨bu, ou, none⟩) k cu] w fun e w' => ∃ r : Int, e = .returned (.int .i64 r) ∧ r ≤ 0 ∧ ∃ q, w' = w.drewN q := by
  obtain ⟨qw, zw, ul, h1, h2, h3, h4, h5, h6, h7, h8, h9, h10, h11, h12, h13, h14⟩ := h
  refine (normW_any bu ou cu lun ul w h3 hcu (by omega) h9 h6).mono ?_
  rintro e w' ⟨rfl, k1, k2, rfl⟩
  refine ⟨_, rfl, rfl, ?_⟩
  rcases Nat.lt_or_ge Lp (Pl.digs M (Pl.val M ul)).length with hlt | hge
  · refine (cmp_short _ _ _ _ _ _ w hlt).mono ?_
    rintro e w' ⟨rfl, hq⟩
    exact ⟨-1, rfl, by omega, hq⟩
  · rcases h13 with h13 | h13
    · have hzl : (Pl.digs M (Pl.val M zw)).length = Lp := by rw [← h13, h2]
      have hc := natCmp_any (some ⟨g3, n1, none⟩) (some ⟨bu, ou, none⟩) 192 cu (Pl.val M zw) (Pl.val M ul) w (by rw [← h13]; exact rdW h8 rfl) (by rw [← k2]; exact rdW (h9.take _) rfl) (by omega) (by omega)
      rw [hzl] at hc
      refine hc.mono ?_
      rintro e w' ⟨rfl, hq⟩
      refine ⟨_, rfl, ?_, hq⟩
      rcases Pl.cmpN_cases (Pl.val M zw) (Pl.val M ul) with ⟨e, _⟩ | ⟨e, _⟩ | ⟨_, e⟩ <;> omega
    · omega
theorem stk_old {w : World} {A : Option Addr} {g1 g2 : Nat} {s : Nat} (h1 : A = some ⟨g1, 0, none⟩ ∨ w.heap.size ≤ g1) (hs : w.heap.size ≤ s) (h2 : some (⟨g1, 0, none⟩ : Addr) = some ⟨g2, 0, none⟩ ∨ s ≤ g2) : A = some ⟨g2, 0, none⟩ ∨ w.heap.size ≤ g2 := by
  rcases h2 with h | h
  · rw [← h]
    injection h with h; injection h with h
    rw [← h]; exact h1
  · exact Or.inr (by omega)
theorem away {w : World} {A : Option Addr} {b g o l ns N : Nat} (ha : Arr w b N) (hs : A = some ⟨b, 0, none⟩ → o + l ≤ ns) (hg : A = some ⟨g, 0, none⟩ ∨ w.heap.size ≤ g) : b ≠ g ∨ o + l ≤ ns := by
  rcases hg with h | h
  · by_cases e : b = g
    · subst e; exact Or.inr (hs h)
    · exact Or.inl e
  · left; have := ha.lt; omega
theorem DivVal.pre {w W w' : World} {p ns bq oq lq bu ou lu U V : Nat} {q : Option Nat} {A : Option Addr} {e : Ending} (hb : Below w.heap.size w W) (h : DivVal W p q A ns bq oq lq bu ou lu U V e w') : DivVal w p q A ns bq oq lq bu ou lu U V e w' := by
  obtain ⟨h1, us', qs', q', g, c', h2, h3, h4, h5, h6, h7, h8, h9, h10, h11, h12, h13⟩ := h
  have hs := hb.size
  exact ⟨h1, us', qs', q', g, c', h2, h3, h4, h5, h6, h7, h8, h9, h10, h11.imp id (fun h => by omega), h12.imp id (fun h => ⟨h.1, by omega⟩), (Chg.of_below hb (fun _ _ => False)).trans h13 (fun _ _ h => h.elim) (fun _ _ _ h => h)⟩
structure StepNums (U V ln U1 U0 V1 V0 qh P : Nat) : Prop where
  u : U = U1 * M ^ 31 + U0
  v : V = V1 * M ^ 31 + V0
  u0 : U0 < M ^ 31
  v0 : V0 < M ^ 31
  v1 : 0 < V1
  q : qh = U1 / V1
  p : P = V0 * qh
  q17 : qh < M ^ (ln - 63)
  pb : qh * V0 ≤ V1 * M ^ 31
  u1 : U1 < M ^ (ln - 31)
theorem step_nums {us vs : List Nat} {ln : Nat} (hvl : vs.length = 64) (hv : ∀ d ∈ vs, d < M) (hnorm : M ≤ 2 * vs.getD 63 0) (hln : (Pl.digs M (Pl.val M us)).length = ln) (hl : 64 ≤ ln ∧ ln ≤ 80) :
    StepNums (Pl.val M us) (Pl.val M vs) ln (Pl.val M ((Pl.digs M (Pl.val M us)).drop 31)) (Pl.val M ((Pl.digs M (Pl.val M us)).take 31)) (Pl.val M (vs.drop 31)) (Pl.val M (vs.take 31)) (Pl.val M ((Pl.digs M (Pl.val M us)).drop 31) / Pl.val M (vs.drop 31)) (Pl.val M (vs.take 31) * (Pl.val M ((Pl.digs M (Pl.val M us)).drop 31) / Pl.val M (vs.drop 31))) := by
  have hd := Pl.digs_lt M (Pl.val M us) M_two
  have k1 := Pl.val_take_drop M vs 31 (by omega)
  have k2 := Pl.val_take_drop M (Pl.digs M (Pl.val M us)) 31 (by omega)
  rw [Pl.val_digs M _ M_two] at k2
  have k3 := Pl.val_lt M ((Pl.digs M (Pl.val M us)).take 31) (fun d h => hd d (List.mem_of_mem_take h))
  rw [List.length_take, Nat.min_eq_left (by omega)] at k3
  have k4 := Pl.val_lt M (vs.take 31) (fun d h => hv d (List.mem_of_mem_take h))
  rw [List.length_take, Nat.min_eq_left (by omega)] at k4
  have k5 := Pl.val_lt M ((Pl.digs M (Pl.val M us)).drop 31) (fun d h => hd d (List.mem_of_mem_drop h))
  rw [List.length_drop, hln] at k5
  have k6 := val_ge_top M (vs.drop 31) 32 (by rw [List.length_drop]; omega)
  have e1 : (vs.drop 31).getD 32 0 = vs.getD 63 0 := by rw [List.getD_eq_getElem?_getD, List.getElem?_drop, ← List.getD_eq_getElem?_getD]
  rw [e1] at k6
  obtain ⟨U1, hU1⟩ : ∃ x, Pl.val M ((Pl.digs M (Pl.val M us)).drop 31) = x := ⟨_, rfl⟩
  obtain ⟨V1, hV1⟩ : ∃ x, Pl.val M (vs.drop 31) = x := ⟨_, rfl⟩
  obtain ⟨V0, hV0⟩ : ∃ x, Pl.val M (vs.take 31) = x := ⟨_, rfl⟩
  obtain ⟨U0, hU0⟩ : ∃ x, Pl.val M ((Pl.digs M (Pl.val M us)).take 31) = x := ⟨_, rfl⟩
  rw [hU1] at k2 k5 ⊢
  rw [hV1] at k1 k6 ⊢
  rw [hV0] at k1 k4 ⊢
  rw [hU0] at k2 k3 ⊢
  have hp32 : 0 < M ^ 32 := Nat.pow_pos M_pos
  have k7 : M ^ 33 ≤ 2 * V1 := by
    have := Nat.mul_le_mul_right (M ^ 32) hnorm
    rw [Nat.mul_assoc] at this
    rw [show (33 : Nat) = 32 + 1 from rfl, Nat.pow_succ, Nat.mul_comm]
    omega
  have hv1 : 0 < V1 := by have : 0 < M ^ 33 := Nat.pow_pos M_pos; omega
  have hq : U1 / V1 < M ^ (ln - 63) := by
    rw [Nat.div_lt_iff_lt_mul hv1]
    refine Nat.lt_of_lt_of_le k5 ?_
    have e : M ^ (ln - 31) = M ^ (ln - 64) * M ^ 33 := by rw [← Nat.pow_add]; congr 1; omega
    have e2 : M ^ (ln - 63) = M ^ (ln - 64) * M := by rw [← Nat.pow_succ]; congr 1; omega
    rw [e, e2, Nat.mul_assoc]
    refine Nat.mul_le_mul_left _ (Nat.le_trans k7 (Nat.mul_le_mul_right _ M_two))
  refine ⟨by rw [k2, Nat.mul_comm, Nat.add_comm], by rw [k1, Nat.mul_comm, Nat.add_comm], k3, k4, hv1, rfl, rfl, hq, ?_, k5⟩
  have h1 : U1 / V1 * V0 ≤ M ^ (ln - 63) * M ^ 31 := Nat.mul_le_mul (Nat.le_of_lt hq) (Nat.le_of_lt k4)
  have h2 : M ^ (ln - 63) ≤ V1 := by
    have h3 : M ^ (ln - 63) ≤ M ^ 32 := Nat.pow_le_pow_right M_pos (by omega)
    have h4 : M ^ 33 = M ^ 32 * M := Nat.pow_succ M 32
    have h5 : M ^ 32 * 2 ≤ M ^ 32 * M := Nat.mul_le_mul_left _ M_two
    omega
  exact Nat.le_trans h1 (Nat.mul_le_mul_right _ h2)
theorem wp_norm {P : Program} {c : Code} {Q : Exit → Act → World → Prop} {a : Act} {w : World} (h : c.wp P (Exit.then (Q .normal) Q) a w) : c.wp P Q a w := by
  have e : Exit.then (Q .normal) Q = Q := by funext e a w; cases e <;> rfl
  rwa [e] at h
def loopAt (k : Nat) : Code → Option Code
  | .loop c => match loopAt k c with
    | some d => some d
    | none => match condOf k c with
      | some _ => some (.loop c)
      | none => none
  | .cond _ a b => match loopAt k a with
    | some c => some c
    | none => loopAt k b
  | .seq a b => match loopAt k a with
    | some c => some c
    | none => loopAt k b
  | .block _ c => loopAt k c
  | .scope c => loopAt k c
  | _ => none
set_option maxRecDepth 100000 in
set_option maxHeartbeats 8000000 in
theorem stepLoop (bu ou lu cu Nu bv ov g1 a1 N1 lq g3 a3 N3 Lp Lz : Nat) (us vs qw zs : List Nat) (U V U1 U0 V1 V0 qh P : Nat) (w : World) (ds : List Deferred) {s0 s1 s4 s5 s6 s7 s8 s9 s10 s11 s12 s13 s14 s15 s16 s17 s18 s19 s20 s21 s22 s23 s28 s29 s30 s31 s32 s33 s34 s35 s36 s37 s38 s39 s40 s41 s42 s43 s44 s45 s46 s47 s48 s49 s50 s51 s52 s53 s54 s55 s56 s57 s58 s59 s60 s61 s62 s63 s64 s65 s66 s67 s68 s69 s70 s71 s72 s73 s74 s75 s76 s77 s78 s79 s80 s81 s82 s83 s84 s85 s86 s87 s88 s89 s90 s91 s92 s93 s94 s95 s96 s97 s98 s99 s100 s101 s102 s103 s104 s105 s106 s107 s108 s109 s110 s111 s112 s113 s114 s115 s116 s117 s118 s119 s120 s121 s122 s123 s124 s125 s126 s127 s128 s129 s130 s131 s132 s133 s134 s135 s136 s137 s138 s139 s140 s141 s142 s143 s144 s145 s146 s147 s148 s149 s150 s151 s152 s153 s154 s155 s156 s157 s158 s159 s160 s161 s162 s163 s164 s165 s166 s167 s168 s169 s170 s171 s172 s173 s174 s175 s176 s177 s178 s179 s180 s181 s182 s183 s184 s185 s186 s187 s188 s189 s190 s191 s192 s193 s194 s195 s196 s197 s198 s199 s200 s201 s202 s203 s204 s205 s206 s207 s208 s209 s210 s211 s212 s213 s214 s215 s216 s217 s218 s219 s220 s221 s222 s223 s224 s225 s226 s227 s228 s229 s230 s231 s232 s233 s234 s235 s236 s237 s238 s239 s240 s241 s242 s243 s244 s245 s246 s247 s248 s249 s250 s251 s252 s253 s254 s255 s256 s257 s258 s259 s260 s261 s262 s263 s264 s265 s266 s267 s268 s269 s270 s271 s272 s273 s274 s275 s276 s277 s278 s279 s280 s281 s282 s283 s284 s285 s286 s287 s288 s289 s290 s291 s292 s293 s294 s295 s296 : Value} {Q : Exit → Act → World → Prop}
    (hN : StepNums U V lu U1 U0 V1 V0 qh P)
    (hul : us.length = lu) (hvl : vs.length = 64) (hql : qw.length = lq) (hzl : zs.length = Lz) (hu : ∀ d ∈ us, d < M) (hv : ∀ d ∈ vs, d < M) (hq : ∀ d ∈ qw, d < M) (hz : ∀ d ∈ zs, d < M) (hlq : lq ≤ 33) (hLp : Lp ≤ Lz) (hLz : 31 ≤ Lz ∧ Lz ≤ 192) (hlu : 64 ≤ lu ∧ lu ≤ 80) (hcu : lu ≤ cu) (hv63 : 0 < vs.getD 63 0)
    (e1 : Pl.val M (us.take 31) = U0) (e2 : Pl.val M (us.drop 31) = U1 % V1) (e3 : Pl.val M (vs.take 31) = V0) (e4 : Pl.val M (vs.drop 31) = V1) (e5 : Pl.val M qw = qh) (e6 : Pl.val M zs = P) (e7 : zs.take Lp = Pl.digs M P)
    (au : WAt w bu ou us) (av : WAt w bv ov vs) (aq : WAt w g1 a1 qw) (az : WAt w g3 a3 zs) (ru : Arr w bu Nu) (r1 : Arr w g1 N1) (r3 : Arr w g3 N3) (fu : ou + lu ≤ Nu) (f1 : a1 + lq ≤ N1) (f3 : a3 + Lz ≤ N3)
    (p1v : g1 ≠ bv ∨ a1 + lq ≤ ov ∨ ov + 64 ≤ a1) (p3v : g3 ≠ bv ∨ a3 + Lz ≤ ov ∨ ov + 64 ≤ a3) (puv : bu ≠ bv ∨ ou + lu ≤ ov ∨ ov + 64 ≤ ou) (p13 : g1 ≠ g3 ∨ a1 + lq ≤ a3 ∨ a3 + Lz ≤ a1) (p1u : g1 ≠ bu ∨ a1 + lq ≤ ou ∨ ou + lu ≤ a1) (p3u : g3 ≠ bu ∨ a3 + Lz ≤ ou ∨ ou + lu ≤ a3)
    (hK : ∀ (wx : World) {v27 v28 v29 v220 v221 v222 v223 v224 v225 v226 v227 v228 v229 v230 v231 v232 v233 v234 v235 v236 v237 v238 v239 v240 v241 v242 v243 v244 v245 v246 v247 v248 v249 v250 v251 v252 v253 v254 v255 v256 v257 v258 v259 v260 v261 : Value}, FixSt w g1 a1 lq g3 a3 Lp Lz bu ou lu U V wx → Q (.exit 4) ⟨#[s0, s1, .slice (some ⟨bu, ou, none⟩) lu cu, .slice (some ⟨bv, ov, none⟩) 64 64, s4, s5, s6, s7, s8, s9, s10, s11, s12, s13, s14, s15, s16, s17, s18, s19, s20, s21, s22, s23, .int .i64 31, .slice (some ⟨g1, a1, none⟩) lq 33, .slice (some ⟨g3, a3, none⟩) Lp 192, v27, v28, v29, s30, s31, s32, s33, s34, s35, s36, s37, s38, s39, s40, s41, s42, s43, s44, s45, s46, s47, s48, s49, s50, s51, s52, s53, s54, s55, s56, s57, s58, s59, s60, s61, s62, s63, s64, s65, s66, s67, s68, s69, s70, s71, s72, s73, s74, s75, s76, s77, s78, s79, s80, s81, s82, s83, s84, s85, s86, s87, s88, s89, s90, s91, s92, s93, s94, s95, s96, s97, s98, s99, s100, s101, s102, s103, s104, s105, s106, s107, s108, s109, s110, s111, s112, s113, s114, s115, s116, s117, s118, s119, s120, s121, s122, s123, s124, s125, s126, s127, s128, s129, s130, s131, s132, s133, s134, s135, s136, s137, s138, s139, s140, s141, s142, s143, s144, s145, s146, s147, s148, s149, s150, s151, s152, s153, s154, s155, s156, s157, s158, s159, s160, s161, s162, s163, s164, s165, s166, s167, s168, s169, s170, s171, s172, s173, s174, s175, s176, s177, s178, s179, s180, s181, s182, s183, s184, s185, s186, s187, s188, s189, s190, s191, s192, s193, s194, s195, s196, s197, s198, s199, s200, s201, s202, s203, s204, s205, s206, s207, s208, s209, s210, s211, s212, s213, s214, s215, s216, s217, s218, s219, v220, v221, v222, v223, v224, v225, v226, v227, v228, v229, v230, v231, v232, v233, v234, v235, v236, v237, v238, v239, v240, v241, v242, v243, v244, v245, v246, v247, v248, v249, v250, v251, v252, v253, v254, v255, v256, v257, v258, v259, v260, v261, s262, s263, s264, s265, s266, s267, s268, s269, s270, s271, s272, s273, s274, s275, s276, s277, s278, s279, s280, s281, s282, s283, s284, s285, s286, s287, s288, s289, s290, s291, s292, s293, s294, s295, s296], ds⟩ wx) :
    Code.wp Tryz.prog ((Tryz.f275.body.bind (loopAt 221)).getD .skip) Q ⟨#[s0, s1, .slice (some ⟨bu, ou, none⟩) lu cu, .slice (some ⟨bv, ov, none⟩) 64 64, s4, s5, s6, s7, s8, s9, s10, s11, s12, s13, s14, s15, s16, s17, s18, s19, s20, s21, s22, s23, .int .i64 31, .slice (some ⟨g1, a1, none⟩) lq 33, .slice (some ⟨g3, a3, none⟩) Lp 192, .int .i64 0, s28, s29, s30, s31, s32, s33, s34, s35, s36, s37, s38, s39, s40, s41, s42, s43, s44, s45, s46, s47, s48, s49, s50, s51, s52, s53, s54, s55, s56, s57, s58, s59, s60, s61, s62, s63, s64, s65, s66, s67, s68, s69, s70, s71, s72, s73, s74, s75, s76, s77, s78, s79, s80, s81, s82, s83, s84, s85, s86, s87, s88, s89, s90, s91, s92, s93, s94, s95, s96, s97, s98, s99, s100, s101, s102, s103, s104, s105, s106, s107, s108, s109, s110, s111, s112, s113, s114, s115, s116, s117, s118, s119, s120, s121, s122, s123, s124, s125, s126, s127, s128, s129, s130, s131, s132, s133, s134, s135, s136, s137, s138, s139, s140, s141, s142, s143, s144, s145, s146, s147, s148, s149, s150, s151, s152, s153, s154, s155, s156, s157, s158, s159, s160, s161, s162, s163, s164, s165, s166, s167, s168, s169, s170, s171, s172, s173, s174, s175, s176, s177, s178, s179, s180, s181, s182, s183, s184, s185, s186, s187, s188, s189, s190, s191, s192, s193, s194, s195, s196, s197, s198, s199, s200, s201, s202, s203, s204, s205, s206, s207, s208, s209, s210, s211, s212, s213, s214, s215, s216, s217, s218, s219, s220, s221, s222, s223, s224, s225, s226, s227, s228, s229, s230, s231, s232, s233, s234, s235, s236, s237, s238, s239, s240, s241, s242, s243, s244, s245, s246, s247, s248, s249, s250, s251, s252, s253, s254, s255, s256, s257, s258, s259, s260, s261, s262, s263, s264, s265, s266, s267, s268, s269, s270, s271, s272, s273, s274, s275, s276, s277, s278, s279, s280, s281, s282, s283, s284, s285, s286, s287, s288, s289, s290, s291, s292, s293, s294, s295, s296], ds⟩ w := by
  conv => arg 2; whnf
  dsimp only
  have HK9 := Lib.hid hK
  have hzz : Pl.val M (zs.drop Lp) = 0 := by
    have k := Pl.val_take_drop M zs Lp (by omega)
    rw [e7, Pl.val_digs M _ M_two, e6] at k
    have k0 : 0 < M ^ Lp := Nat.pow_pos M_pos
    rcases Nat.eq_zero_or_pos (Pl.val M (zs.drop Lp)) with e | e
    · exact e
    · have := Nat.mul_le_mul k0 e; omega
  have hR : Pl.val M us = U1 % V1 * M ^ 31 + U0 := by
    have := Pl.val_take_drop M us 31 (by omega)
    rw [e1, e2] at this
    rw [this, Nat.mul_comm, Nat.add_comm]
  have hLd : (Pl.digs M P).length = Lp := by rw [← e7, List.length_take]; omega
  have hnu := normW_any bu ou cu lu us w hul hcu (by omega) au hu
  have hul2 := Pl.digs_len_le M_two (Pl.val_lt M us hu)
  rw [hul] at hul2
  have hcm : us.take (Pl.digs M (Pl.val M us)).length = Pl.digs M (Pl.val M us) → Calls Tryz.prog 143 #[.slice (some ⟨g3, a3, none⟩) Lp 192, .slice (some ⟨bu, ou, none⟩) (Pl.digs M (Pl.val M us)).length cu] w fun e w' => e = .returned (.int .i64 (Pl.cmpN P (Pl.val M us))) ∧ ∃ q, w' = w.drewN q := by
    intro k2
    have hc := natCmp_any (some ⟨g3, a3, none⟩) (some ⟨bu, ou, none⟩) 192 cu P (Pl.val M us) w (by rw [← e7]; exact rdW (az.take _) rfl) (by rw [← k2]; exact rdW (au.take _) rfl) (by omega) (by omega)
    rw [hLd] at hc
    exact hc
  have HNU := Lib.hid hnu
  have HC := Lib.hid hcm
  have HP := Lib.hid (And.intro hN (And.intro hul (And.intro hvl (And.intro hql (And.intro hzl (And.intro hu (And.intro hv (And.intro hq (And.intro hz (And.intro e1 (And.intro e2 (And.intro e3 (And.intro e4 (And.intro e5 (And.intro e6 (And.intro e7 (And.intro hzz hR)))))))))))))))))
  have HW := Lib.hid (And.intro au (And.intro av (And.intro aq (And.intro az (And.intro ru (And.intro r1 r3))))))
  clear hK hnu hcm hN hul hvl hql hzl hu hv hq hz e1 e2 e3 e4 e5 e6 e7 hzz hR au av aq az ru r1 r3
  go_loopw [27] (fun iv wx => (iv = .int .i64 0 ∧ w = wx) ∨ (iv = .int .i64 1 ∧ FixSt w g1 a1 lq g3 a3 Lp Lz bu ou lu U V wx) ∨ (iv = .int .i64 2 ∧ FixSt w g1 a1 lq g3 a3 Lp Lz bu ou lu U V wx)) (fun iv _ => 2 - (intOf iv).toNat)
  case atStart => exact Or.inl ⟨rfl, rfl⟩
  case round =>
    rcases hrel with ⟨rfl, rfl⟩ | ⟨rfl, hF⟩ | ⟨rfl, hF⟩
    · rcases Nat.lt_or_ge (Pl.val M us) P with hlt | hge
      · have e : Pl.cmpN P (Pl.val M us) = 1 := by
          rcases Pl.cmpN_cases P (Pl.val M us) with ⟨e, _⟩ | ⟨e, _⟩ | ⟨e, _⟩ <;> omega
        have E1 := Lib.hid e
        clear e
        go_wp2_with fail
        refine HNU.out.mono ?_; rintro e w1 ⟨rfl, _, k2, rfl⟩
        have hc := HC.out k2
        rw [E1.out] at hc
        have HC2 := Lib.hid hc
        clear hc k2
        go_wp2_with fail
        refine HC2.out.mono ?_; rintro e w1 ⟨rfl, kq, rfl⟩
        go_upto_if 229 with fail
        refine wp_code (c' := (Tryz.f275.body.bind (condOf 229)).getD .skip) (by kernel_rfl) ?_
        obtain ⟨hN, hul, hvl, hql, hzl, hu, hv, hq, hz, e1, e2, e3, e4, e5, e6, e7, hzz, hR⟩ := HP.out
        obtain ⟨au, av, aq, az, ru, r1, r3⟩ := HW.out
        have hch : Chg w (w.drewN kq) (fun _ _ => False) := (Chg.refl _ _).drewN kq
        have k1 := hN.pb
        rw [hN.q] at k1
        have hP' : U1 % V1 * M ^ 31 + U0 < U1 / V1 * V0 := by
          rw [← hR, ← hN.q, Nat.mul_comm, ← hN.p]; exact hlt
        obtain ⟨x1, x2, x3, x4, x5⟩ := Pl.wide_less hN.v1 k1 hP'
        rw [← hN.q] at x1 x2 x3 x4
        rw [← hN.u, ← hN.v] at x3 x4
        have hP0 : V0 ≤ P := by
          rw [hN.p]; exact Nat.le_mul_of_pos_right _ x1
        have hlq0 : 0 < lq := by
          rcases Nat.eq_zero_or_pos lq with e | e
          · rw [e] at hql
            rw [List.eq_nil_of_length_eq_zero hql] at e5
            exact absurd e5 (by simp [Pl.val]; omega)
          · exact e
        refine wp_norm ?_
        refine stepFix bu ou lu cu Nu bv ov g1 a1 N1 lq g3 a3 N3 Lp Lz us vs qw zs (w.drewN kq) ds hul hvl hql hzl hu hv hq hz ⟨hlq0, hlq⟩ hLp hLz ⟨hlu.1, by omega⟩ hcu hzz (hch.at au (fun _ _ k => k)) (hch.at av (fun _ _ k => k)) (hch.at aq (fun _ _ k => k)) (hch.at az (fun _ _ k => k)) (hch.arr _ _ ru) (hch.arr _ _ r1) (hch.arr _ _ r3) fu f1 f3 p1v p3v puv p13 p1u p3u (by rw [e5]; exact x1) (by rw [e3, e6]; exact hP0) (by
          rw [e2, e4]
          exact Nat.lt_of_le_of_lt x5 hN.u1) ?_
        have hfin : ∀ (qw' zw' us' : List Nat) (wx : World), qw'.length = lq → zw'.length = Lp → us'.length = lu → (∀ d ∈ qw', d < M) → (∀ d ∈ zw', d < M) → (∀ d ∈ us', d < M) → Pl.val M qw' = Pl.val M qw - 1 → Pl.val M zw' = Pl.val M zs - Pl.val M (vs.take 31) → Pl.val M us' = Pl.val M us + M ^ 31 * Pl.val M (vs.drop 31) →
            WAt wx g1 a1 qw' → WAt wx g3 a3 zw' → WAt wx bu ou us' → Chg (w.drewN kq) wx (FixCh g1 a1 lq g3 a3 Lz bu ou lu) → FixSt w g1 a1 lq g3 a3 Lp Lz bu ou lu U V wx := by
          intro qw' zw' us' wx f1 f2 f3 f4 f5 f6 f7 f8 f9 f10 f11 f12 f13
          have hzw : Pl.val M zw' = (qh - 1) * V0 := by
            rw [f8, e6, e3, hN.p, Nat.sub_mul, Nat.one_mul, Nat.mul_comm]
          have huw : Pl.val M us' = (U1 % V1 + V1) * M ^ 31 + U0 := by
            rw [f9, hR, e4, Nat.add_mul, Nat.mul_comm (M ^ 31)]; omega
          refine ⟨qw', zw', us', f1, f2, f3, f4, f5, f6, f10, f11, f12, by rw [hzw, huw]; exact x2, by rw [hzw, huw, x4], by rw [f7, e5, x3], ?_, hch.trans f13 (fun _ _ k => k.elim) (fun _ _ _ k => k)⟩
          right
          have k7 : M ^ 63 ≤ Pl.val M us' := by
            rw [huw]
            have k3 : M ^ 32 ≤ V1 := by
              rw [← e4]
              have k4 := val_ge_top M (vs.drop 31) 32 (by rw [List.length_drop]; omega)
              have k5 : (vs.drop 31).getD 32 0 = vs.getD 63 0 := by rw [List.getD_eq_getElem?_getD, List.getElem?_drop, ← List.getD_eq_getElem?_getD]
              rw [k5] at k4
              exact Nat.le_trans (Nat.le_mul_of_pos_left _ hv63) k4
            rw [show (63 : Nat) = 32 + 31 from rfl, Nat.pow_add]
            exact Nat.le_trans (Nat.mul_le_mul_right _ (Nat.le_trans k3 (Nat.le_add_left _ _))) (Nat.le_add_right _ _)
          have k8 := digs_ge k7
          have k9 : P < M ^ 48 := by
            rw [hN.p]
            have := hN.v0
            have k10 : qh < M ^ 17 := Nat.lt_of_lt_of_le hN.q17 (Nat.pow_le_pow_right M_pos (by omega))
            have k11 : V0 * qh < M ^ 31 * M ^ 17 := Nat.mul_lt_mul'' this k10
            rw [← Nat.pow_add] at k11
            exact k11
          have k12 := Pl.digs_len_le M_two k9
          omega
        have HF := Lib.hid hfin
        clear hfin hN hul hvl hql hzl hu hv hq hz e1 e2 e3 e4 e5 e6 e7 hzz hR au av aq az ru r1 r3 hch k1 hP' x1 x2 x3 x4 x5 hP0 hlq0
        intro qw' zw' us' wx
        intros
        rename_i f1 f2 f3 f4 f5 f6 f7 f8 f9 f10 f11 f12 f13
        have H9 := Lib.hid (HF.out qw' zw' us' wx f1 f2 f3 f4 f5 f6 f7 f8 f9 f10 f11 f12 f13)
        clear f1 f2 f3 f4 f5 f6 f7 f8 f9 f10 f11 f12 f13
        go_wp2
        go_roundw
        case rel => exact Or.inr (Or.inl ⟨by go_num, H9.out⟩)
        case measure => simp [intOf]
      · obtain ⟨r, hr⟩ : ∃ r, Pl.cmpN P (Pl.val M us) = r := ⟨_, rfl⟩
        have hr0 : ¬ (0 : Int) < r := by
          rcases Pl.cmpN_cases P (Pl.val M us) with ⟨e, _⟩ | ⟨e, _⟩ | ⟨_, e⟩ <;> omega
        have E1 := Lib.hid hr
        clear hr
        go_wp2_with fail
        refine HNU.out.mono ?_; rintro e w1 ⟨rfl, _, k2, rfl⟩
        have hc := HC.out k2
        rw [E1.out] at hc
        have HC2 := Lib.hid hc
        clear hc k2
        go_wp2_with fail
        refine HC2.out.mono ?_; rintro e w1 ⟨rfl, kq, rfl⟩
        have H9 : Hid (FixSt w g1 a1 lq g3 a3 Lp Lz bu ou lu U V (w.drewN kq)) := by
          obtain ⟨hN, hul, hvl, hql, hzl, hu, hv, hq, hz, e1, e2, e3, e4, e5, e6, e7, hzz, hR⟩ := HP.out
          obtain ⟨au, av, aq, az, ru, r1, r3⟩ := HW.out
          have hP' : U1 / V1 * V0 ≤ U1 % V1 * M ^ 31 + U0 := by
            rw [← hR, ← hN.q, Nat.mul_comm, ← hN.p]; exact hge
          obtain ⟨x1, x2⟩ := Pl.wide_fit hN.v1 hN.u0 hP'
          rw [← hN.q, ← hN.u, ← hN.v] at x1 x2
          have hvz : Pl.val M (zs.take Lp) = P := by rw [e7, Pl.val_digs M _ M_two]
          have hzv' : Pl.val M (zs.take Lp) = qh * V0 := by rw [hvz, hN.p, Nat.mul_comm]
          refine Lib.hid (FixSt.drewN ⟨qw, zs.take Lp, us, hql, by rw [List.length_take]; omega, hul, hq, fun d hd => hz d (List.mem_of_mem_take hd), hu, aq, az.take _, au, by rw [hvz]; exact hge, by rw [hzv', hR, x2], by rw [e5, x1], Or.inl (by rw [hvz, e7]), Chg.refl _ _⟩ kq)
        go_wp2
        go_roundw
        case rel => exact Or.inr (Or.inl ⟨by go_num, H9.out⟩)
        case measure => simp [intOf]
    · have HX := Lib.hid (hF.cmp hcu (by omega) (by omega))
      have HF := Lib.hid hF
      clear hF
      go_wp2_with fail
      refine HX.out.mono ?_; rintro e w1 ⟨k, rfl, rfl, hY⟩
      have HY := Lib.hid hY
      clear hY
      go_wp2_with fail
      refine HY.out.mono ?_; rintro e w1 ⟨r, rfl, hr, kq, rfl⟩
      have hr0 : ¬ (0 : Int) < r := by omega
      clear hr
      go_wp2
      go_roundw
      case rel => exact Or.inr (Or.inr ⟨by go_num, HF.out.drewN kq⟩)
      case measure => simp [intOf]
    · have HF := Lib.hid hF
      clear hF
      go_wp2
      exact HK9.out _ HF.out
end Go.Proofs.YtgfkdjmoflbmdaaGreatDoor
