/- divRecursiveStep from the last guess on. (printed by gensmc.py) -/
import Derived.Test.YtgfkdjmoflbmdaaGreatDoorRSmb
namespace Go.Proofs.YtgfkdjmoflbmdaaGreatDoor
open Go.RowKit
open Go.Proofs
theorem keepD {w3 w4 : World} {p t bq oq lq bu ou lu b o n : Nat} {q : Option Nat} {A : Option Addr} {xs : List Nat} (h : Chg w3 w4 (DivCh p q A t bq oq lq bu ou lu)) (h1 : ¬ b = p) (h2 : ¬ q = some b) (h3 : A = some ⟨b, 0, none⟩ → o + n ≤ t) (h4 : b ≠ bu ∨ o + n ≤ ou ∨ ou + lu ≤ o) (h5 : b ≠ bq ∨ o + n ≤ oq ∨ oq + lq ≤ o) (hx : WAt w3 b o xs) (hl : xs.length = n) : WAt w4 b o xs :=
  h.at hx (fun j hj k => by
    rw [hl] at hj
    rcases k with k | k | k | k | k
    · exact h1 k
    · exact h2 k
    · have := h3 k.1; omega
    · omega
    · omega)
theorem keep6 {w4 w6 : World} {p q2 g2 g3 t b o n : Nat} {xs : List Nat} (h : Chg w4 w6 (fun b off => b = p ∨ q2 = b ∨ (b = g2 ∧ t ≤ off) ∨ (b = g3 ∧ t ≤ off))) (h1 : ¬ b = p) (h2 : ¬ q2 = b) (h3 : b ≠ g2 ∨ o + n ≤ t) (h4 : b ≠ g3 ∨ o + n ≤ t) (hx : WAt w4 b o xs) (hl : xs.length = n) : WAt w6 b o xs :=
  h.at hx (fun j hj k => by
    rw [hl] at hj
    rcases k with k | k | k | k
    · exact h1 k
    · exact h2 k
    · omega
    · omega)
theorem Y {a g x ns : Nat} (h : a ≠ g ∨ x ≤ ns) : a ≠ g ∨ x ≤ ns + 36 := by omega
theorem Y' {a g o ln lu ns : Nat} (hl : ln ≤ lu) (h : a ≠ g ∨ o + lu ≤ ns) : a ≠ g ∨ o + ln ≤ ns + 36 := by omega
theorem xx_of {bu bv bq ou ov oq lu lq ln g1 ns : Nat} (hlen : ln ≤ lu) (hul : 64 ≤ ln) (h1 : bu ≠ bv ∨ ou + lu ≤ ov ∨ ov + 64 ≤ ou) (h2 : bq ≠ bu ∨ oq + lq ≤ ou ∨ ou + lu ≤ oq) (h3 : bv ≠ g1 ∨ ov + 64 ≤ ns) (h4 : bq ≠ g1 ∨ oq + lq ≤ ns) (h5 : bu ≠ g1 ∨ ou + lu ≤ ns) :
    (bv ≠ bu ∨ ov + 64 ≤ ou + 31 ∨ ou + 31 + (ln - 31) ≤ ov) ∧ (bv ≠ g1 ∨ ov + 64 ≤ ns ∨ ns + 33 ≤ ov) ∧ (bq ≠ bu ∨ oq + lq ≤ ou + 31 ∨ ou + 31 + (ln - 31) ≤ oq) ∧ (bq ≠ g1 ∨ oq + lq ≤ ns ∨ ns + 33 ≤ oq) ∧ (bu ≠ g1 ∨ ou + 31 ≤ ns ∨ ns + 33 ≤ ou) := by
  refine ⟨?_, ?_, ?_, ?_, ?_⟩ <;> omega
def MidSt (w : World) (p : Nat) (q : Option Nat) (A : Option Addr) (ns bq oq lq bu ou lu U V : Nat) (wx : World) : Prop :=
  ∃ (us' qs' : List Nat) (q' g c' n' : Nat), us'.length = lu ∧ qs'.length = lq ∧ (∀ d ∈ us', d < M) ∧ (∀ d ∈ qs', d < M) ∧ Pl.val M us' = U % V ∧ Pl.val M qs' = U / V ∧ WAt wx bu ou us' ∧ WAt wx bq oq qs' ∧ StkAt wx p (some q') (some ⟨g, 0, none⟩) n' c' ∧ ns ≤ n' ∧ n' ≤ c' ∧
    (A = some ⟨g, 0, none⟩ ∨ w.heap.size ≤ g) ∧ (q = some q' ∨ (q = none ∧ w.heap.size ≤ q')) ∧ Chg w wx (DivCh p q A ns bq oq lq bu ou lu)
set_option maxRecDepth 100000 in
set_option maxHeartbeats 16000000 in
theorem stepMid (p : Nat) (q : Option Nat) (A : Option Addr) (ns c bq oq Nq cq bu ou Nu cu bv ov lu lq ln U V : Nat) (qs us vs : List Nat) (w w2 : World) (g1 c1 q1 : Nat) (ds : List Deferred) {s5 s6 s7 s8 s9 s11 s14 s15 s16 s17 s18 s19 s20 s21 s22 s23 s24 s25 s26 s27 s28 s29 s30 s31 s32 s33 s34 s35 s36 s37 s38 s39 s40 s41 s42 s43 s44 s45 s46 s47 s48 s49 s50 s51 s52 s53 s54 s55 s56 s57 s58 s59 s60 s61 s62 s63 s64 s65 s66 s67 s68 s69 s70 s71 s72 s73 s74 s75 s76 s77 s78 s79 s80 s81 s82 s83 s84 s85 s86 s87 s88 s89 s90 s91 s92 s93 s94 s95 s96 s97 s98 s99 s100 s101 s102 s103 s104 s105 s106 s107 s108 s109 s110 s111 s112 s113 s114 s115 s116 s117 s118 s119 s120 s121 s122 s123 s124 s125 s126 s127 s128 s129 s130 s131 s132 s133 s134 s135 s136 s137 s138 s139 s140 s141 s142 s143 s144 s145 s146 s147 s148 s149 s150 s151 s152 s153 s154 s155 s156 s157 s158 s159 s160 s161 s162 s163 s164 s165 s166 s167 s168 s169 s170 s171 s172 s173 s174 s175 s176 s177 s178 s179 s180 s181 s182 s183 s184 s185 s186 s187 s188 s189 s190 s191 s192 s193 s194 s195 s196 s197 s198 s199 s200 s201 s202 s203 s204 s205 s206 s207 s208 s209 s210 s211 s212 s213 s214 s215 s216 s217 s218 s219 s220 s221 s222 s223 s224 s225 s226 s227 s228 s229 s230 s231 s232 s233 s234 s235 s236 s237 s238 s239 s240 s241 s242 s243 s244 s245 s246 s247 s248 s249 s250 s251 s252 s253 s254 s255 s256 s257 s258 s259 s260 s261 s262 s263 s264 s265 s266 s267 s268 s269 s270 s271 s272 s273 s274 s275 s276 s277 s278 s279 s280 s281 s282 s283 s284 s285 s286 s287 s288 s289 s290 s291 s292 s293 s294 s295 s296 : Value} {Q : Exit → Act → World → Prop}
    (HS : Hid (StkAt w p q A ns c)) (HV : Hid (BigVars w ∧ StkHi p q A)) (HIN : Hid (DivIn w A ns bq oq Nq bu ou Nu bv ov qs us vs)) (_hbq : 16 < bq) (hbu : 16 < bu)
    (HP : Hid (Pl.val M us = U ∧ Pl.val M vs = V ∧ (Pl.digs M (Pl.val M us)).length = ln ∧ ln ≤ lu ∧ 0 < V ∧ Pl.val M vs ≤ Pl.val M us ∧ Pl.val M us / Pl.val M vs < M ^ lq ∧ (∀ d ∈ qs, d = 0) ∧ M ≤ 2 * vs.getD 63 0 ∧ us.length = lu ∧ vs.length = 64 ∧ qs.length = lq))
    (HTD : Hid (us.take ln = Pl.digs M (Pl.val M us))) (hcu : lu ≤ cu) (hcq : lq ≤ cq) (hk : lu ≤ 80) (hlq : lq ≤ 100) (hns : ns ≤ 1000) (hul : 64 ≤ ln) (hlen : ln ≤ lu) (_v15 : w.cell? ⟨15, 0, none⟩ = some (.int .i64 40))
    (l3 : IntKind.i64.wrap ((ln : Int) - 64) = (ln : Int) - 64)
    (H2 : Hid (Arr w2 g1 c1 ∧ ns + 33 ≤ c1 ∧ StkAt w2 p (some q1) (some ⟨g1, 0, none⟩) (ns + 36) c1 ∧ (A = some ⟨g1, 0, none⟩ ∨ w.heap.size ≤ g1) ∧ (q = some q1 ∨ (q = none ∧ w.heap.size ≤ q1)) ∧ Chg w w2 (fun b off => b = p ∨ q = some b ∨ (A = some ⟨b, 0, none⟩ ∧ off = ns))))
    (hK : ∀ (wx : World) {v24 v25 v26 v27 v28 v29 v30 v190 v191 v192 v193 v194 v195 v196 v197 v198 v199 v200 v201 v202 v203 v204 v205 v206 v207 v208 v209 v210 v211 v212 v213 v214 v215 v216 v217 v218 v219 v220 v221 v222 v223 v224 v225 v226 v227 v228 v229 v230 v231 v232 v233 v234 v235 v236 v237 v238 v239 v240 v241 v242 v243 v244 v245 v246 v247 v248 v249 v250 v251 v252 v253 v254 v255 v256 v257 v258 v259 v260 v261 v262 v263 v264 v265 v266 v267 v268 v269 v270 v271 v272 v273 v274 v275 v276 v277 v278 v279 v280 v281 v282 v283 v284 v285 v286 v287 v288 v289 v290 v291 v292 v293 v294 v295 v296 : Value}, MidSt w p q A ns bq oq lq bu ou lu U V wx → Q .normal ⟨#[.slice (some ⟨bq, oq, none⟩) lq cq, .pointer (some ⟨p, 0, none⟩), .slice (some ⟨bu, ou, none⟩) ln cu, .slice (some ⟨bv, ov, none⟩) 64 64, .int .i64 0, s5, s6, s7, s8, s9, .int .i64 64, s11, .int .i64 32, .slice (some ⟨g1, ns, none⟩) 33 33, s14, s15, s16, s17, s18, s19, s20, s21, s22, s23, v24, v25, v26, v27, v28, v29, v30, s31, s32, s33, s34, s35, s36, s37, s38, s39, s40, s41, s42, s43, s44, s45, s46, s47, s48, s49, s50, s51, s52, s53, s54, s55, s56, s57, s58, s59, s60, s61, s62, s63, s64, s65, s66, s67, s68, s69, s70, s71, s72, s73, s74, s75, s76, s77, s78, s79, s80, s81, s82, s83, s84, s85, s86, s87, s88, s89, s90, s91, s92, s93, s94, s95, s96, s97, s98, s99, s100, s101, s102, s103, s104, s105, s106, s107, s108, s109, s110, s111, s112, s113, s114, s115, s116, s117, s118, s119, s120, s121, s122, s123, s124, s125, s126, s127, s128, s129, s130, s131, s132, s133, s134, s135, s136, s137, s138, s139, s140, s141, s142, s143, s144, s145, s146, s147, s148, s149, s150, s151, s152, s153, s154, s155, s156, s157, s158, s159, s160, s161, s162, s163, s164, s165, s166, s167, s168, s169, s170, s171, s172, s173, s174, s175, s176, s177, s178, s179, s180, s181, s182, s183, s184, s185, s186, s187, s188, s189, v190, v191, v192, v193, v194, v195, v196, v197, v198, v199, v200, v201, v202, v203, v204, v205, v206, v207, v208, v209, v210, v211, v212, v213, v214, v215, v216, v217, v218, v219, v220, v221, v222, v223, v224, v225, v226, v227, v228, v229, v230, v231, v232, v233, v234, v235, v236, v237, v238, v239, v240, v241, v242, v243, v244, v245, v246, v247, v248, v249, v250, v251, v252, v253, v254, v255, v256, v257, v258, v259, v260, v261, v262, v263, v264, v265, v266, v267, v268, v269, v270, v271, v272, v273, v274, v275, v276, v277, v278, v279, v280, v281, v282, v283, v284, v285, v286, v287, v288, v289, v290, v291, v292, v293, v294, v295, v296], ds⟩ wx) :
    Code.wp Tryz.prog ((Tryz.f275.body.bind (tailOf 42)).getD .skip) Q ⟨#[.slice (some ⟨bq, oq, none⟩) lq cq, .pointer (some ⟨p, 0, none⟩), .slice (some ⟨bu, ou, none⟩) ln cu, .slice (some ⟨bv, ov, none⟩) 64 64, .int .i64 0, s5, s6, s7, s8, s9, .int .i64 64, s11, .int .i64 32, .slice (some ⟨g1, ns, none⟩) 33 33, s14, s15, s16, s17, s18, s19, s20, s21, s22, s23, s24, s25, s26, s27, s28, s29, s30, s31, s32, s33, s34, s35, s36, s37, s38, s39, s40, s41, s42, s43, s44, s45, s46, s47, s48, s49, s50, s51, s52, s53, s54, s55, s56, s57, s58, s59, s60, s61, s62, s63, s64, s65, s66, s67, s68, s69, s70, s71, s72, s73, s74, s75, s76, s77, s78, s79, s80, s81, s82, s83, s84, s85, s86, s87, s88, s89, s90, s91, s92, s93, s94, s95, s96, s97, s98, s99, s100, s101, s102, s103, s104, s105, s106, s107, s108, s109, s110, s111, s112, s113, s114, s115, s116, s117, s118, s119, s120, s121, s122, s123, s124, s125, s126, s127, s128, s129, s130, s131, s132, s133, s134, s135, s136, s137, s138, s139, s140, s141, s142, s143, s144, s145, s146, s147, s148, s149, s150, s151, s152, s153, s154, s155, s156, s157, s158, s159, s160, s161, s162, s163, s164, s165, s166, s167, s168, s169, s170, s171, s172, s173, s174, s175, s176, s177, s178, s179, s180, s181, s182, s183, s184, s185, s186, s187, s188, s189, s190, s191, s192, s193, s194, s195, s196, s197, s198, s199, s200, s201, s202, s203, s204, s205, s206, s207, s208, s209, s210, s211, s212, s213, s214, s215, s216, s217, s218, s219, s220, s221, s222, s223, s224, s225, s226, s227, s228, s229, s230, s231, s232, s233, s234, s235, s236, s237, s238, s239, s240, s241, s242, s243, s244, s245, s246, s247, s248, s249, s250, s251, s252, s253, s254, s255, s256, s257, s258, s259, s260, s261, s262, s263, s264, s265, s266, s267, s268, s269, s270, s271, s272, s273, s274, s275, s276, s277, s278, s279, s280, s281, s282, s283, s284, s285, s286, s287, s288, s289, s290, s291, s292, s293, s294, s295, s296], ds⟩ w2 := by
  conv => arg 2; whnf
  dsimp only
  have HK9 := Lib.hid hK
  clear hK
  obtain ⟨w3, hrun, ht3, hw3⟩ := run_clearW g1 ns c1 33 33 126 0 Tryz.underlying126 w2 H2.out.1 H2.out.2.1
  have H3 := Lib.hid (And.intro ht3 hw3)
  clear ht3 hw3
  have b1 : (31 : Int) ≤ (ln : Int) := by omega
  have b2 : 31 ≤ ln := by omega
  have b3 : ¬ cu = 31 := by omega
  obtain ⟨hU, hVe, hln, hlen', hvp, hVU, hQ, hqz, hnorm, hu, hv, hq⟩ := HP.out
  obtain ⟨hAg1, hgk1, hS2, hgA1, hqq1, hch1⟩ := H2.out
  obtain ⟨Nv, harv⟩ := HIN.out.arrv
  have hfu := HIN.out.fitu
  have hfq := HIN.out.fitq
  rw [hu] at hfu
  rw [hq] at hfq
  have dgu : bu ≠ g1 ∨ ou + lu ≤ ns := away HIN.out.arru (by have := HIN.out.su; rw [hu] at this; exact this) hgA1
  have dgv : bv ≠ g1 ∨ ov + 64 ≤ ns := away harv (by have := HIN.out.sv; rw [hv] at this; exact this) hgA1
  have dgq : bq ≠ g1 ∨ oq + lq ≤ ns := away HIN.out.arrq (by have := HIN.out.sq; rw [hq] at this; exact this) hgA1
  have hu3 : WAt w3 bu ou us := H3.out.2.at (stk_keeps HS.out hch1 HIN.out.arru HIN.out.atu HIN.out.su) (by omega)
  have hv3 : WAt w3 bv ov vs := H3.out.2.at (stk_keeps HS.out hch1 harv HIN.out.atv HIN.out.sv) (by omega)
  have hq3 : WAt w3 bq oq qs := H3.out.2.at (stk_keeps HS.out hch1 HIN.out.arrq HIN.out.atq HIN.out.sq) (by omega)
  have ru3 : Arr w3 bu Nu := H3.out.2.arr' (hch1.arr _ _ HIN.out.arru)
  have rv3 : Arr w3 bv Nv := H3.out.2.arr' (hch1.arr _ _ harv)
  have rq3 : Arr w3 bq Nq := H3.out.2.arr' (hch1.arr _ _ HIN.out.arrq)
  have rg3 : Arr w3 g1 c1 := H3.out.2.arr' hAg1
  have hS3 : StkAt w3 p (some q1) (some ⟨g1, 0, none⟩) (ns + 36) c1 := hS2.chg (Chg.of_wr H3.out.2 (by omega)) (fun b off h => ⟨_, h.1 ▸ hAg1⟩)
  have hu1 : (Pl.digs M (Pl.val M us)).drop 31 = (us.take ln).drop 31 := by rw [HTD.out]
  have hu1l : ((Pl.digs M (Pl.val M us)).drop 31).length = ln - 31 := by rw [List.length_drop, hln]
  have hu1a : WAt w3 bu (ou + 31) ((Pl.digs M (Pl.val M us)).drop 31) := by
    rw [hu1]
    exact (hu3.take ln).drop 31 (by rw [List.length_take]; omega)
  have hu1t : ∀ d ∈ (Pl.digs M (Pl.val M us)).drop 31, d < M := fun d hd => Pl.digs_lt M _ M_two d (List.mem_of_mem_drop hd)
  have hdd := digs_drop (Pl.val M us) 31
  have hv1l : (vs.drop 31).length = 33 := by rw [List.length_drop]; omega
  have HNO2 := Lib.hid (fun (W : World) (hb : Below w3.heap.size w3 W) => (by
    have hh := normW_any bu (ou + 31) (cu - 31) (ln - 31) _ W hu1l (by omega) (by omega) (hu1a.below hb) hu1t
    rw [hdd, hu1l] at hh
    exact hh.mono (fun e w' k => ⟨k.1, k.2.2.2⟩) : Calls Tryz.prog 170 #[.slice (some ⟨bu, ou + 31, none⟩) (ln - 31) (cu - 31)] W fun e w' => e = .returned (.slice (some ⟨bu, ou + 31, none⟩) (ln - 31) (cu - 31)) ∧ W = w'))
  have hIn2 : DivIn w3 (some ⟨g1, 0, none⟩) (ns + 36) g1 ns c1 bu (ou + 31) Nu bv (ov + 31) (List.replicate 33 0) ((Pl.digs M (Pl.val M us)).drop 31) (vs.drop 31) := by
    refine ⟨rg3, by rw [List.length_replicate]; omega, H3.out.1, ru3, by rw [hu1l]; omega, hu1a, ⟨_, rv3⟩, hv3.drop 31 (by omega), ?_, ?_, ?_, ?_, ?_, ?_, hu1t, ?_, fun d hd => HIN.out.vlt d (List.mem_of_mem_drop hd)⟩
    · rw [hu1l, List.length_replicate]; omega
    · rw [hv1l, List.length_replicate]; omega
    · rw [hu1l, hv1l]; have := HIN.out.uv; omega
    · intro _; rw [List.length_replicate]; omega
    · intro e; injection e with e; injection e with e; rw [hu1l]; omega
    · intro e; injection e with e; injection e with e; rw [hv1l]; omega
    · intro d hd; rw [(List.mem_replicate.1 hd).2]; exact M_pos
  have hV1U1 : Pl.val M (vs.drop 31) ≤ Pl.val M ((Pl.digs M (Pl.val M us)).drop 31) := by
    have k1 := Pl.val_take_drop M vs 31 (by omega)
    have k2 := Pl.val_take_drop M (Pl.digs M (Pl.val M us)) 31 (by omega)
    have k3 := Pl.val_lt M ((Pl.digs M (Pl.val M us)).take 31) (fun d hd => Pl.digs_lt M _ M_two d (List.mem_of_mem_take hd))
    rw [List.length_take, Nat.min_eq_left (by omega)] at k3
    rw [Pl.val_digs M _ M_two] at k2
    rcases Nat.lt_or_ge (Pl.val M ((Pl.digs M (Pl.val M us)).drop 31)) (Pl.val M (vs.drop 31)) with hlt | hge
    · exfalso
      have k4 := Nat.mul_le_mul_left (M ^ 31) hlt
      rw [Nat.mul_succ] at k4
      omega
    · exact hge
  have hg16 : 16 < g1 := by
    rcases hgA1 with e | e
    · exact HV.out.2.a g1 e
    · have := HV.out.1.lt; omega
  have hV3 : BigVars w3 := (HV.out.1.chg hch1 (fun b off k => by
    rcases k with k | k | k
    · rw [k]; exact HV.out.2.p
    · exact HV.out.2.q b k
    · exact HV.out.2.a b k.1)).chg (Chg.of_wr H3.out.2 (by omega)) (fun b off k => by rw [k.1]; exact hg16)
  have HV3 := Lib.hid hV3
  have HSTEP := Lib.hid (fun (W : World) (hb : Below w3.heap.size w3 W) => (by
    have hh := stepSmall_any p (some q1) (some ⟨g1, 0, none⟩) (ns + 36) c1 g1 ns c1 33 bu (ou + 31) Nu (cu - 31) bv (ov + 31) 33 33 (ln - 31) 33 (List.replicate 33 0) ((Pl.digs M (Pl.val M us)).drop 31) (vs.drop 31) 1 W (hS3.below hb) ?_ ?_ hv1l hu1l List.length_replicate (by omega) (by omega) (by omega) (by omega) (by omega) (by omega) (by omega) (by
      rw [show (33 - 1 : Nat) = 32 from rfl]
      rw [List.getD_eq_getElem?_getD, List.getElem?_drop, ← List.getD_eq_getElem?_getD]
      exact hnorm) hV1U1 (by omega) (fun d hd => (List.mem_replicate.1 hd).2)
    · exact hh.mono (fun e w' k => k.pre hb)
    · exact (hV3.below hb).v15
    · exact { hIn2 with arrq := hIn2.arrq.below hb, atq := hIn2.atq.below hb, arru := hIn2.arru.below hb, atu := hIn2.atu.below hb, arrv := ⟨_, rv3.below hb⟩, atv := hIn2.atv.below hb } :
      Calls Tryz.prog 275 #[.slice (some ⟨g1, ns, none⟩) 33 33, .pointer (some ⟨p, 0, none⟩), .slice (some ⟨bu, ou + 31, none⟩) (ln - 31) (cu - 31), .slice (some ⟨bv, ov + 31, none⟩) 33 33, .int .i64 1] W
        (DivVal w3 p (some q1) (some ⟨g1, 0, none⟩) (ns + 36) g1 ns 33 bu (ou + 31) (ln - 31) (Pl.val M ((Pl.digs M (Pl.val M us)).drop 31)) (Pl.val M (vs.drop 31)))))
  have HD1 := Lib.hid (And.intro dgu (And.intro dgv (And.intro dgq (And.intro hu3 (And.intro hv3 (And.intro hq3 (And.intro ru3 (And.intro rv3 (And.intro rq3 (And.intro rg3 hS3))))))))))
  clear hU hVe hln hlen' hvp hVU hQ hqz hnorm hu hv hq hAg1 hgk1 hS2 hgA1 hqq1 hch1 harv hfu hfq dgu dgv dgq hu3 hv3 hq3 ru3 rv3 rq3 rg3 hS3 hu1 hu1l hu1a hu1t hdd hv1l hIn2 hV1U1 hg16 hV3
  go_wp2_with fail
  refine no_panicQ ?_
  go_region_with (first
    | (go_at_call 170; refine (HNO2.out _ (by first | exact Below.refl _ _ | exact (Below.refl _ _).drew | exact below_drewN (Below.refl _ _) _)).mono ?_; rintro e w4 ⟨rfl, rfl⟩)
    | (go_at_call 275; refine (HSTEP.out _ (by first | exact Below.refl _ _ | exact (Below.refl _ _).drew | exact below_drewN (Below.refl _ _) _)).mono ?_; rintro e w4 ⟨rfl, r1, qt, q2, g2, c2, d1, d2, d3, d4, d5, d6, d7, d8, d9, d10, d11, d12⟩))
  have HD4 := Lib.hid (And.intro d1 (And.intro d2 (And.intro d3 (And.intro d4 (And.intro d5 (And.intro d6 (And.intro d7 (And.intro d8 (And.intro d9 (And.intro d10 (And.intro d11 d12)))))))))))
  have hno4 := normW_any g1 ns 33 33 qt w4 d2 (Nat.le_refl _) (by omega) d8 d4
  have hnt4 := stkNat_any p (some q2) (some ⟨g2, 0, none⟩) (ns + 36) c2 192 w4 d9 (by omega) (by omega) (by omega)
  have HNO4 := Lib.hid hno4
  have HNT4 := Lib.hid hnt4
  clear d1 d2 d3 d4 d5 d6 d7 d8 d9 d10 d11 d12 hno4 hnt4
  go_wp2_with fail
  refine HNO4.out.mono ?_; rintro e w5 ⟨rfl, n1, n2, rfl⟩
  obtain ⟨lq1, hlq1⟩ : ∃ k, (Pl.digs M (Pl.val M qt)).length = k := ⟨_, rfl⟩
  rw [hlq1] at n1 n2 ⊢
  have HQT := Lib.hid (And.intro n2 hlq1)
  clear n2 hlq1
  go_wp2_with fail
  refine HNT4.out.mono ?_; rintro e w5 ⟨g3, c3, q3, rfl, hAg3, hgk3, hS5, hgA3, hqq3, hch5⟩
  obtain ⟨w6, hrun6, ht6, hw6⟩ := run_clearW g3 (ns + 36) c3 192 192 126 0 Tryz.underlying126 w5 hAg3 hgk3
  have H6 := Lib.hid (And.intro ht6 (And.intro hw6 (And.intro hAg3 (And.intro hgk3 (And.intro hS5 (And.intro hgA3 (And.intro hqq3 hch5)))))))
  clear ht6 hw6 hAg3 hgk3 hS5 hgA3 hqq3 hch5
  obtain ⟨hU, hVe, hln, hlen', hvp, hVU, hQ, hqz, hnorm, hu, hv, hq⟩ := HP.out
  obtain ⟨dgu, dgv, dgq, hu3, hv3, hq3, ru3, rv3, rq3, rg3, hS3⟩ := HD1.out
  obtain ⟨d1, d2, d3, d4, d5, d6, d7, d8, d9, d10, d11, d12⟩ := HD4.out
  obtain ⟨ht6, hw6, hAg3, hgk3, hS5, hgA3, hqq3, hch5⟩ := H6.out
  have hnums := step_nums hv HIN.out.vlt hnorm hln ⟨hul, by omega⟩
  have hsz3 : w.heap.size ≤ w3.heap.size := Nat.le_trans H2.out.2.2.2.2.2.size H3.out.2.grown.size
  have hgA2' : A = some ⟨g2, 0, none⟩ ∨ w.heap.size ≤ g2 := stk_old H2.out.2.2.2.1 hsz3 d10
  have hgA3' : A = some ⟨g3, 0, none⟩ ∨ w.heap.size ≤ g3 := stk_old hgA2' (Nat.le_trans hsz3 d12.size) hgA3
  obtain ⟨Nw, harv⟩ := HIN.out.arrv
  have E2U : Hid (bu ≠ g2 ∨ ou + lu ≤ ns) := Lib.hid (away HIN.out.arru (by have := HIN.out.su; rw [hu] at this; exact this) hgA2')
  have E2V : Hid (bv ≠ g2 ∨ ov + 64 ≤ ns) := Lib.hid (away harv (by have := HIN.out.sv; rw [hv] at this; exact this) hgA2')
  have E2Q : Hid (bq ≠ g2 ∨ oq + lq ≤ ns) := Lib.hid (away HIN.out.arrq (by have := HIN.out.sq; rw [hq] at this; exact this) hgA2')
  have E3U : Hid (bu ≠ g3 ∨ ou + lu ≤ ns) := Lib.hid (away HIN.out.arru (by have := HIN.out.su; rw [hu] at this; exact this) hgA3')
  have E3V : Hid (bv ≠ g3 ∨ ov + 64 ≤ ns) := Lib.hid (away harv (by have := HIN.out.sv; rw [hv] at this; exact this) hgA3')
  have E3Q : Hid (bq ≠ g3 ∨ oq + lq ≤ ns) := Lib.hid (away HIN.out.arrq (by have := HIN.out.sq; rw [hq] at this; exact this) hgA3')
  have hutl : (us.take 31).length = 31 := by rw [List.length_take]; omega
  -- in w4
  have n3u := hS3.ne ru3
  have n3v := hS3.ne rv3
  have n3q := hS3.ne rq3
  have XX : Hid ((bv ≠ bu ∨ ov + 64 ≤ ou + 31 ∨ ou + 31 + (ln - 31) ≤ ov) ∧ (bv ≠ g1 ∨ ov + 64 ≤ ns ∨ ns + 33 ≤ ov) ∧ (bq ≠ bu ∨ oq + lq ≤ ou + 31 ∨ ou + 31 + (ln - 31) ≤ oq) ∧ (bq ≠ g1 ∨ oq + lq ≤ ns ∨ ns + 33 ≤ oq) ∧ (bu ≠ g1 ∨ ou + 31 ≤ ns ∨ ns + 33 ≤ ou)) := by
    have hIuv := HIN.out.uv
    have hIqu := HIN.out.qu
    rw [hu, hv] at hIuv
    rw [hu, hq] at hIqu
    exact Lib.hid (xx_of hlen hul hIuv hIqu dgv dgq dgu)
  obtain ⟨X1, X2, X3, X4, X5⟩ := XX.out
  have hv4 : WAt w4 bv ov vs := keepD d12 n3v.1 n3v.2 (fun e => by injection e with e; injection e with e; have := dgv; omega) X1 X2 hv3 hv
  have hq4 : WAt w4 bq oq qs := keepD d12 n3q.1 n3q.2 (fun e => by injection e with e; injection e with e; have := dgq; omega) X3 X4 hq3 hq
  have hl4 : WAt w4 bu ou (us.take 31) := keepD d12 n3u.1 n3u.2 (fun e => by injection e with e; injection e with e; have := dgu; omega) (Or.inr (Or.inl (Nat.le_refl _))) X5 (hu3.take 31) hutl
  have HDG := Lib.hid (And.intro dgu (And.intro dgv dgq))
  clear X1 X2 X3 X4 X5 dgu dgv dgq
  have hul4 : WAt w4 bu ou (us.take 31 ++ r1) := WAt.join hl4 hutl d7
  have rv4 := d12.arr _ _ rv3
  have rq4 := d12.arr _ _ rq3
  have ru4 := d12.arr _ _ ru3
  have rg4 := d12.arr _ _ rg3
  -- in w6
  have h46 : Chg w4 w6 (fun b off => b = p ∨ q2 = b ∨ (b = g2 ∧ ns + 36 ≤ off) ∨ (b = g3 ∧ ns + 36 ≤ off)) := hch5.trans (Chg.of_wr hw6 (by omega)) (fun b off k => by
    rcases k with k | k | k
    · exact Or.inl k
    · exact Or.inr (Or.inl (Option.some.inj k))
    · have k1 := k.1; injection k1 with k1; injection k1 with k1; exact Or.inr (Or.inr (Or.inl ⟨k1.symm, by omega⟩))) (fun b off _ k => Or.inr (Or.inr (Or.inr ⟨k.1, k.2.1⟩)))
  have n4u := d9.ne ru4
  have n4v := d9.ne rv4
  have n4q := d9.ne rq4
  have n4g := d9.ne rg4
  have hv6 : WAt w6 bv ov vs := keep6 h46 n4v.1 (fun k => n4v.2 (by rw [k])) (Y E2V.out) (Y E3V.out) hv4 hv
  have hq6 : WAt w6 bq oq qs := keep6 h46 n4q.1 (fun k => n4q.2 (by rw [k])) (Y E2Q.out) (Y E3Q.out) hq4 hq
  have hull : (us.take 31 ++ r1).length = ln := by rw [List.length_append, hutl, d1]; omega
  have hu6 : WAt w6 bu ou (us.take 31 ++ r1) := keep6 h46 n4u.1 (fun k => n4u.2 (by rw [k])) (Y' hlen E2U.out) (Y' hlen E3U.out) hul4 hull
  have hg6 : WAt w6 g1 ns qt := keep6 h46 n4g.1 (fun k => n4g.2 (by rw [k])) (Or.inr (by omega)) (Or.inr (by omega)) d8 d2
  have rv6 := h46.arr _ _ rv4
  have rq6 := h46.arr _ _ rq4
  have ru6 := h46.arr _ _ ru4
  have rg6 := h46.arr _ _ rg4
  have r36 : Arr w6 g3 c3 := hw6.arr' hAg3
  have hqv : Pl.val M (qt.take lq1) = Pl.val M qt := by rw [HQT.out.1, Pl.val_digs M _ M_two]
  have hqtl : (qt.take lq1).length = lq1 := by rw [List.length_take]; omega
  have hV6 : BigVars w6 := by
    have hlt := HV.out.1.lt
    have g16 : ∀ x, (A = some ⟨x, 0, none⟩ ∨ w.heap.size ≤ x) → 16 < x := fun x hx => by
      rcases hx with e | e
      · exact HV.out.2.a x e
      · omega
    have q16 : 16 < q1 := by
      rcases H2.out.2.2.2.2.1 with e | ⟨_, e⟩
      · exact HV.out.2.q q1 e
      · omega
    have q2e : q1 = q2 := by
      rcases d11 with e | ⟨e, _⟩
      · exact Option.some.inj e
      · cases e
    refine (HV3.out.chg d12 (fun b off k => ?_)).chg h46 (fun b off k => ?_)
    · rcases k with k | k | k | k | k
      · rw [k]; exact HV.out.2.p
      · rw [← Option.some.inj k]; exact q16
      · have k1 := k.1; injection k1 with k1; injection k1 with k1; rw [← k1]; exact g16 g1 H2.out.2.2.2.1
      · rw [k.1]; exact hbu
      · rw [k.1]; exact g16 g1 H2.out.2.2.2.1
    · rcases k with k | k | k | k
      · rw [k]; exact HV.out.2.p
      · rw [← k, ← q2e]; exact q16
      · rw [k.1]; exact g16 g2 hgA2'
      · rw [k.1]; exact g16 g3 hgA3'
  -- the product
  obtain ⟨qh, hqh⟩ : ∃ x, Pl.val M ((Pl.digs M (Pl.val M us)).drop 31) / Pl.val M (vs.drop 31) = x := ⟨_, rfl⟩
  have hvqt : Pl.val M (qt.take lq1) = qh := by rw [hqv, d6, hqh]
  have hdt := HQT.out
  have hq17 : lq1 ≤ 17 := by
    have k := hnums.q17
    rw [hqh] at k
    have k2 := Pl.digs_len_le M_two (Nat.lt_of_lt_of_le k (Nat.pow_le_pow_right M_pos (show ln - 63 ≤ 17 by omega)))
    rw [← hqh, ← d6, hdt.2] at k2
    exact k2
  have hmulU : Calls Tryz.prog 228 #[.slice (some ⟨g3, ns + 36, none⟩) 192 192, .pointer (some ⟨p, 0, none⟩), .slice (some ⟨g1, ns, none⟩) lq1 33, .slice (some ⟨bv, ov, none⟩) 31 64] w6 fun e w7 => ∃ (zs : List Nat) (Lz Lp : Nat), e = .returned (.slice (some ⟨g3, ns + 36, none⟩) Lp 192) ∧ 31 ≤ Lz ∧ Lz ≤ 192 ∧ zs.length = Lz ∧ (∀ d ∈ zs, d < M) ∧ Pl.val M zs = Pl.val M (vs.take 31) * qh ∧ zs.take Lp = Pl.digs M (Pl.val M (vs.take 31) * qh) ∧ Lp ≤ Lz ∧ WAt w7 g3 (ns + 36) zs ∧ Chg w6 w7 (fun b off => b = g3 ∧ ns + 36 ≤ off ∧ off < ns + 36 + 192) := by
    have hm := mul_lt p g3 (ns + 36) 192 192 bv ov 64 g1 ns 33 31 lq1 c3 Nv c1 (vs.take 31) (qt.take lq1) w6 hV6.v16 r36 (by omega) (by omega) (by decide) (by rw [List.length_take]; omega) hqtl (by omega) (by omega) (by omega) (hv6.take 31) rv6 (hg6.take lq1) rg6 (fun d hd => HIN.out.vlt d (List.mem_of_mem_take hd)) (fun d hd => d4 d (List.mem_of_mem_take hd)) (by omega) (by omega) (by decide) (by decide) (fun e => by
      rcases Nat.eq_zero_or_pos ((qt.take lq1).getD 0 0) with k | k
      · exfalso
        have k1 : qt.take lq1 = [0] := by
          rcases hql : qt.take lq1 with _ | ⟨x, _ | ⟨y, r⟩⟩
          · rw [hql] at hqtl; simp at hqtl; omega
          · rw [hql] at k; simp at k; rw [k]
          · rw [hql] at hqtl; simp at hqtl; omega
        have k2 : Pl.val M qt = 0 := by rw [← hqv, k1]; simp [Pl.val]
        have k3 := Pl.digs_len_le (b := M) (n := 0) (m := 0) M_two (by simp)
        have k4 := hdt.2
        rw [k2] at k4
        omega
      · exact k) (by have := E3V.out; omega) (by omega) (by have := E3V.out; omega) (by omega)
    refine hm.mono ?_
    rw [hvqt]
    rintro e w7 (⟨e0, rfl, rfl⟩ | ⟨e0, rfl, zs, z1, z2, z3, z4, z5, z6, z7⟩)
    · have k2 : qh = 0 := by
        rw [← hvqt]
        subst e0
        simp [Pl.val]
      have k3 := Pl.digs_len_le (b := M) (n := 0) (m := 0) M_two (by simp)
      refine ⟨List.replicate 192 0, 192, 0, rfl, by omega, by omega, List.length_replicate, fun d hd => by rw [(List.mem_replicate.1 hd).2]; exact M_pos, ?_, ?_, by omega, ht6, Chg.refl _ _⟩
      · rw [k2, Nat.mul_zero]; exact Pl.val_zeros M _ (fun d hd => (List.mem_replicate.1 hd).2)
      · rw [k2, Nat.mul_zero, List.take_zero]; exact (List.eq_nil_of_length_eq_zero (by omega)).symm
    · exact ⟨zs, 31 + lq1, _, rfl, by omega, by omega, z1, z2, z3, z4, z5, z6, Chg.of_wr (z7.mono (Nat.le_refl _) (by omega)) (by omega)⟩
  have HM7 := Lib.hid hmulU
  have HA6 := Lib.hid (And.intro hv6 (And.intro hq6 (And.intro hu6 (And.intro hg6 (And.intro rv6 (And.intro rq6 (And.intro ru6 (And.intro rg6 r36))))))))
  have HB6 := Lib.hid (And.intro hqv (And.intro hqtl (And.intro hV6 (And.intro hnums h46))))
  have HC6 := Lib.hid (And.intro hgA2' (And.intro hgA3' (And.intro hqq3 (And.intro hgk3 (And.intro hS5 (And.intro hw6 (And.intro hAg3 (And.intro d11 (And.intro d5 (And.intro d1 (And.intro d3 (And.intro d4 (And.intro d12 hvqt)))))))))))))
  have HD6 := Lib.hid (And.intro HDG.out (And.intro hqh (And.intro hull hutl)))
  have e1x : (us.take 31 ++ r1).take 31 = us.take 31 := by rw [List.take_append_of_le_length (by omega), List.take_take, Nat.min_self]
  have e2x : (us.take 31 ++ r1).drop 31 = r1 := by rw [List.drop_append_of_le_length (by omega), List.drop_eq_nil_of_le (by omega), List.nil_append]
  have e3x : (Pl.digs M (Pl.val M us)).take 31 = us.take 31 := by rw [← HTD.out, List.take_take, Nat.min_eq_left (by omega)]
  have HE6 := Lib.hid (And.intro e1x (And.intro e2x (And.intro e3x (And.intro hdt hq17))))
  clear e1x e2x e3x hdt hq17 hmulU hv6 hq6 hu6 hg6 rv6 rq6 ru6 rg6 r36 hqv hqtl hV6 hnums h46 hgA2' hgA3' hqq3 hgk3 hS5 hw6 hAg3 d11 d5 d1 d3 d4 d12 hvqt hqh hull hutl
  go_wp2_with fail
  refine HM7.out.mono ?_; rintro e w7 ⟨zs, Lz, Lp, rfl, z1, z2, z3, z4, z5, z6, z7, z8, z9⟩
  have HZ := Lib.hid (And.intro z1 (And.intro z2 (And.intro z3 (And.intro z4 (And.intro z5 (And.intro z6 (And.intro z7 (And.intro z8 z9))))))))
  clear z1 z2 z3 z4 z5 z6 z7 z8 z9
  go_wp2_with fail
  refine wp_code (c' := (Tryz.f275.body.bind (loopAt 221)).getD .skip) (by kernel_rfl) ?_
  rename_i KK hKK
  obtain ⟨z1, z2, z3, z4, z5, z6, z7, z8, z9⟩ := HZ.out
  obtain ⟨hv6, hq6, hu6, hg6, rv6, rq6, ru6, rg6, r36⟩ := HA6.out
  obtain ⟨hqv, hqtl, hV6, hN, h46⟩ := HB6.out
  obtain ⟨hgA2', hgA3', hqq3, hgk3, hS5, hw6, hAg3, d11, d5, d1, d3, d4, d12, hvqt⟩ := HC6.out
  obtain ⟨hdg, hqh, hull, hutl⟩ := HD6.out
  obtain ⟨e1x, e2x, e3x, hdt, hq17⟩ := HE6.out
  rw [hqh] at hN
  have a7 : ∀ (b o n : Nat) (xs : List Nat), WAt w6 b o xs → xs.length = n → (b ≠ g3 ∨ o + n ≤ ns + 36) → WAt w7 b o xs := fun b o n xs hx hl hd => z9.at hx (fun j hj k => by omega)
  have u7 := a7 _ _ ln _ hu6 hull (Y' hlen E3U.out)
  have v7 := a7 _ _ 64 _ hv6 hv (Y E3V.out)
  have q7 := a7 _ _ lq _ hq6 hq (Y E3Q.out)
  have g7 := a7 _ _ lq1 _ (hg6.take lq1) hqtl (Or.inr (by omega))
  have hg1 := H2.out.2.1
  have HX := Lib.hid (And.intro u7 (And.intro v7 (And.intro q7 g7)))
  refine stepLoop bu ou ln cu Nu bv ov g1 ns c1 lq1 g3 (ns + 36) c3 Lp Lz (us.take 31 ++ r1) vs (qt.take lq1) zs (Pl.val M us) (Pl.val M vs) _ _ _ _ qh _ w7 ds hN hull hv hqtl z3 (fun d hd => by
    rcases List.mem_append.1 hd with hd | hd
    · exact HIN.out.ult d (List.mem_of_mem_take hd)
    · exact d3 d hd) HIN.out.vlt (fun d hd => d4 d (List.mem_of_mem_take hd)) z4 n1 z7 ⟨z1, z2⟩ ⟨hul, by omega⟩ (by omega) (by have := M_two; omega) (by rw [e1x, e3x]) (by rw [e2x, d5]) rfl rfl hvqt z5 z6 u7 v7 g7 z8 (z9.arr _ _ ru6) (z9.arr _ _ rg6) (z9.arr _ _ r36) (by have := HIN.out.fitu; rw [hu] at this; omega) (by omega) (by omega) (by have := HDG.out; omega) (by have := E3V.out; omega) (by have := HIN.out.uv; rw [hu, hv] at this; omega) (by omega) (by have := HDG.out; omega) (by have := E3U.out; omega) ?_
  intro wx
  intros
  rename_i hF
  have HF := Lib.hid hF
  clear hF
  obtain ⟨_, _, _, _, _, _, _, _, _, _, _, _, _, _, _, _, h14⟩ := HF.out
  have hbq7 : WAt wx bq oq qs := h14.at q7 (fun j hj k => by
    rw [hq] at hj
    have h1 := hdg.2.2
    have h2 := E3Q.out
    have h3 := HIN.out.qu
    rw [hu, hq] at h3
    rcases k with k | k | k <;> omega)
  have hlq0 : 0 < lq := by
    rcases Nat.eq_zero_or_pos lq with e | e
    · exfalso
      rw [e, Nat.pow_zero] at hQ
      have := Nat.div_pos hVU (by rw [hVe]; exact hvp)
      omega
    · exact e
  have hfuq := HIN.out.fitq
  have hfuu := HIN.out.fitu
  rw [hq] at hfuq
  rw [hu] at hfuu
  have ru' := h14.arr _ _ (z9.arr _ _ ru6)
  have rq' := h14.arr _ _ (z9.arr _ _ rq6)
  have rg' := h14.arr _ _ (z9.arr _ _ rg6)
  show KK _ _
  refine hKK _ _ ?_
  refine wp_code (c' := (Tryz.f275.body.bind (tailOf 60)).getD .skip) (by kernel_rfl) ?_
  refine stepEnd bu ou ln cu Nu bq oq lq cq Nq g1 ns c1 lq1 g3 (ns + 36) c3 Lp Lz qs (Pl.val M us) (Pl.val M vs) w7 wx ds HF.out n1 z7 z2 ⟨by omega, by omega⟩ (by omega) ⟨hlq0, hlq⟩ hcq hq hqz hbq7 ru' rq' rg' (by omega) hfuq (by have := E3U.out; omega) (by have := hdg.1; omega) (by have h3 := HIN.out.qu; rw [hu, hq] at h3; omega) (by have := hdg.2.2; omega) hQ ?_
  intro wy
  intros
  rename_i hE
  refine HK9.out wy ?_
  obtain ⟨us', qs', f1, f2, f3, f4, f5, f6, f7, f8, f9⟩ := hE
  have hz0 := take_digs HTD.out (by omega)
  have hdl : (us.drop ln).length = lu - ln := by rw [List.length_drop, hu]
  have q12 : q1 = q2 := by
    rcases d11 with e | ⟨e, _⟩
    · exact Option.some.inj e
    · cases e
  have q23 : q2 = q3 := by
    rcases hqq3 with e | ⟨e, _⟩
    · exact Option.some.inj e
    · cases e
  have hqr : q = some q3 ∨ (q = none ∧ w.heap.size ≤ q3) := by
    rw [← q23, ← q12]; exact H2.out.2.2.2.2.1
  have HCH : Chg w wy (DivCh p q A ns bq oq lq bu ou lu) := by
    have hA1 := H2.out.2.2.2.1
    have hT : ∀ b off, b < w.heap.size → (b = p ∨ b = q1 ∨ ((b = g1 ∨ b = g2 ∨ b = g3) ∧ ns ≤ off) ∨ (b = bu ∧ ou ≤ off ∧ off < ou + lu) ∨ (b = bq ∧ oq ≤ off ∧ off < oq + lq)) → DivCh p q A ns bq oq lq bu ou lu b off := by
      intro b off hb k
      rcases k with k | k | ⟨k, k'⟩ | k | k
      · exact Or.inl k
      · rcases H2.out.2.2.2.2.1 with e | ⟨_, e⟩
        · exact Or.inr (Or.inl (by rw [e, k]))
        · exfalso; rw [k] at hb; exact absurd hb (Nat.not_lt.2 e)
      · rcases k with k | k | k
        · rcases hA1 with e | e
          · exact Or.inr (Or.inr (Or.inl ⟨by rw [e, k], k'⟩))
          · exfalso; rw [k] at hb; exact absurd hb (Nat.not_lt.2 e)
        · rcases hgA2' with e | e
          · exact Or.inr (Or.inr (Or.inl ⟨by rw [e, k], k'⟩))
          · exfalso; rw [k] at hb; exact absurd hb (Nat.not_lt.2 e)
        · rcases hgA3' with e | e
          · exact Or.inr (Or.inr (Or.inl ⟨by rw [e, k], k'⟩))
          · exfalso; rw [k] at hb; exact absurd hb (Nat.not_lt.2 e)
      · exact Or.inr (Or.inr (Or.inr (Or.inl k)))
      · exact Or.inr (Or.inr (Or.inr (Or.inr k)))
    have c12 : Chg w w2 (DivCh p q A ns bq oq lq bu ou lu) := H2.out.2.2.2.2.2.mono (fun b off _ k => by
      rcases k with k | k | k
      · exact Or.inl k
      · exact Or.inr (Or.inl k)
      · exact Or.inr (Or.inr (Or.inl ⟨k.1, Nat.le_of_eq k.2.symm⟩)))
    have c13 := c12.trans (Chg.of_wr H3.out.2 (by decide)) (fun _ _ k => k) (fun b off hb k => hT b off hb (Or.inr (Or.inr (Or.inl ⟨Or.inl k.1, k.2.1⟩))))
    have c14 := c13.trans d12 (fun _ _ k => k) (fun b off hb k => hT b off hb (by
      rcases k with k | k | k | k | k
      · exact Or.inl k
      · exact Or.inr (Or.inl (Option.some.inj k).symm)
      · have k1 := k.1; injection k1 with k1; injection k1 with k1; exact Or.inr (Or.inr (Or.inl ⟨Or.inl k1.symm, by have := k.2; omega⟩))
      · exact Or.inr (Or.inr (Or.inr (Or.inl ⟨k.1, by have := k.2; omega, by have := k.2; omega⟩)))
      · exact Or.inr (Or.inr (Or.inl ⟨Or.inl k.1, k.2.1⟩))))
    have c16 := c14.trans h46 (fun _ _ k => k) (fun b off hb k => hT b off hb (by
      rcases k with k | k | k | k
      · exact Or.inl k
      · exact Or.inr (Or.inl (by rw [q12, k]))
      · exact Or.inr (Or.inr (Or.inl ⟨Or.inr (Or.inl k.1), by have := k.2; omega⟩))
      · exact Or.inr (Or.inr (Or.inl ⟨Or.inr (Or.inr k.1), by have := k.2; omega⟩))))
    have c17 := c16.trans z9 (fun _ _ k => k) (fun b off hb k => hT b off hb (Or.inr (Or.inr (Or.inl ⟨Or.inr (Or.inr k.1), by have := k.2.1; omega⟩))))
    have c1x := c17.trans h14 (fun _ _ k => k) (fun b off hb k => hT b off hb (by
      rcases k with k | k | k
      · exact Or.inr (Or.inr (Or.inl ⟨Or.inl k.1, k.2.1⟩))
      · exact Or.inr (Or.inr (Or.inl ⟨Or.inr (Or.inr k.1), by have := k.2.1; omega⟩))
      · exact Or.inr (Or.inr (Or.inr (Or.inl ⟨k.1, by have := k.2.1; omega, by have := k.2.2; omega⟩)))))
    exact c1x.trans f9 (fun _ _ k => k) (fun b off hb k => hT b off hb (by
      rcases k with k | k
      · exact Or.inr (Or.inr (Or.inr (Or.inl ⟨k.1, k.2.1, by have := k.2.2; omega⟩)))
      · exact Or.inr (Or.inr (Or.inr (Or.inr k)))))
  have HST : StkAt wy p (some q3) (some ⟨g3, 0, none⟩) (ns + 228) c3 := by
    have hS6 := hS5.chg (Chg.of_wr hw6 (by omega)) (fun b off h => ⟨_, h.1 ▸ hAg3⟩)
    have hS7 := hS6.chg z9 (fun b off h => ⟨_, h.1 ▸ r36⟩)
    have hSx := hS7.chg h14 (fun b off h => by
      rcases h with h | h | h
      · exact ⟨_, h.1 ▸ z9.arr _ _ rg6⟩
      · exact ⟨_, h.1 ▸ z9.arr _ _ r36⟩
      · exact ⟨_, h.1 ▸ z9.arr _ _ ru6⟩)
    exact hSx.chg f9 (fun b off h => by
      rcases h with h | h
      · exact ⟨_, h.1 ▸ ru'⟩
      · exact ⟨_, h.1 ▸ rq'⟩)
  have HUP : WAt wy bu (ou + ln) (us.drop ln) := by
    have x3 := hu3.drop ln (by omega)
    have x4 : WAt w4 bu (ou + ln) (us.drop ln) := keepD d12 n3u.1 n3u.2 (fun e => by injection e with e; injection e with e; have := hdg.1; omega) (Or.inr (Or.inr (by omega))) (by have := hdg.1; omega) x3 hdl
    have x6 := keep6 h46 n4u.1 (fun k => n4u.2 (by rw [k])) (by have := E2U.out; omega) (by have := E3U.out; omega) x4 hdl
    have x7 := a7 _ _ _ _ x6 hdl (by have := E3U.out; omega)
    have x8 := h14.at x7 (fun j hj k => by
      rw [hdl] at hj
      have h1 := hdg.1
      have h2 := E3U.out
      rcases k with k | k | k <;> omega)
    refine f9.at x8 (fun j hj k => ?_)
    rw [hdl] at hj
    have h3 := HIN.out.qu
    rw [hu, hq] at h3
    rcases k with k | k <;> omega
  exact ⟨us' ++ us.drop ln, qs', q3, g3, c3, ns + 228, by rw [List.length_append, f1, hdl]; omega, f2, fun d hd => by
    rcases List.mem_append.1 hd with hd | hd
    · exact f3 d hd
    · exact HIN.out.ult d (List.mem_of_mem_drop hd), f4, by rw [Pl.val_append, hz0, Nat.mul_zero, Nat.add_zero, f5, hU, hVe], by rw [f6, hU, hVe], WAt.join f7 f1 HUP, f8, HST, by omega, by omega, hgA3', hqr, HCH⟩
end Go.Proofs.YtgfkdjmoflbmdaaGreatDoor
