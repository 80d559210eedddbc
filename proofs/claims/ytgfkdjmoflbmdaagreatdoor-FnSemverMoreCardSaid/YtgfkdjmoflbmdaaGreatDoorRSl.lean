/- divRecursiveStep: a guess that was too great by one put right. (printed by gensl.py) -/
import Derived.Test.YtgfkdjmoflbmdaaGreatDoorRSjxZc
namespace Go.Proofs.YtgfkdjmoflbmdaaGreatDoor
open Go.RowKit
open Go.Proofs
def FixCh (g1 a1 lq g3 a3 Lz bu ou lu : Nat) (b off : Nat) : Prop := (b = g1 ∧ a1 ≤ off ∧ off < a1 + lq) ∨ (b = g3 ∧ a3 ≤ off ∧ off < a3 + Lz) ∨ (b = bu ∧ ou + 31 ≤ off ∧ off < ou + lu)
theorem sub_two {zs ws : List Nat} {s : Nat} (hs : s ≤ zs.length) (hw : ws.length = s) (hz : ∀ d ∈ zs, d < M) (hwl : ∀ d ∈ ws, d < M) (hle : Pl.val M ws ≤ Pl.val M zs) :
    Pl.val M ((Pl.subV M (zs.take s) ws 0).1 ++ (Pl.subW M (zs.drop s) (Pl.subV M (zs.take s) ws 0).2).1) = Pl.val M zs - Pl.val M ws := by
  have hl1 : (zs.take s).length = s := by rw [List.length_take]; omega
  have h1 := Pl.subV_val M (zs.take s) ws 0 (by rw [hl1, hw]) (fun d hd => hz d (List.mem_of_mem_take hd)) hwl (by omega)
  have h2 := Pl.subW_val M (by have := M_pos; omega) (zs.drop s) (Pl.subV M (zs.take s) ws 0).2 (fun d hd => hz d (List.mem_of_mem_drop hd)) (by have := Pl.subV_c M (zs.take s) ws 0 (by omega); have := M_two; omega)
  have h3 := Pl.subV_len M (zs.take s) ws 0 (by rw [hl1, hw])
  have h4 := Pl.val_take_drop M zs s hs
  have h5 := Pl.subW_len M (zs.drop s) (Pl.subV M (zs.take s) ws 0).2
  have h6 := Pl.val_lt M _ (Pl.subW_lt M M_pos (zs.drop s) (Pl.subV M (zs.take s) ws 0).2)
  have h7 := Pl.val_lt M _ (Pl.subV_lt M M_pos (zs.take s) ws 0)
  rw [h3, hl1] at h7
  rw [hl1] at h1
  rw [h5] at h6
  rw [Pl.val_append, h3, hl1]
  obtain ⟨c, hc⟩ : ∃ c, (Pl.subV M (zs.take s) ws 0).2 = c := ⟨_, rfl⟩
  obtain ⟨A, hA⟩ : ∃ A, Pl.val M (Pl.subV M (zs.take s) ws 0).1 = A := ⟨_, rfl⟩
  rw [hc] at h1 h2 h6 ⊢
  rw [hA] at h1 h7 ⊢
  obtain ⟨D, hD⟩ : ∃ D, Pl.val M (Pl.subW M (zs.drop s) c).1 = D := ⟨_, rfl⟩
  obtain ⟨d, hd⟩ : ∃ D, (Pl.subW M (zs.drop s) c).2 = D := ⟨_, rfl⟩
  rw [hD] at h2 h6 ⊢
  rw [hd] at h2
  have h8 : M ^ s * (D + c) = M ^ s * (Pl.val M (zs.drop s) + M ^ (zs.drop s).length * d) := by rw [h2]
  rw [Nat.mul_add, Nat.mul_add] at h8
  rcases Nat.eq_zero_or_pos d with e | e
  · rw [e, Nat.mul_zero, Nat.mul_zero, Nat.add_zero] at h8; omega
  · exfalso
    have k1 := Nat.mul_le_mul_left (M ^ (zs.drop s).length) e
    rw [Nat.mul_one] at k1
    have k2 : M ^ s * (D + 1) ≤ M ^ s * M ^ (zs.drop s).length := Nat.mul_le_mul_left _ h6
    have k3 : M ^ s * M ^ (zs.drop s).length ≤ M ^ s * (M ^ (zs.drop s).length * d) := Nat.mul_le_mul_left _ k1
    rw [Nat.mul_add, Nat.mul_one] at k2
    omega
set_option maxRecDepth 100000 in
set_option maxHeartbeats 8000000 in
theorem stepFix (bu ou lu cu Nu bv ov g1 a1 N1 lq g3 a3 N3 Lp Lz : Nat) (us vs qw zs : List Nat) (w : World) (ds : List Deferred) {s0 s1 s4 s5 s6 s7 s8 s9 s10 s11 s12 s13 s14 s15 s16 s17 s18 s19 s20 s21 s22 s23 s27 s28 s29 s30 s31 s32 s33 s34 s35 s36 s37 s38 s39 s40 s41 s42 s43 s44 s45 s46 s47 s48 s49 s50 s51 s52 s53 s54 s55 s56 s57 s58 s59 s60 s61 s62 s63 s64 s65 s66 s67 s68 s69 s70 s71 s72 s73 s74 s75 s76 s77 s78 s79 s80 s81 s82 s83 s84 s85 s86 s87 s88 s89 s90 s91 s92 s93 s94 s95 s96 s97 s98 s99 s100 s101 s102 s103 s104 s105 s106 s107 s108 s109 s110 s111 s112 s113 s114 s115 s116 s117 s118 s119 s120 s121 s122 s123 s124 s125 s126 s127 s128 s129 s130 s131 s132 s133 s134 s135 s136 s137 s138 s139 s140 s141 s142 s143 s144 s145 s146 s147 s148 s149 s150 s151 s152 s153 s154 s155 s156 s157 s158 s159 s160 s161 s162 s163 s164 s165 s166 s167 s168 s169 s170 s171 s172 s173 s174 s175 s176 s177 s178 s179 s180 s181 s182 s183 s184 s185 s186 s187 s188 s189 s190 s191 s192 s193 s194 s195 s196 s197 s198 s199 s200 s201 s202 s203 s204 s205 s206 s207 s208 s209 s210 s211 s212 s213 s214 s215 s216 s217 s218 s219 s220 s221 s222 s223 s224 s225 s226 s227 s228 s230 s231 s232 s233 s234 s235 s236 s237 s238 s239 s240 s241 s242 s243 s244 s245 s246 s247 s248 s249 s250 s251 s252 s253 s254 s255 s256 s257 s258 s259 s260 s261 s262 s263 s264 s265 s266 s267 s268 s269 s270 s271 s272 s273 s274 s275 s276 s277 s278 s279 s280 s281 s282 s283 s284 s285 s286 s287 s288 s289 s290 s291 s292 s293 s294 s295 s296 : Value} {K : Act → World → Prop} {Q0 : Exit → Act → World → Prop}
    (hul : us.length = lu) (hvl : vs.length = 64) (hql : qw.length = lq) (hzl : zs.length = Lz) (hu : ∀ d ∈ us, d < M) (hv : ∀ d ∈ vs, d < M) (hq : ∀ d ∈ qw, d < M) (hz : ∀ d ∈ zs, d < M) (hlq : 0 < lq ∧ lq ≤ 33) (hLp : Lp ≤ Lz) (hLz : 31 ≤ Lz ∧ Lz ≤ 192) (hlu : 64 ≤ lu ∧ lu ≤ 400) (hcu : lu ≤ cu)
    (hzz : Pl.val M (zs.drop Lp) = 0)
    (au : WAt w bu ou us) (av : WAt w bv ov vs) (aq : WAt w g1 a1 qw) (az : WAt w g3 a3 zs) (ru : Arr w bu Nu) (r1 : Arr w g1 N1) (r3 : Arr w g3 N3) (fu : ou + lu ≤ Nu) (f1 : a1 + lq ≤ N1) (f3 : a3 + Lz ≤ N3)
    (p1v : g1 ≠ bv ∨ a1 + lq ≤ ov ∨ ov + 64 ≤ a1) (p3v : g3 ≠ bv ∨ a3 + Lz ≤ ov ∨ ov + 64 ≤ a3) (puv : bu ≠ bv ∨ ou + lu ≤ ov ∨ ov + 64 ≤ ou) (p13 : g1 ≠ g3 ∨ a1 + lq ≤ a3 ∨ a3 + Lz ≤ a1) (p1u : g1 ≠ bu ∨ a1 + lq ≤ ou ∨ ou + lu ≤ a1) (p3u : g3 ≠ bu ∨ a3 + Lz ≤ ou ∨ ou + lu ≤ a3)
    (hQ0 : 0 < Pl.val M qw) (hP0 : Pl.val M (vs.take 31) ≤ Pl.val M zs) (hsum : Pl.val M (us.drop 31) + Pl.val M (vs.drop 31) < M ^ (lu - 31))
    (hK : ∀ (qw' zw' us' : List Nat) (wx : World) {v29 v229 v230 v231 v232 v233 v234 v235 v236 v237 v238 v239 v240 v241 v242 v243 v244 v245 v246 v247 v248 v249 v250 v251 v252 v253 v254 v255 v256 v257 v258 v259 v260 v261 : Value}, qw'.length = lq → zw'.length = Lp → us'.length = lu → (∀ d ∈ qw', d < M) → (∀ d ∈ zw', d < M) → (∀ d ∈ us', d < M) → Pl.val M qw' = Pl.val M qw - 1 → Pl.val M zw' = Pl.val M zs - Pl.val M (vs.take 31) → Pl.val M us' = Pl.val M us + M ^ 31 * Pl.val M (vs.drop 31) →
      WAt wx g1 a1 qw' → WAt wx g3 a3 zw' → WAt wx bu ou us' → Chg w wx (FixCh g1 a1 lq g3 a3 Lz bu ou lu) → K ⟨#[s0, s1, .slice (some ⟨bu, ou, none⟩) lu cu, .slice (some ⟨bv, ov, none⟩) 64 64, s4, s5, s6, s7, s8, s9, s10, s11, s12, s13, s14, s15, s16, s17, s18, s19, s20, s21, s22, s23, .int .i64 31, .slice (some ⟨g1, a1, none⟩) lq 33, .slice (some ⟨g3, a3, none⟩) Lp 192, s27, s28, v29, s30, s31, s32, s33, s34, s35, s36, s37, s38, s39, s40, s41, s42, s43, s44, s45, s46, s47, s48, s49, s50, s51, s52, s53, s54, s55, s56, s57, s58, s59, s60, s61, s62, s63, s64, s65, s66, s67, s68, s69, s70, s71, s72, s73, s74, s75, s76, s77, s78, s79, s80, s81, s82, s83, s84, s85, s86, s87, s88, s89, s90, s91, s92, s93, s94, s95, s96, s97, s98, s99, s100, s101, s102, s103, s104, s105, s106, s107, s108, s109, s110, s111, s112, s113, s114, s115, s116, s117, s118, s119, s120, s121, s122, s123, s124, s125, s126, s127, s128, s129, s130, s131, s132, s133, s134, s135, s136, s137, s138, s139, s140, s141, s142, s143, s144, s145, s146, s147, s148, s149, s150, s151, s152, s153, s154, s155, s156, s157, s158, s159, s160, s161, s162, s163, s164, s165, s166, s167, s168, s169, s170, s171, s172, s173, s174, s175, s176, s177, s178, s179, s180, s181, s182, s183, s184, s185, s186, s187, s188, s189, s190, s191, s192, s193, s194, s195, s196, s197, s198, s199, s200, s201, s202, s203, s204, s205, s206, s207, s208, s209, s210, s211, s212, s213, s214, s215, s216, s217, s218, s219, s220, s221, s222, s223, s224, s225, s226, s227, s228, v229, v230, v231, v232, v233, v234, v235, v236, v237, v238, v239, v240, v241, v242, v243, v244, v245, v246, v247, v248, v249, v250, v251, v252, v253, v254, v255, v256, v257, v258, v259, v260, v261, s262, s263, s264, s265, s266, s267, s268, s269, s270, s271, s272, s273, s274, s275, s276, s277, s278, s279, s280, s281, s282, s283, s284, s285, s286, s287, s288, s289, s290, s291, s292, s293, s294, s295, s296], ds⟩ wx) :
    Code.wp Tryz.prog ((Tryz.f275.body.bind (condOf 229)).getD .skip) (Exit.then K Q0) ⟨#[s0, s1, .slice (some ⟨bu, ou, none⟩) lu cu, .slice (some ⟨bv, ov, none⟩) 64 64, s4, s5, s6, s7, s8, s9, s10, s11, s12, s13, s14, s15, s16, s17, s18, s19, s20, s21, s22, s23, .int .i64 31, .slice (some ⟨g1, a1, none⟩) lq 33, .slice (some ⟨g3, a3, none⟩) Lp 192, s27, s28, s29, s30, s31, s32, s33, s34, s35, s36, s37, s38, s39, s40, s41, s42, s43, s44, s45, s46, s47, s48, s49, s50, s51, s52, s53, s54, s55, s56, s57, s58, s59, s60, s61, s62, s63, s64, s65, s66, s67, s68, s69, s70, s71, s72, s73, s74, s75, s76, s77, s78, s79, s80, s81, s82, s83, s84, s85, s86, s87, s88, s89, s90, s91, s92, s93, s94, s95, s96, s97, s98, s99, s100, s101, s102, s103, s104, s105, s106, s107, s108, s109, s110, s111, s112, s113, s114, s115, s116, s117, s118, s119, s120, s121, s122, s123, s124, s125, s126, s127, s128, s129, s130, s131, s132, s133, s134, s135, s136, s137, s138, s139, s140, s141, s142, s143, s144, s145, s146, s147, s148, s149, s150, s151, s152, s153, s154, s155, s156, s157, s158, s159, s160, s161, s162, s163, s164, s165, s166, s167, s168, s169, s170, s171, s172, s173, s174, s175, s176, s177, s178, s179, s180, s181, s182, s183, s184, s185, s186, s187, s188, s189, s190, s191, s192, s193, s194, s195, s196, s197, s198, s199, s200, s201, s202, s203, s204, s205, s206, s207, s208, s209, s210, s211, s212, s213, s214, s215, s216, s217, s218, s219, s220, s221, s222, s223, s224, s225, s226, s227, s228, .bool true, s230, s231, s232, s233, s234, s235, s236, s237, s238, s239, s240, s241, s242, s243, s244, s245, s246, s247, s248, s249, s250, s251, s252, s253, s254, s255, s256, s257, s258, s259, s260, s261, s262, s263, s264, s265, s266, s267, s268, s269, s270, s271, s272, s273, s274, s275, s276, s277, s278, s279, s280, s281, s282, s283, s284, s285, s286, s287, s288, s289, s290, s291, s292, s293, s294, s295, s296], ds⟩ w := by
  conv => arg 2; whnf
  have HK9 := Lib.hid hK
  -- the guess less one
  have hsw := subVW_any g1 a1 N1 lq 1 33 33 qw w r1 f1 hql hlq.1 (by omega) aq hq
  have hsv := Pl.subW_val M (by have := M_pos; omega) qw 1 hq (by have := M_pos; omega)
  have hsl := Pl.subW_len M qw 1
  have hst := Pl.subW_lt M M_pos qw 1
  have hqx := Pl.val_lt M qw hq
  have hqv : Pl.val M (Pl.subW M qw 1).1 = Pl.val M qw - 1 := by
    rcases Nat.eq_zero_or_pos (Pl.subW M qw 1).2 with e | e
    · rw [e, Nat.mul_zero, Nat.add_zero] at hsv; omega
    · have k1 := Nat.mul_le_mul_left (M ^ qw.length) e
      have k2 := Pl.val_lt M _ hst
      rw [hsl] at k2
      omega
  obtain ⟨qw', hqw'⟩ : ∃ l, (Pl.subW M qw 1).1 = l := ⟨_, rfl⟩
  obtain ⟨qc, hqc⟩ : ∃ l, (Pl.subW M qw 1).2 = l := ⟨_, rfl⟩
  rw [hqw', hqc] at hsw
  rw [hqw'] at hsl hst hqv
  rw [hql] at hsl
  have HSW := Lib.hid hsw
  have hvt : (vs.take 31).length = 31 := by rw [List.length_take]; omega
  have hzt : (zs.take 31).length = 31 := by rw [List.length_take]; omega
  have HSV := Lib.hid (fun (W w1 : World) (h1 : Wr w w1 g1 a1 lq) (hb : Below w1.heap.size w1 W) => (by
    have h := subVV_at g3 a3 192 g3 a3 192 bv ov 64 N3 (zs.take 31) (vs.take 31) W (by omega) (by omega) ((h1.arr' r3).below hb) (by omega) ((h1.at (az.take 31) (by omega)).below hb) (Or.inr (Or.inl (Nat.le_refl _))) ((h1.at (av.take 31) (by omega)).below hb) (by omega)
    rw [hzt] at h
    exact h.mono (fun e w' hh => ⟨hh.1, hh.2.1, (Wr.of_below hb g3 a3 31).trans hh.2.2 (Nat.le_refl _) (Nat.le_refl _) (Nat.le_refl _) (Nat.le_refl _)⟩) :
      Calls Tryz.prog 274 #[.slice (some ⟨g3, a3, none⟩) 31 192, .slice (some ⟨g3, a3, none⟩) 31 192, .slice (some ⟨bv, ov, none⟩) 31 64] W fun e w' => e = .returned (.int .u64 (((Pl.subV M (zs.take 31) (vs.take 31) 0).2 : Nat) : Int)) ∧ WAt w' g3 a3 (Pl.subV M (zs.take 31) (vs.take 31) 0).1 ∧ Wr w1 w' g3 a3 31))
  have hTl := Pl.subV_len M (zs.take 31) (vs.take 31) 0 (by omega)
  have hTt := Pl.subV_lt M M_pos (zs.take 31) (vs.take 31) 0
  have hTc := Pl.subV_c M (zs.take 31) (vs.take 31) 0 (by omega)
  have hzvL : Pl.val M (zs.take Lp) = Pl.val M zs := by
    have := Pl.val_take_drop M zs Lp (by omega)
    rw [hzz, Nat.mul_zero, Nat.add_zero] at this
    exact this.symm
  have hall : ∀ d ∈ zs.drop Lp, d = 0 := all_zero_of_val hzz
  have HAD := Lib.hid (fun (W w2 : World) (S : Nat → Nat → Prop) (h2 : Chg w w2 S) (hS : ∀ b off, S b off → (b = g1 ∧ a1 ≤ off ∧ off < a1 + lq) ∨ (b = g3 ∧ a3 ≤ off ∧ off < a3 + Lz)) (hb : Below w2.heap.size w2 W) => (by
    have h := addTo_any bu (ou + 31) Nu (lu - 31) (cu - 31) bv (ov + 31) 33 33 (us.drop 31) (vs.drop 31) W ((h2.arr _ _ ru).below hb) (by omega) (by rw [List.length_drop]; omega) (by omega) (by rw [List.length_drop]; omega) (by omega) (by omega) (by omega)
      ((h2.at (au.drop 31 (by omega)) (fun j hj k => by rw [List.length_drop] at hj; rcases hS _ _ k with k | k <;> omega)).below hb) ((h2.at (av.drop 31 (by omega)) (fun j hj k => by rw [List.length_drop] at hj; rcases hS _ _ k with k | k <;> omega)).below hb)
      (fun d hd => hu d (List.mem_of_mem_drop hd)) (fun d hd => hv d (List.mem_of_mem_drop hd)) (by omega) hsum
    exact h.mono (fun e w' hh => ⟨hh.1, by
      obtain ⟨_, l, k1, k2, k3, k4, k5⟩ := hh
      exact ⟨l, k1, k2, k3, k4, (Wr.of_below hb bu (ou + 31) (lu - 31)).trans k5 (Nat.le_refl _) (Nat.le_refl _) (Nat.le_refl _) (Nat.le_refl _)⟩⟩) :
      Calls Tryz.prog 238 #[.slice (some ⟨bu, ou + 31, none⟩) (lu - 31) (cu - 31), .slice (some ⟨bv, ov + 31, none⟩) 33 33] W fun e w' => e = .returned (.tuple #[]) ∧ ∃ l : List Nat, l.length = lu - 31 ∧ (∀ d ∈ l, d < M) ∧ Pl.val M l = Pl.val M (us.drop 31) + Pl.val M (vs.drop 31) ∧ WAt w' bu (ou + 31) l ∧ Wr w2 w' bu (ou + 31) (lu - 31)))
  -- the end
  have HEND := Lib.hid (fun (w2 w3 : World) (zw' l : List Nat) (h2 : Chg w w2 (fun b off => (b = g1 ∧ a1 ≤ off ∧ off < a1 + lq) ∨ (b = g3 ∧ a3 ≤ off ∧ off < a3 + Lz))) (q2 : WAt w2 g1 a1 qw') (z2 : WAt w2 g3 a3 zw') (hzl2 : zw'.length = Lp) (hzt2 : ∀ d ∈ zw', d < M) (hzv2 : Pl.val M zw' = Pl.val M zs - Pl.val M (vs.take 31))
      (hl : l.length = lu - 31) (hlt : ∀ d ∈ l, d < M) (hlv : Pl.val M l = Pl.val M (us.drop 31) + Pl.val M (vs.drop 31)) (hla : WAt w3 bu (ou + 31) l) (hw3 : Wr w2 w3 bu (ou + 31) (lu - 31)) => (by
    have hut : (us.take 31).length = 31 := by rw [List.length_take]; omega
    have hvv := Pl.val_take_drop M us 31 (by omega)
    have hu2 : WAt w2 bu ou (us.take 31) := h2.at (au.take 31) (fun j hj k => by rw [hut] at hj; rcases k with k | k <;> omega)
    refine ⟨by rw [List.length_append, hut, hl]; omega, fun d hd => ?_, ?_, hw3.at q2 (by omega), hw3.at z2 (by omega), WAt.join (hw3.at hu2 (by omega)) hut hla, ?_⟩
    · rcases List.mem_append.1 hd with hd | hd
      · exact hu d (List.mem_of_mem_take hd)
      · exact hlt d hd
    · rw [Pl.val_append, hut, hlv, Nat.mul_add, hvv]; omega
    · refine h2.trans (Chg.of_wr hw3 (by omega)) (fun b off k => ?_) (fun b off _ k => Or.inr (Or.inr ⟨k.1, by omega, by omega⟩))
      rcases k with k | k
      · exact Or.inl k
      · exact Or.inr (Or.inl k) :
      (us.take 31 ++ l).length = lu ∧ (∀ d ∈ us.take 31 ++ l, d < M) ∧ Pl.val M (us.take 31 ++ l) = Pl.val M us + M ^ 31 * Pl.val M (vs.drop 31) ∧ WAt w3 g1 a1 qw' ∧ WAt w3 g3 a3 zw' ∧ WAt w3 bu ou (us.take 31 ++ l) ∧ Chg w w3 (FixCh g1 a1 lq g3 a3 Lz bu ou lu)))
  obtain ⟨T, hT⟩ : ∃ l, (Pl.subV M (zs.take 31) (vs.take 31) 0).1 = l := ⟨_, rfl⟩
  obtain ⟨tc, htc⟩ : ∃ l, (Pl.subV M (zs.take 31) (vs.take 31) 0).2 = l := ⟨_, rfl⟩
  have hzx := Pl.val_take_drop M zs 31 (by omega)
  rw [hT, htc] at HSV
  rw [hT, hzt] at hTl
  rw [hT] at hTt
  rw [htc] at hTc
  have b1 : (31 : Int) ≤ (lu : Int) := by omega
  have b2 : 31 ≤ lu := by omega
  have b3 : ¬ cu = 31 := by omega
  have HQ := Lib.hid (And.intro hsl (And.intro hst hqv))
  rcases Nat.lt_or_ge 31 Lp with hLL | hLL
  · have hxs : ((zs.drop 31).take (Lp - 31)).length = Lp - 31 := by rw [List.length_take, List.length_drop]; omega
    have hxt : ∀ d ∈ (zs.drop 31).take (Lp - 31), d < M := fun d hd => hz d (List.mem_of_mem_drop (List.mem_of_mem_take hd))
    have e1 : (zs.take Lp).take 31 = zs.take 31 := by rw [List.take_take, Nat.min_eq_left (by omega)]
    have e2 : (zs.take Lp).drop 31 = (zs.drop 31).take (Lp - 31) := by rw [List.drop_take]
    have hval := sub_two (zs := zs.take Lp) (ws := vs.take 31) (s := 31) (by rw [List.length_take]; omega) hvt (fun d hd => hz d (List.mem_of_mem_take hd)) (fun d hd => hv d (List.mem_of_mem_take hd)) (by rw [hzvL]; exact hP0)
    rw [e1, e2, hT, htc, hzvL] at hval
    have HS2 := Lib.hid (fun (w2 : World) (h2 : Chg w w2 (fun b off => (b = g1 ∧ a1 ≤ off ∧ off < a1 + lq) ∨ (b = g3 ∧ a3 ≤ off ∧ off < a3 + 31))) =>
      subVW_any g3 (a3 + 31) N3 (Lp - 31) tc (192 - 31) (192 - 31) ((zs.drop 31).take (Lp - 31)) w2 (h2.arr _ _ r3) (by omega) hxs (by omega) (by omega) (h2.at ((az.drop 31 (by omega)).take (Lp - 31)) (fun j hj k => by rw [hxs] at hj; rcases k with k | k <;> omega)) hxt)
    have hDl := Pl.subW_len M ((zs.drop 31).take (Lp - 31)) tc
    have hDt := Pl.subW_lt M M_pos ((zs.drop 31).take (Lp - 31)) tc
    rw [hxs] at hDl
    obtain ⟨D, hD⟩ : ∃ l, (Pl.subW M ((zs.drop 31).take (Lp - 31)) tc).1 = l := ⟨_, rfl⟩
    obtain ⟨dc, hdc⟩ : ∃ l, (Pl.subW M ((zs.drop 31).take (Lp - 31)) tc).2 = l := ⟨_, rfl⟩
    rw [hD, hdc] at HS2
    rw [hD] at hDl hDt hval
    have b4 : (31 : Int) < (Lp : Int) := by omega
    have b5 : 31 ≤ Lp := by omega
    have b6 : (31 : Int) ≤ (Lp : Int) := by omega
    have HV := Lib.hid (And.intro hTl (And.intro hTt (And.intro hDl (And.intro hDt hval))))
    clear hK hsw hsv hqx hqc hqw' hvt hzt hzvL hall hT htc hzx hTl hTt hDl hDt hval hD hdc e1 e2 hxs hxt hsl hst hqv hzz hu hv hq hz au av aq az ru r1 r3 hsum hP0 hQ0 hul hvl hql hzl
    go_wp2_with fail
    refine HSW.out.mono ?_; rintro e w1 ⟨rfl, q1, k1⟩
    have H1 := Lib.hid (And.intro q1 k1)
    clear q1 k1
    go_wp2_with fail
    refine no_panicQ ?_
    go_region_with (first
      | (go_at_call 274; refine (HSV.out _ w1 H1.out.2 (by first | exact Below.refl _ _ | exact (Below.refl _ _).drew | exact below_drewN (Below.refl _ _) _)).mono ?_; rintro e w2 ⟨rfl, t2, k2⟩))
    have hc2 : Chg w w2 (fun b off => (b = g1 ∧ a1 ≤ off ∧ off < a1 + lq) ∨ (b = g3 ∧ a3 ≤ off ∧ off < a3 + 31)) := (Chg.of_wr H1.out.2 hlq.1).trans (Chg.of_wr k2 (by omega)) (fun _ _ h => Or.inl h) (fun _ _ _ h => Or.inr h)
    have q2 : WAt w2 g1 a1 qw' := k2.at H1.out.1 (by have := HQ.out.1; omega)
    have H2 := Lib.hid (And.intro t2 (And.intro q2 hc2))
    clear t2 k2 hc2 q2
    go_wp2_with fail
    refine no_panicQ ?_
    go_region_with (first
      | (go_at_call 281; refine (HS2.out _ (by first | exact H2.out.2.2 | exact H2.out.2.2.drewN 1)).mono ?_; rintro e w3 ⟨rfl, t3, k3⟩))
    have H3 : Hid (Chg w w3 (fun b off => (b = g1 ∧ a1 ≤ off ∧ off < a1 + lq) ∨ (b = g3 ∧ a3 ≤ off ∧ off < a3 + Lz)) ∧ WAt w3 g1 a1 qw' ∧ WAt w3 g3 a3 (T ++ D)) := by
      refine Lib.hid ⟨(H2.out.2.2.drewN 1).trans (Chg.of_wr k3 (by omega)) (fun b off h => ?_) (fun b off _ h => Or.inr ⟨h.1, by omega, by omega⟩), k3.at (H2.out.2.1.drewN 1) (by have := HQ.out.1; omega), WAt.join (k3.at (H2.out.1.drewN 1) (by have := HV.out.1; omega)) HV.out.1 t3⟩
      rcases h with h | h
      · exact Or.inl h
      · exact Or.inr ⟨h.1, h.2.1, by omega⟩
    clear t3 k3
    go_wp2_with fail
    refine no_panicQ ?_
    go_region_with (first
      | (go_at_call 238; refine (HAD.out _ w3 _ H3.out.1 (fun _ _ h => h) (by first | exact Below.refl _ _ | exact (Below.refl _ _).drew | exact below_drewN (Below.refl _ _) _)).mono ?_; rintro e w4 ⟨rfl, l, l1, l2, l3, l4, l5⟩))
    obtain ⟨v1, v2, v3, v4, v5⟩ := HV.out
    obtain ⟨r1, r2, r3, r4, r5, r6, r7⟩ := HEND.out w3 w4 (T ++ D) l H3.out.1 H3.out.2.1 H3.out.2.2 (by rw [List.length_append, v1, v3]; omega) (fun d hd => by
      rcases List.mem_append.1 hd with hd | hd
      · exact v2 d hd
      · exact v4 d hd) v5 l1 l2 l3 l4 l5
    have H9 := Lib.hid (And.intro r1 (And.intro r2 (And.intro r3 (And.intro r4 (And.intro r5 (And.intro r6 r7))))))
    clear l1 l2 l3 l4 l5 v1 v2 v3 v4 v5 r1 r2 r3 r4 r5 r6 r7
    go_wp2
    exact HK9.out qw' (T ++ D) (us.take 31 ++ l) w4 HQ.out.1 (by rw [List.length_append, HV.out.1, HV.out.2.2.1]; omega) H9.out.1 HQ.out.2.1 (fun d hd => by
      rcases List.mem_append.1 hd with hd | hd
      · exact HV.out.2.1 d hd
      · exact HV.out.2.2.2.1 d hd) H9.out.2.1 HQ.out.2.2 HV.out.2.2.2.2 H9.out.2.2.1 H9.out.2.2.2.1 H9.out.2.2.2.2.1 H9.out.2.2.2.2.2.1 H9.out.2.2.2.2.2.2
  · have hz31 : Pl.val M (zs.drop 31) = 0 := Pl.val_zeros M _ (fun d hd => hall d (by
      rw [show zs.drop 31 = (zs.drop Lp).drop (31 - Lp) from by rw [List.drop_drop]; congr 1; omega] at hd
      exact List.mem_of_mem_drop hd))
    rw [hz31, Nat.mul_zero, Nat.add_zero] at hzx
    have hval := sub_two (zs := zs.take 31) (ws := vs.take 31) (s := 31) (by omega) hvt (fun d hd => hz d (List.mem_of_mem_take hd)) (fun d hd => hv d (List.mem_of_mem_take hd)) (by rw [← hzx]; exact hP0)
    have e1 : (zs.take 31).take 31 = zs.take 31 := by rw [List.take_take, Nat.min_self]
    have e2 : (zs.take 31).drop 31 = [] := List.drop_of_length_le (by omega)
    rw [e1, e2, hT, htc, ← hzx] at hval
    simp only [Pl.subW, List.append_nil] at hval
    have hzlt : Pl.val M zs < M ^ Lp := by
      have := Pl.val_lt M (zs.take Lp) (fun d hd => hz d (List.mem_of_mem_take hd))
      rw [hzvL, List.length_take, Nat.min_eq_left (by omega)] at this
      exact this
    have hTd : Pl.val M (T.drop Lp) = 0 := by
      have k1 := Pl.val_take_drop M T Lp (by omega)
      rcases Nat.eq_zero_or_pos (Pl.val M (T.drop Lp)) with e | e
      · exact e
      · have := Nat.mul_le_mul_left (M ^ Lp) e; omega
    have hTv : Pl.val M (T.take Lp) = Pl.val M zs - Pl.val M (vs.take 31) := by
      have k1 := Pl.val_take_drop M T Lp (by omega)
      rw [hTd, Nat.mul_zero, Nat.add_zero] at k1
      omega
    have b4 : ¬ (31 : Int) < (Lp : Int) := by omega
    have HV := Lib.hid (And.intro hTl (And.intro hTt hTv))
    clear hK hsw hsv hqx hqc hqw' hvt hzt hzvL hall hT htc hzx hTl hTt hval e1 e2 hsl hst hqv hzz hu hv hq hz au av aq az ru r1 r3 hsum hP0 hQ0 hul hvl hql hzl hz31 hzlt hTd hTv
    go_wp2_with fail
    refine HSW.out.mono ?_; rintro e w1 ⟨rfl, q1, k1⟩
    have H1 := Lib.hid (And.intro q1 k1)
    clear q1 k1
    go_wp2_with fail
    refine no_panicQ ?_
    go_region_with (first
      | (go_at_call 274; refine (HSV.out _ w1 H1.out.2 (by first | exact Below.refl _ _ | exact (Below.refl _ _).drew | exact below_drewN (Below.refl _ _) _)).mono ?_; rintro e w2 ⟨rfl, t2, k2⟩))
    have H3 : Hid (Chg w w2 (fun b off => (b = g1 ∧ a1 ≤ off ∧ off < a1 + lq) ∨ (b = g3 ∧ a3 ≤ off ∧ off < a3 + Lz)) ∧ WAt w2 g1 a1 qw' ∧ WAt w2 g3 a3 (T.take Lp)) := 
      Lib.hid ⟨(Chg.of_wr H1.out.2 hlq.1).trans (Chg.of_wr k2 (by omega)) (fun _ _ h => Or.inl h) (fun b off _ h => Or.inr ⟨h.1, h.2.1, by omega⟩), k2.at H1.out.1 (by have := HQ.out.1; omega), t2.take Lp⟩
    clear t2 k2
    go_wp2_with fail
    refine no_panicQ ?_
    go_region_with (first
      | (go_at_call 238; refine (HAD.out _ w2 _ H3.out.1 (fun _ _ h => h) (by first | exact Below.refl _ _ | exact (Below.refl _ _).drew | exact below_drewN (Below.refl _ _) _)).mono ?_; rintro e w4 ⟨rfl, l, l1, l2, l3, l4, l5⟩))
    obtain ⟨v1, v2, v5⟩ := HV.out
    obtain ⟨r1, r2, r3, r4, r5, r6, r7⟩ := HEND.out w2 w4 (T.take Lp) l H3.out.1 H3.out.2.1 H3.out.2.2 (by rw [List.length_take]; omega) (fun d hd => v2 d (List.mem_of_mem_take hd)) v5 l1 l2 l3 l4 l5
    have H9 := Lib.hid (And.intro r1 (And.intro r2 (And.intro r3 (And.intro r4 (And.intro r5 (And.intro r6 r7))))))
    clear l1 l2 l3 l4 l5 v1 v2 v5 r1 r2 r3 r4 r5 r6 r7
    go_wp2
    exact HK9.out qw' (T.take Lp) (us.take 31 ++ l) w4 HQ.out.1 (by rw [List.length_take, HV.out.1]; omega) H9.out.1 HQ.out.2.1 (fun d hd => HV.out.2.1 d (List.mem_of_mem_take hd)) H9.out.2.1 HQ.out.2.2 HV.out.2.2 H9.out.2.2.1 H9.out.2.2.2.1 H9.out.2.2.2.2.1 H9.out.2.2.2.2.2.1 H9.out.2.2.2.2.2.2
end Go.Proofs.YtgfkdjmoflbmdaaGreatDoor
