import Derived.Test.YbulkebxyDoorRowsLib
import Derived.Deep.CutRange
import Derived.Test.YbulkebxyDoorRound
namespace Go.Proofs.YbulkebxyDoor
open Go.ChangeShapes Go.WideShapes Go.ChangeAt Go.RowKit
set_option linter.unusedVariables false
set_option linter.unusedSimpArgs false

set_option maxRecDepth 100000 in
set_option maxHeartbeats 40000000 in
theorem round3_no_pos {s0 s2 s3 s5 s6 s7 s8 s9 s10 s12 s20 s21 s22 s23 s24 s25 s26 s27 s28 s29 s30 s31 s32 s33 s34 s35 s36 s37 s38 s39 s40 s41 s42 s43 s44 s45 s46 s47 s48 s49 s50 s51 s52 s53 s54 s55 s56 s57 s58 s59 s60 s61 s62 s63 s64 s65 s66 s67 s68 s69 s70 s71 s72 s73 s74 s75 s76 s77 s78 s79 s80 s81 s82 s83 s84 s85 s86 s87 s88 s89 s90 s91 s92 s93 s94 s95 s96 s97 s98 s99 s100 s101 s102 s103 s104 s105 s106 s107 s108 s109 s110 s111 s112 s113 s114 s115 s116 s117 s118 s119 s120 s121 s122 s123 s124 s125 s126 s127 s128 s129 s130 s131 s132 s133 s134 s135 s136 s137 s138 s139 s140 s141 s142 s143 s144 s145 s146 s147 s148 s149 v4 v14 v15 v16 v17 v18 v19 v152 v153 v154 v155 v156 v157 v158 v159 v160 v161 v162 v163 v164 v165 v166 v167 v168 v169 v170 v171 v172 v173 v174 v175 v176 v177 v178 v179 v180 v181 v182 v183 v184 v185 v186 v187 v188 v189 v190 v191 v192 v193 v194 v195 v196 v197 v198 v199 v200 v201 v202 v203 v204 v205 v206 v207 v208 v209 v210 v211 v212 v213 v214 v215 v216 v217 v218 v219 v220 v221 v222 v223 v224 v225 v226 v227 v228 v229 v230 v231 v232 v233 v234 v235 v236 v237 v238 v239 v240 v241 v242 v243 v244 v245 v246 v247 v248 v249 v250 v251 v252 v253 v254 v255 v256 v257 v258 v259 v260 v261 v262 v263 v264 v265 v266 v267 v268 v269 v270 v271 v272 v273 v274 v275 v276 v277 v278 v279 v280 v281 v282 v283 v284 v285 v286 v287 v288 v289 v290 v291 v292 v293 v294 v295 v296 v297 v298 v299 v300 v301 v302 v303 v304 v305 v306 v307 v308 v309 v310 v311 v312 v313 v314 v315 v316 v317 v318 v319 v320 v321 v322 v323 v324 v325 v326 v327 v328 v329 v330 v331 v332 v333 v334 v335 v336 v337 v338 v339 v340 v341 v342 v343 v344 v345 v346 v347 v348 v349 v350 v351 v352 v353 v354 v355 v356 v357 v358 v359 v360 v361 v362 v363 v364 v365 v366 v367 v368 v369 v370 v371 v372 v373 v374 v375 v376 : Value} (b o n c I g cap k be B : Nat) (r : DsRow) (wr : World) (hlt : k < n) (hn : n ≤ 65536) (hok : r.ok) (hk0 : r.noKey) (HR : Hid (wr.rangeAt b (o + k * 8) (rowCells r))) (HEL2 : Hid (DsEl (fun x => x < B) wr be r)) (hbz : B ≤ wr.heap.size)
    (he3 : wr.cell? ⟨g, 1 + k, none⟩ = some (.pointer (some ⟨be, 0, none⟩))) (z3 : wr.cell? ⟨I, 3, none⟩ = some (.slice (some ⟨g, 0, none⟩) (1 + n) cap)) :
    Code.wp Ybad.prog body3 (Exit.then (fun a' w' => Post3 s0 s2 s3 s5 s6 s7 s8 s9 s10 s12 s20 s21 s22 s23 s24 s25 s26 s27 s28 s29 s30 s31 s32 s33 s34 s35 s36 s37 s38 s39 s40 s41 s42 s43 s44 s45 s46 s47 s48 s49 s50 s51 s52 s53 s54 s55 s56 s57 s58 s59 s60 s61 s62 s63 s64 s65 s66 s67 s68 s69 s70 s71 s72 s73 s74 s75 s76 s77 s78 s79 s80 s81 s82 s83 s84 s85 s86 s87 s88 s89 s90 s91 s92 s93 s94 s95 s96 s97 s98 s99 s100 s101 s102 s103 s104 s105 s106 s107 s108 s109 s110 s111 s112 s113 s114 s115 s116 s117 s118 s119 s120 s121 s122 s123 s124 s125 s126 s127 s128 s129 s130 s131 s132 s133 s134 s135 s136 s137 s138 s139 s140 s141 s142 s143 s144 s145 s146 s147 s148 s149 b o n c I 1 ((k : Int) + 1) a' ∧ Below wr.heap.size wr w') (fun _ _ _ => False)) ⟨#[s0, .slice (some ⟨b, o, none⟩) n c, s2, s3, v4, s5, s6, s7, s8, s9, s10, .pointer (some ⟨I, 0, none⟩), s12, .int .i64 1, v14, v15, v16, v17, v18, v19, s20, s21, s22, s23, s24, s25, s26, s27, s28, s29, s30, s31, s32, s33, s34, s35, s36, s37, s38, s39, s40, s41, s42, s43, s44, s45, s46, s47, s48, s49, s50, s51, s52, s53, s54, s55, s56, s57, s58, s59, s60, s61, s62, s63, s64, s65, s66, s67, s68, s69, s70, s71, s72, s73, s74, s75, s76, s77, s78, s79, s80, s81, s82, s83, s84, s85, s86, s87, s88, s89, s90, s91, s92, s93, s94, s95, s96, s97, s98, s99, s100, s101, s102, s103, s104, s105, s106, s107, s108, s109, s110, s111, s112, s113, s114, s115, s116, s117, s118, s119, s120, s121, s122, s123, s124, s125, s126, s127, s128, s129, s130, s131, s132, s133, s134, s135, s136, s137, s138, s139, s140, s141, s142, s143, s144, s145, s146, s147, s148, s149, .int .i64 n, .int .i64 k, v152, v153, v154, v155, v156, v157, v158, v159, v160, v161, v162, v163, v164, v165, v166, v167, v168, v169, v170, v171, v172, v173, v174, v175, v176, v177, v178, v179, v180, v181, v182, v183, v184, v185, v186, v187, v188, v189, v190, v191, v192, v193, v194, v195, v196, v197, v198, v199, v200, v201, v202, v203, v204, v205, v206, v207, v208, v209, v210, v211, v212, v213, v214, v215, v216, v217, v218, v219, v220, v221, v222, v223, v224, v225, v226, v227, v228, v229, v230, v231, v232, v233, v234, v235, v236, v237, v238, v239, v240, v241, v242, v243, v244, v245, v246, v247, v248, v249, v250, v251, v252, v253, v254, v255, v256, v257, v258, v259, v260, v261, v262, v263, v264, v265, v266, v267, v268, v269, v270, v271, v272, v273, v274, v275, v276, v277, v278, v279, v280, v281, v282, v283, v284, v285, v286, v287, v288, v289, v290, v291, v292, v293, v294, v295, v296, v297, v298, v299, v300, v301, v302, v303, v304, v305, v306, v307, v308, v309, v310, v311, v312, v313, v314, v315, v316, v317, v318, v319, v320, v321, v322, v323, v324, v325, v326, v327, v328, v329, v330, v331, v332, v333, v334, v335, v336, v337, v338, v339, v340, v341, v342, v343, v344, v345, v346, v347, v348, v349, v350, v351, v352, v353, v354, v355, v356, v357, v358, v359, v360, v361, v362, v363, v364, v365, v366, v367, v368, v369, v370, v371, v372, v373, v374, v375, v376], []⟩ wr := by
  conv => arg 2; whnf
  have hp46 := p46
  have hp22 := p22
  obtain ⟨⟨k0, k1⟩, ⟨a0, a1⟩, ⟨t0, t1⟩, ⟨f0, f1⟩, ⟨p0, p1⟩, ⟨l0, l1⟩⟩ := hok
  obtain ⟨pb, m0, m1, m2, m4, cb, nc, ccap, pcb, m3, ⟨b0, pb0, j0, x0⟩, ⟨b1, pb1, j1, x1⟩, ⟨b2, pb2, j2, x2⟩, ⟨b3, pb3, j3, x3⟩, hkey⟩ := HEL2.out
  have X0 : Hid (Txt wr b0 ⟨#[107, 101, 121, 84, 97, 103]⟩ ⟨(Lib.decDigits r.kt.toNat).toArray⟩) := x0
  have X1 : Hid (Txt wr b1 ⟨#[97, 108, 103]⟩ ⟨(Lib.decDigits r.alg.toNat).toArray⟩) := x1
  have X2 : Hid (Txt wr b2 ⟨#[100, 105, 103, 101, 115, 116, 84, 121, 112, 101]⟩ ⟨(Lib.decDigits r.dt.toNat).toArray⟩) := x2
  have X3 : Hid (Txt wr b3 ⟨#[100, 105, 103, 101, 115, 116]⟩ r.dg) := x3
  clear x0 x1 x2 x3 HEL2
  have i1 : (k : Int) < n := by omega
  have pbw : be < wr.heap.size := by omega
  have pcw : cb < wr.heap.size := by omega
  have pgw : g < wr.heap.size := World.block_lt_of_cell? wr _ he3
  have piw : I < wr.heap.size := World.block_lt_of_cell? wr _ z3
  have hnc : nc = 4 := by rcases hkey with h | h; exact h.2; exact absurd hk0 h.1
  subst hnc
  obtain ⟨u1, u2, u3, u4⟩ := hk0
  clear hkey
  have HR' : Hid (wr.rangeAt b (o + k * 8) [.int .u16 r.kt, .int .u8 r.alg, .int .u8 r.dt, .string r.dg, .int .u16 0, .int .u8 0, .int .u8 0, .string ⟨#[]⟩]) := by
    have := HR.out
    unfold rowCells at this
    rw [u1, u2, u3, u4] at this
    exact this
  clear HR u1 u2 u3 u4
  go_upto_region 48 with ((with_reducible apply wpList_load_mid (ty := 26) (x := .tmp 156) (cs := [.int .u16 r.kt, .int .u8 r.alg, .int .u8 r.dt, .string r.dg, .int .u16 0, .int .u8 0, .int .u8 0, .string ⟨#[]⟩]) (hu := Ybad.underlying26)); rfl; rfl; rfl; exact HR'.out; rfl; exact size26)
  have hw1 : IntKind.u64.wrap r.kt = r.kt := wrap_u64 k0 (by omega)
  have hw2 : IntKind.u64.wrap r.alg = r.alg := wrap_u64 a0 (by omega)
  have hw3 : IntKind.u64.wrap r.dt = r.dt := wrap_u64 t0 (by omega)
  go_region_held3 (fun w' => Below wr.heap.size wr w' ∧ w'.cell? ⟨be, 3, none⟩ = some (.slice (some ⟨cb, 0, none⟩) 4 ccap) ∧ w'.cell? ⟨cb, 0, none⟩ = some (.pointer (some ⟨b0, 0, none⟩)) ∧ w'.cell? ⟨cb, 1, none⟩ = some (.pointer (some ⟨b1, 0, none⟩)) ∧ w'.cell? ⟨cb, 2, none⟩ = some (.pointer (some ⟨b2, 0, none⟩)) ∧ w'.cell? ⟨cb, 3, none⟩ = some (.pointer (some ⟨b3, 0, none⟩)) ∧ w'.cell? ⟨wr.heap.size, 0, none⟩ = some (.int .u16 r.kt) ∧ w'.cell? ⟨wr.heap.size, 1, none⟩ = some (.int .u8 r.alg) ∧ w'.cell? ⟨wr.heap.size, 2, none⟩ = some (.int .u8 r.dt) ∧ w'.cell? ⟨wr.heap.size, 3, none⟩ = some (.string r.dg)) (first | assumption | exact s48_start _ _ _ _ _ m3 j0 j1 j2 j3 | exact s48_below (by assumption) (by assumption)) (first | (go_at_call 6; refine (citoa_int _ _ (by omega) (by omega)).mono ?_; rintro e w' ⟨rfl, hb⟩) | (go_at_call 5; (with_reducible refine (ctext_any b0 _ _ _ (X0.out.below (And.left (by assumption)))).mono ?_); rintro e w' ⟨rfl, rfl⟩) | (go_at_call 5; (with_reducible refine (ctext_any b1 _ _ _ (X1.out.below (And.left (by assumption)))).mono ?_); rintro e w' ⟨rfl, rfl⟩) | (go_at_call 5; (with_reducible refine (ctext_any b2 _ _ _ (X2.out.below (And.left (by assumption)))).mono ?_); rintro e w' ⟨rfl, rfl⟩) | (go_at_call 5; (with_reducible refine (ctext_any b3 _ _ _ (X3.out.below (And.left (by assumption)))).mono ?_); rintro e w' ⟨rfl, rfl⟩))
  rename_i hHeld
  obtain ⟨V, rfl⟩ : ∃ V, V = w' := ⟨_, rfl⟩
  have hbV : Below wr.heap.size wr V := hHeld.1
  clear hHeld hb hw1 hw2 hw3 HR'
  go_wp2_with fail
  show Post3 s0 s2 s3 s5 s6 s7 s8 s9 s10 s12 s20 s21 s22 s23 s24 s25 s26 s27 s28 s29 s30 s31 s32 s33 s34 s35 s36 s37 s38 s39 s40 s41 s42 s43 s44 s45 s46 s47 s48 s49 s50 s51 s52 s53 s54 s55 s56 s57 s58 s59 s60 s61 s62 s63 s64 s65 s66 s67 s68 s69 s70 s71 s72 s73 s74 s75 s76 s77 s78 s79 s80 s81 s82 s83 s84 s85 s86 s87 s88 s89 s90 s91 s92 s93 s94 s95 s96 s97 s98 s99 s100 s101 s102 s103 s104 s105 s106 s107 s108 s109 s110 s111 s112 s113 s114 s115 s116 s117 s118 s119 s120 s121 s122 s123 s124 s125 s126 s127 s128 s129 s130 s131 s132 s133 s134 s135 s136 s137 s138 s139 s140 s141 s142 s143 s144 s145 s146 s147 s148 s149 b o n c I 1 ((k : Int) + 1) _ ∧ _
  refine ⟨?_, hbV⟩
  unfold Post3
  exact ⟨_, _, _, _, _, _, _, _, _, _, _, _, _, _, _, _, _, _, _, _, _, _, _, _, _, _, _, _, _, _, _, _, _, _, _, _, _, _, _, _, _, _, _, _, _, _, _, _, _, _, _, _, _, _, _, _, _, _, _, _, _, _, _, _, _, _, _, _, _, _, _, _, _, _, _, _, _, _, _, _, _, _, _, _, _, _, _, _, _, _, _, _, _, _, _, _, _, _, _, _, _, _, _, _, _, _, _, _, _, _, _, _, _, _, _, _, _, _, _, _, _, _, _, _, _, _, _, _, _, _, _, _, _, _, _, _, _, _, _, _, _, _, _, _, _, _, _, _, _, _, _, _, _, _, _, _, _, _, _, _, _, _, _, _, _, _, _, _, _, _, _, _, _, _, _, _, _, _, _, _, _, _, _, _, _, _, _, _, _, _, _, _, _, _, _, _, _, _, _, _, _, _, _, _, _, _, _, _, _, _, _, _, _, _, _, _, _, _, _, _, _, _, _, _, _, _, _, _, _, _, _, _, rfl⟩
end Go.Proofs.YbulkebxyDoor
