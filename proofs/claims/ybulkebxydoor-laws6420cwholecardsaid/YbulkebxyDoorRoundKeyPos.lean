import Derived.Test.YbulkebxyDoorRowsLib
import Derived.Deep.CutRange
import Derived.Test.YbulkebxyDoorRound
namespace Go.Proofs.YbulkebxyDoor
open Go.ChangeShapes Go.WideShapes Go.ChangeAt Go.RowKit
set_option linter.unusedVariables false
set_option linter.unusedSimpArgs false

theorem pk_full_round3_key_pos {s : ByteArray} (h : ¬ s = ⟨#[]⟩) : (Value.bool !s.toList.isEmpty) = .bool true := by
  cases hs : s.toList.isEmpty with
  | false => rfl
  | true => exact absurd (ba_nil (List.isEmpty_iff.1 hs)) h

set_option maxRecDepth 100000 in
set_option maxHeartbeats 40000000 in
theorem round3_key_pos {s0 s2 s3 s5 s6 s7 s8 s9 s10 s12 s20 s21 s22 s23 s24 s25 s26 s27 s28 s29 s30 s31 s32 s33 s34 s35 s36 s37 s38 s39 s40 s41 s42 s43 s44 s45 s46 s47 s48 s49 s50 s51 s52 s53 s54 s55 s56 s57 s58 s59 s60 s61 s62 s63 s64 s65 s66 s67 s68 s69 s70 s71 s72 s73 s74 s75 s76 s77 s78 s79 s80 s81 s82 s83 s84 s85 s86 s87 s88 s89 s90 s91 s92 s93 s94 s95 s96 s97 s98 s99 s100 s101 s102 s103 s104 s105 s106 s107 s108 s109 s110 s111 s112 s113 s114 s115 s116 s117 s118 s119 s120 s121 s122 s123 s124 s125 s126 s127 s128 s129 s130 s131 s132 s133 s134 s135 s136 s137 s138 s139 s140 s141 s142 s143 s144 s145 s146 s147 s148 s149 v4 v14 v15 v16 v17 v18 v19 v152 v153 v154 v155 v156 v157 v158 v159 v160 v161 v162 v163 v164 v165 v166 v167 v168 v169 v170 v171 v172 v173 v174 v175 v176 v177 v178 v179 v180 v181 v182 v183 v184 v185 v186 v187 v188 v189 v190 v191 v192 v193 v194 v195 v196 v197 v198 v199 v200 v201 v202 v203 v204 v205 v206 v207 v208 v209 v210 v211 v212 v213 v214 v215 v216 v217 v218 v219 v220 v221 v222 v223 v224 v225 v226 v227 v228 v229 v230 v231 v232 v233 v234 v235 v236 v237 v238 v239 v240 v241 v242 v243 v244 v245 v246 v247 v248 v249 v250 v251 v252 v253 v254 v255 v256 v257 v258 v259 v260 v261 v262 v263 v264 v265 v266 v267 v268 v269 v270 v271 v272 v273 v274 v275 v276 v277 v278 v279 v280 v281 v282 v283 v284 v285 v286 v287 v288 v289 v290 v291 v292 v293 v294 v295 v296 v297 v298 v299 v300 v301 v302 v303 v304 v305 v306 v307 v308 v309 v310 v311 v312 v313 v314 v315 v316 v317 v318 v319 v320 v321 v322 v323 v324 v325 v326 v327 v328 v329 v330 v331 v332 v333 v334 v335 v336 v337 v338 v339 v340 v341 v342 v343 v344 v345 v346 v347 v348 v349 v350 v351 v352 v353 v354 v355 v356 v357 v358 v359 v360 v361 v362 v363 v364 v365 v366 v367 v368 v369 v370 v371 v372 v373 v374 v375 v376 : Value} (b o n c I g cap k be B : Nat) (r : DsRow) (wr : World) (hlt : k < n) (hn : n ≤ 65536) (hok : r.ok) (hk0 : ¬ r.noKey) (HR : Hid (wr.rangeAt b (o + k * 8) (rowCells r))) (HEL2 : Hid (DsEl (fun x => x < B) wr be r)) (hbz : B ≤ wr.heap.size)
    (he3 : wr.cell? ⟨g, 1 + k, none⟩ = some (.pointer (some ⟨be, 0, none⟩))) (z3 : wr.cell? ⟨I, 3, none⟩ = some (.slice (some ⟨g, 0, none⟩) (1 + n) cap)) :
    Code.wp Ybad.prog body3 (Exit.then (fun a' w' => Post3 s0 s2 s3 s5 s6 s7 s8 s9 s10 s12 s20 s21 s22 s23 s24 s25 s26 s27 s28 s29 s30 s31 s32 s33 s34 s35 s36 s37 s38 s39 s40 s41 s42 s43 s44 s45 s46 s47 s48 s49 s50 s51 s52 s53 s54 s55 s56 s57 s58 s59 s60 s61 s62 s63 s64 s65 s66 s67 s68 s69 s70 s71 s72 s73 s74 s75 s76 s77 s78 s79 s80 s81 s82 s83 s84 s85 s86 s87 s88 s89 s90 s91 s92 s93 s94 s95 s96 s97 s98 s99 s100 s101 s102 s103 s104 s105 s106 s107 s108 s109 s110 s111 s112 s113 s114 s115 s116 s117 s118 s119 s120 s121 s122 s123 s124 s125 s126 s127 s128 s129 s130 s131 s132 s133 s134 s135 s136 s137 s138 s139 s140 s141 s142 s143 s144 s145 s146 s147 s148 s149 b o n c I 1 ((k : Int) + 1) a' ∧ Below wr.heap.size wr w') (fun _ _ _ => False)) ⟨#[s0, .slice (some ⟨b, o, none⟩) n c, s2, s3, v4, s5, s6, s7, s8, s9, s10, .pointer (some ⟨I, 0, none⟩), s12, .int .i64 1, v14, v15, v16, v17, v18, v19, s20, s21, s22, s23, s24, s25, s26, s27, s28, s29, s30, s31, s32, s33, s34, s35, s36, s37, s38, s39, s40, s41, s42, s43, s44, s45, s46, s47, s48, s49, s50, s51, s52, s53, s54, s55, s56, s57, s58, s59, s60, s61, s62, s63, s64, s65, s66, s67, s68, s69, s70, s71, s72, s73, s74, s75, s76, s77, s78, s79, s80, s81, s82, s83, s84, s85, s86, s87, s88, s89, s90, s91, s92, s93, s94, s95, s96, s97, s98, s99, s100, s101, s102, s103, s104, s105, s106, s107, s108, s109, s110, s111, s112, s113, s114, s115, s116, s117, s118, s119, s120, s121, s122, s123, s124, s125, s126, s127, s128, s129, s130, s131, s132, s133, s134, s135, s136, s137, s138, s139, s140, s141, s142, s143, s144, s145, s146, s147, s148, s149, .int .i64 n, .int .i64 k, v152, v153, v154, v155, v156, v157, v158, v159, v160, v161, v162, v163, v164, v165, v166, v167, v168, v169, v170, v171, v172, v173, v174, v175, v176, v177, v178, v179, v180, v181, v182, v183, v184, v185, v186, v187, v188, v189, v190, v191, v192, v193, v194, v195, v196, v197, v198, v199, v200, v201, v202, v203, v204, v205, v206, v207, v208, v209, v210, v211, v212, v213, v214, v215, v216, v217, v218, v219, v220, v221, v222, v223, v224, v225, v226, v227, v228, v229, v230, v231, v232, v233, v234, v235, v236, v237, v238, v239, v240, v241, v242, v243, v244, v245, v246, v247, v248, v249, v250, v251, v252, v253, v254, v255, v256, v257, v258, v259, v260, v261, v262, v263, v264, v265, v266, v267, v268, v269, v270, v271, v272, v273, v274, v275, v276, v277, v278, v279, v280, v281, v282, v283, v284, v285, v286, v287, v288, v289, v290, v291, v292, v293, v294, v295, v296, v297, v298, v299, v300, v301, v302, v303, v304, v305, v306, v307, v308, v309, v310, v311, v312, v313, v314, v315, v316, v317, v318, v319, v320, v321, v322, v323, v324, v325, v326, v327, v328, v329, v330, v331, v332, v333, v334, v335, v336, v337, v338, v339, v340, v341, v342, v343, v344, v345, v346, v347, v348, v349, v350, v351, v352, v353, v354, v355, v356, v357, v358, v359, v360, v361, v362, v363, v364, v365, v366, v367, v368, v369, v370, v371, v372, v373, v374, v375, v376], []⟩ wr := by
  conv => arg 2; whnf
  have hp46 := p46
  have hp22 := p22
  obtain ⟨⟨k0, k1⟩, ⟨a0, a1⟩, ⟨t0, t1⟩, ⟨f0, f1⟩, ⟨p0, p1⟩, ⟨l0, l1⟩⟩ := hok
  obtain ⟨pb, m0, m1, m2, m4, cb, nc, ccap, pcb, m3, ⟨b0, pb0, j0, x0⟩, ⟨b1, pb1, j1, x1⟩, ⟨b2, pb2, j2, x2⟩, ⟨b3, pb3, j3, x3⟩, hkey⟩ := HEL2.out
  have X0 : Hid (Txt wr b0 ⟨#[107, 101, 121, 84, 97, 103]⟩ ⟨(Lib.decDigits r.kt.toNat).toArray⟩) := x0
  have X1 : Hid (Txt wr b1 ⟨#[97, 108, 103]⟩ ⟨(Lib.decDigits r.alg.toNat).toArray⟩) := x1
  have X2 : Hid (Txt wr b2 ⟨#[100, 105, 103, 101, 115, 116, 84, 121, 112, 101]⟩ ⟨(Lib.decDigits r.dt.toNat).toArray⟩) := x2
  have X3 : Hid (Txt wr b3 ⟨#[100, 105, 103, 101, 115, 116]⟩ r.dg) := x3
  clear x0 x1 x2 x3 HEL2
  have i1 : (k : Int) < n := by omega
  have pbw : be < wr.heap.size := by omega
  have pcw : cb < wr.heap.size := by omega
  have pgw : g < wr.heap.size := World.block_lt_of_cell? wr _ he3
  have piw : I < wr.heap.size := World.block_lt_of_cell? wr _ z3
  obtain ⟨_, hnc, bk, jk, pbk, n0, n1, n2, n4, kb, kcap, pkb, n3, ⟨d0, pd0, g0, y0⟩, ⟨d1, pd1, g1, y1⟩, ⟨d2, pd2, g2, y2⟩, ⟨d3, pd3, g3, y3⟩⟩ := hkey.resolve_left (fun h => hk0 h.1)
  subst hnc
  have Y0 : Hid (Txt wr d0 ⟨#[102, 108, 97, 103, 115]⟩ ⟨(Lib.decDigits r.fl.toNat).toArray⟩) := y0
  have Y1 : Hid (Txt wr d1 ⟨#[112, 114, 111, 116, 111, 99, 111, 108]⟩ ⟨(Lib.decDigits r.pr.toNat).toArray⟩) := y1
  have Y2 : Hid (Txt wr d2 ⟨#[97, 108, 103]⟩ ⟨(Lib.decDigits r.ka.toNat).toArray⟩) := y2
  have Y3 : Hid (Txt wr d3 ⟨#[112, 117, 98, 75, 101, 121]⟩ r.pk) := y3
  have HK0 : Hid (¬ r.noKey) := hk0
  clear y0 y1 y2 y3 hkey hk0
  go_upto_region 42 with ((with_reducible apply wpList_load_mid (ty := 26) (x := .tmp 156) (cs := [.int .u16 r.kt, .int .u8 r.alg, .int .u8 r.dt, .string r.dg, .int .u16 r.fl, .int .u8 r.pr, .int .u8 r.ka, .string r.pk]) (hu := Ybad.underlying26)); rfl; rfl; rfl; exact HR.out; rfl; exact size26)
  go_cut [17, 157] from 199 to 216 (fun v _ wx => v = .bool true ∧ Below wr.heap.size wr wx ∧ wx.rangeAt wr.heap.size 0 [.int .u16 r.kt, .int .u8 r.alg, .int .u8 r.dt, .string r.dg, .int .u16 r.fl, .int .u8 r.pr, .int .u8 r.ka, .string r.pk])
  case first =>
    by_cases hu1 : r.fl = 0
    · by_cases hu2 : r.pr = 0
      · by_cases hu3 : r.ka = 0
        · have hu4 : ¬ r.pk = ⟨#[]⟩ := fun h => HK0.out ⟨hu1, hu2, hu3, h⟩
          go_wp2_with fail
          go_meet
          case rel => rw [hu1, hu2, hu3]; exact ⟨pk_full_round3_key_pos hu4, (Below.refl _ _).alloc (Nat.le_refl _) _, range_all wr [.int .u16 r.kt, .int .u8 r.alg, .int .u8 r.dt, .string r.dg, .int .u16 0, .int .u8 0, .int .u8 0, .string r.pk] 26⟩
        · go_wp2_with fail
          go_meet
          case rel => rw [hu1, hu2]; exact ⟨rfl, (Below.refl _ _).alloc (Nat.le_refl _) _, range_all wr [.int .u16 r.kt, .int .u8 r.alg, .int .u8 r.dt, .string r.dg, .int .u16 0, .int .u8 0, .int .u8 r.ka, .string r.pk] 26⟩
      · go_wp2_with fail
        go_meet
        case rel => rw [hu1]; exact ⟨rfl, (Below.refl _ _).alloc (Nat.le_refl _) _, range_all wr [.int .u16 r.kt, .int .u8 r.alg, .int .u8 r.dt, .string r.dg, .int .u16 0, .int .u8 r.pr, .int .u8 r.ka, .string r.pk] 26⟩
    · go_wp2_with fail
      go_meet
      case rel => exact ⟨rfl, (Below.refl _ _).alloc (Nat.le_refl _) _, range_all wr [.int .u16 r.kt, .int .u8 r.alg, .int .u8 r.dt, .string r.dg, .int .u16 r.fl, .int .u8 r.pr, .int .u8 r.ka, .string r.pk] 26⟩
  case rest =>
    obtain ⟨rfl, hbc, hrc⟩ := hcut
    obtain ⟨X, rfl⟩ : ∃ X, X = wc := ⟨_, rfl⟩
    have Mm3 := (hbc.cell (World.block_lt_of_cell? _ _ m3)).trans m3
    have Mj0 := (hbc.cell (World.block_lt_of_cell? _ _ j0)).trans j0
    have Mj1 := (hbc.cell (World.block_lt_of_cell? _ _ j1)).trans j1
    have Mj2 := (hbc.cell (World.block_lt_of_cell? _ _ j2)).trans j2
    have Mj3 := (hbc.cell (World.block_lt_of_cell? _ _ j3)).trans j3
    have Mjk := (hbc.cell (World.block_lt_of_cell? _ _ jk)).trans jk
    have Mn0 := (hbc.cell (World.block_lt_of_cell? _ _ n0)).trans n0
    have Mn1 := (hbc.cell (World.block_lt_of_cell? _ _ n1)).trans n1
    have Mn2 := (hbc.cell (World.block_lt_of_cell? _ _ n2)).trans n2
    have Mn4 := (hbc.cell (World.block_lt_of_cell? _ _ n4)).trans n4
    have Mn3 := (hbc.cell (World.block_lt_of_cell? _ _ n3)).trans n3
    have Mg0 := (hbc.cell (World.block_lt_of_cell? _ _ g0)).trans g0
    have Mg1 := (hbc.cell (World.block_lt_of_cell? _ _ g1)).trans g1
    have Mg2 := (hbc.cell (World.block_lt_of_cell? _ _ g2)).trans g2
    have Mg3 := (hbc.cell (World.block_lt_of_cell? _ _ g3)).trans g3
    clear m0 m1 m2 m3 m4 j0 j1 j2 j3 jk n0 n1 n2 n4 n3 g0 g1 g2 g3 he3 z3 HR
    have q0 : X.cell? ⟨wr.heap.size, 0, none⟩ = some (.int .u16 r.kt) := hrc 0 _ rfl
    have q1 : X.cell? ⟨wr.heap.size, 1, none⟩ = some (.int .u8 r.alg) := hrc 1 _ rfl
    have q2 : X.cell? ⟨wr.heap.size, 2, none⟩ = some (.int .u8 r.dt) := hrc 2 _ rfl
    have q3 : X.cell? ⟨wr.heap.size, 3, none⟩ = some (.string r.dg) := hrc 3 _ rfl
    have q4 : X.cell? ⟨wr.heap.size, 4, none⟩ = some (.int .u16 r.fl) := hrc 4 _ rfl
    have q5 : X.cell? ⟨wr.heap.size, 5, none⟩ = some (.int .u8 r.pr) := hrc 5 _ rfl
    have q6 : X.cell? ⟨wr.heap.size, 6, none⟩ = some (.int .u8 r.ka) := hrc 6 _ rfl
    have q7 : X.cell? ⟨wr.heap.size, 7, none⟩ = some (.string r.pk) := hrc 7 _ rfl
    clear hrc
    have hw1 : IntKind.u64.wrap r.kt = r.kt := wrap_u64 k0 (by omega)
    have hw2 : IntKind.u64.wrap r.alg = r.alg := wrap_u64 a0 (by omega)
    have hw3 : IntKind.u64.wrap r.dt = r.dt := wrap_u64 t0 (by omega)
    have XX0 := X0.out.below hbc
    have X0 : Hid (Txt X b0 ⟨#[107, 101, 121, 84, 97, 103]⟩ ⟨(Lib.decDigits r.kt.toNat).toArray⟩) := XX0
    clear XX0
    have XX1 := X1.out.below hbc
    have X1 : Hid (Txt X b1 ⟨#[97, 108, 103]⟩ ⟨(Lib.decDigits r.alg.toNat).toArray⟩) := XX1
    clear XX1
    have XX2 := X2.out.below hbc
    have X2 : Hid (Txt X b2 ⟨#[100, 105, 103, 101, 115, 116, 84, 121, 112, 101]⟩ ⟨(Lib.decDigits r.dt.toNat).toArray⟩) := XX2
    clear XX2
    have XX3 := X3.out.below hbc
    have X3 : Hid (Txt X b3 ⟨#[100, 105, 103, 101, 115, 116]⟩ r.dg) := XX3
    clear XX3
    go_upto_region 48 with fail
    go_region_held3 (fun w' => Below X.heap.size X w' ∧ w'.cell? ⟨be, 3, none⟩ = some (.slice (some ⟨cb, 0, none⟩) 5 ccap) ∧ w'.cell? ⟨cb, 0, none⟩ = some (.pointer (some ⟨b0, 0, none⟩)) ∧ w'.cell? ⟨cb, 1, none⟩ = some (.pointer (some ⟨b1, 0, none⟩)) ∧ w'.cell? ⟨cb, 2, none⟩ = some (.pointer (some ⟨b2, 0, none⟩)) ∧ w'.cell? ⟨cb, 3, none⟩ = some (.pointer (some ⟨b3, 0, none⟩)) ∧ w'.cell? ⟨wr.heap.size, 0, none⟩ = some (.int .u16 r.kt) ∧ w'.cell? ⟨wr.heap.size, 1, none⟩ = some (.int .u8 r.alg) ∧ w'.cell? ⟨wr.heap.size, 2, none⟩ = some (.int .u8 r.dt) ∧ w'.cell? ⟨wr.heap.size, 3, none⟩ = some (.string r.dg)) (first | assumption | exact s48_below (Below.refl _ _).drew ⟨Below.refl _ _, Mm3, Mj0, Mj1, Mj2, Mj3, q0, q1, q2, q3⟩ | exact s48_below (by assumption) (by assumption)) (first | (go_at_call 6; refine (citoa_int _ _ (by omega) (by omega)).mono ?_; rintro e w' ⟨rfl, hb⟩) | (go_at_call 5; (with_reducible refine (ctext_any b0 _ _ _ (X0.out.below (And.left (by assumption)))).mono ?_); rintro e w' ⟨rfl, rfl⟩) | (go_at_call 5; (with_reducible refine (ctext_any b1 _ _ _ (X1.out.below (And.left (by assumption)))).mono ?_); rintro e w' ⟨rfl, rfl⟩) | (go_at_call 5; (with_reducible refine (ctext_any b2 _ _ _ (X2.out.below (And.left (by assumption)))).mono ?_); rintro e w' ⟨rfl, rfl⟩) | (go_at_call 5; (with_reducible refine (ctext_any b3 _ _ _ (X3.out.below (And.left (by assumption)))).mono ?_); rintro e w' ⟨rfl, rfl⟩))
    rename_i hHeld
    obtain ⟨V, rfl⟩ : ∃ V, V = w' := ⟨_, rfl⟩
    have hbV1 : Below X.heap.size X V := hHeld.1
    have hbV : Below wr.heap.size wr V := hbc.trans (hbV1.mono hbc.size)
    clear hHeld hb hw1 hw2 hw3 q0 q1 q2 q3
    have Nm3 := (hbV1.cell (World.block_lt_of_cell? _ _ Mm3)).trans Mm3
    have Njk := (hbV1.cell (World.block_lt_of_cell? _ _ Mjk)).trans Mjk
    have Nn0 := (hbV1.cell (World.block_lt_of_cell? _ _ Mn0)).trans Mn0
    have Nn1 := (hbV1.cell (World.block_lt_of_cell? _ _ Mn1)).trans Mn1
    have Nn2 := (hbV1.cell (World.block_lt_of_cell? _ _ Mn2)).trans Mn2
    have Nn4 := (hbV1.cell (World.block_lt_of_cell? _ _ Mn4)).trans Mn4
    have Nn3 := (hbV1.cell (World.block_lt_of_cell? _ _ Mn3)).trans Mn3
    have Ng0 := (hbV1.cell (World.block_lt_of_cell? _ _ Mg0)).trans Mg0
    have Ng1 := (hbV1.cell (World.block_lt_of_cell? _ _ Mg1)).trans Mg1
    have Ng2 := (hbV1.cell (World.block_lt_of_cell? _ _ Mg2)).trans Mg2
    have Ng3 := (hbV1.cell (World.block_lt_of_cell? _ _ Mg3)).trans Mg3
    clear Mm3 Mj0 Mj1 Mj2 Mj3 Mjk Mn0 Mn1 Mn2 Mn4 Mn3 Mg0 Mg1 Mg2 Mg3
    have Q4 := (hbV1.cell (World.block_lt_of_cell? _ _ q4)).trans q4
    have Q5 := (hbV1.cell (World.block_lt_of_cell? _ _ q5)).trans q5
    have Q6 := (hbV1.cell (World.block_lt_of_cell? _ _ q6)).trans q6
    have Q7 := (hbV1.cell (World.block_lt_of_cell? _ _ q7)).trans q7
    clear q4 q5 q6 q7
    have y0 := Y0.out.below hbV
    have y1 := Y1.out.below hbV
    have y2 := Y2.out.below hbV
    have y3 := Y3.out.below hbV
    have Z0 : Hid (Txt V d0 ⟨#[102, 108, 97, 103, 115]⟩ ⟨(Lib.decDigits r.fl.toNat).toArray⟩) := y0
    have Z1 : Hid (Txt V d1 ⟨#[112, 114, 111, 116, 111, 99, 111, 108]⟩ ⟨(Lib.decDigits r.pr.toNat).toArray⟩) := y1
    have Z2 : Hid (Txt V d2 ⟨#[97, 108, 103]⟩ ⟨(Lib.decDigits r.ka.toNat).toArray⟩) := y2
    have Z3 : Hid (Txt V d3 ⟨#[112, 117, 98, 75, 101, 121]⟩ r.pk) := y3
    clear y0 y1 y2 y3 Y0 Y1 Y2 Y3 X0 X1 X2 X3
    have hw1 : IntKind.u64.wrap r.fl = r.fl := wrap_u64 f0 (by omega)
    have hw2 : IntKind.u64.wrap r.pr = r.pr := wrap_u64 p0 (by omega)
    have hw3 : IntKind.u64.wrap r.ka = r.ka := wrap_u64 l0 (by omega)
    go_upto_region 54 with fail
    go_region_held3 (fun w' => Below V.heap.size V w' ∧ w'.cell? ⟨bk, 3, none⟩ = some (.slice (some ⟨kb, 0, none⟩) 4 kcap) ∧ w'.cell? ⟨kb, 0, none⟩ = some (.pointer (some ⟨d0, 0, none⟩)) ∧ w'.cell? ⟨kb, 1, none⟩ = some (.pointer (some ⟨d1, 0, none⟩)) ∧ w'.cell? ⟨kb, 2, none⟩ = some (.pointer (some ⟨d2, 0, none⟩)) ∧ w'.cell? ⟨kb, 3, none⟩ = some (.pointer (some ⟨d3, 0, none⟩)) ∧ w'.cell? ⟨wr.heap.size, 4, none⟩ = some (.int .u16 r.fl) ∧ w'.cell? ⟨wr.heap.size, 5, none⟩ = some (.int .u8 r.pr) ∧ w'.cell? ⟨wr.heap.size, 6, none⟩ = some (.int .u8 r.ka) ∧ w'.cell? ⟨wr.heap.size, 7, none⟩ = some (.string r.pk)) (first | assumption | exact s48_below (Below.refl _ _).drew ⟨Below.refl _ _, Nn3, Ng0, Ng1, Ng2, Ng3, Q4, Q5, Q6, Q7⟩ | exact s48_below (by assumption) (by assumption)) (first | (go_at_call 6; refine (citoa_int _ _ (by omega) (by omega)).mono ?_; rintro e w' ⟨rfl, hb⟩) | (go_at_call 5; (with_reducible refine (ctext_any d0 _ _ _ (Z0.out.below (And.left (by assumption)))).mono ?_); rintro e w' ⟨rfl, rfl⟩) | (go_at_call 5; (with_reducible refine (ctext_any d1 _ _ _ (Z1.out.below (And.left (by assumption)))).mono ?_); rintro e w' ⟨rfl, rfl⟩) | (go_at_call 5; (with_reducible refine (ctext_any d2 _ _ _ (Z2.out.below (And.left (by assumption)))).mono ?_); rintro e w' ⟨rfl, rfl⟩) | (go_at_call 5; (with_reducible refine (ctext_any d3 _ _ _ (Z3.out.below (And.left (by assumption)))).mono ?_); rintro e w' ⟨rfl, rfl⟩))
    rename_i hHeld
    obtain ⟨U, rfl⟩ : ∃ U, U = w' := ⟨_, rfl⟩
    have hbU : Below wr.heap.size wr U := hbV.trans (hHeld.1.mono hbV.size)
    clear hHeld hb hw1 hw2 hw3
    go_wp2_with fail
    show Post3 s0 s2 s3 s5 s6 s7 s8 s9 s10 s12 s20 s21 s22 s23 s24 s25 s26 s27 s28 s29 s30 s31 s32 s33 s34 s35 s36 s37 s38 s39 s40 s41 s42 s43 s44 s45 s46 s47 s48 s49 s50 s51 s52 s53 s54 s55 s56 s57 s58 s59 s60 s61 s62 s63 s64 s65 s66 s67 s68 s69 s70 s71 s72 s73 s74 s75 s76 s77 s78 s79 s80 s81 s82 s83 s84 s85 s86 s87 s88 s89 s90 s91 s92 s93 s94 s95 s96 s97 s98 s99 s100 s101 s102 s103 s104 s105 s106 s107 s108 s109 s110 s111 s112 s113 s114 s115 s116 s117 s118 s119 s120 s121 s122 s123 s124 s125 s126 s127 s128 s129 s130 s131 s132 s133 s134 s135 s136 s137 s138 s139 s140 s141 s142 s143 s144 s145 s146 s147 s148 s149 b o n c I 1 ((k : Int) + 1) _ ∧ _
    refine ⟨?_, hbU⟩
    unfold Post3
    exact ⟨_, _, _, _, _, _, _, _, _, _, _, _, _, _, _, _, _, _, _, _, _, _, _, _, _, _, _, _, _, _, _, _, _, _, _, _, _, _, _, _, _, _, _, _, _, _, _, _, _, _, _, _, _, _, _, _, _, _, _, _, _, _, _, _, _, _, _, _, _, _, _, _, _, _, _, _, _, _, _, _, _, _, _, _, _, _, _, _, _, _, _, _, _, _, _, _, _, _, _, _, _, _, _, _, _, _, _, _, _, _, _, _, _, _, _, _, _, _, _, _, _, _, _, _, _, _, _, _, _, _, _, _, _, _, _, _, _, _, _, _, _, _, _, _, _, _, _, _, _, _, _, _, _, _, _, _, _, _, _, _, _, _, _, _, _, _, _, _, _, _, _, _, _, _, _, _, _, _, _, _, _, _, _, _, _, _, _, _, _, _, _, _, _, _, _, _, _, _, _, _, _, _, _, _, _, _, _, _, _, _, _, _, _, _, _, _, _, _, _, _, _, _, _, _, _, _, _, _, _, _, _, _, rfl⟩
end Go.Proofs.YbulkebxyDoor
