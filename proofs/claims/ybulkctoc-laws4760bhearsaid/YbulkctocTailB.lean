/- THE LAW's STATEMENTS FROM REGION 69 ON. -/
import Derived.Test.YbulkctocTailA
import Derived.Deep.CutRange
import Derived.Deep.CutBlock
namespace Go.Proofs.Ybulkctoc.HT
open Go.ChangeShapes Go.WideShapes Go.ChangeAt Go.RowKit
set_option linter.unusedVariables false
attribute [local go_sem ↓] Go.wp_at_zero Go.wp_at_succ

set_option maxRecDepth 1000000 in
set_option maxHeartbeats 40000000 in
theorem tail31 (vv0 vv2 vv3 vv7 vv8 vv9 vv10 vv11 vv12 vv13 vv14 vv15 vv16 vv17 vv18 vv19 vv20 vv21 vv22 vv23 vv24 vv25 vv27 vv28 vv29 vv30 vv31 vv32 vv33 vv34 vv35 vv36 vv37 vv38 vv39 vv42 vv43 vv44 vv45 vv47 vv48 vv49 vv51 vv52 vv53 vv54 vv55 vv56 vv57 vv58 vv59 vv60 vv61 vv62 vv63 vv64 vv65 vv66 vv67 vv68 vv69 vv70 vv71 vv72 vv73 vv74 vv75 vv76 vv77 vv78 vv79 vv80 vv81 vv82 vv83 vv84 vv85 vv86 vv87 vv88 vv89 vv90 vv91 vv92 vv93 vv94 vv95 vv96 vv97 vv98 vv99 vv100 vv101 vv102 vv103 vv104 vv105 vv106 vv107 vv108 vv109 vv110 vv111 vv112 vv113 vv114 vv115 vv116 vv117 vv118 vv119 vv120 vv121 vv122 vv123 vv124 vv125 vv126 vv127 vv128 vv129 vv130 vv131 vv132 vv133 vv134 vv135 vv136 vv137 vv138 vv139 vv140 vv141 vv142 vv143 vv144 vv145 vv146 vv147 vv148 vv149 vv150 vv151 vv152 vv153 vv154 vv155 vv156 vv157 vv158 vv159 vv160 vv161 vv162 vv163 vv164 vv165 vv166 vv167 vv168 vv169 vv170 vv171 vv172 vv173 vv174 vv175 vv176 vv177 vv178 vv179 vv180 vv181 vv182 vv183 vv184 vv185 vv186 vv187 vv188 vv189 vv190 vv191 vv192 vv193 vv194 vv195 vv196 vv197 vv198 vv199 vv200 vv201 vv202 vv203 vv204 vv205 vv206 vv207 vv208 vv209 vv210 vv211 vv212 vv213 vv214 vv215 vv216 vv217 vv218 vv219 vv220 vv221 vv222 vv223 vv224 vv225 vv226 vv227 vv228 vv229 vv230 vv231 vv232 vv233 vv234 vv235 vv236 vv237 vv238 vv239 vv240 vv241 vv242 vv243 vv244 vv245 vv246 vv247 vv248 vv249 vv250 vv251 vv252 vv253 vv254 vv255 vv256 vv257 vv258 vv259 vv260 vv261 vv262 vv263 vv264 vv265 vv266 vv267 vv268 vv269 vv270 vv271 vv272 vv273 vv274 vv275 vv276 vv277 vv278 vv279 vv280 vv281 vv282 vv283 vv284 vv285 vv286 vv287 vv288 vv289 vv290 vv291 vv292 vv293 vv294 vv295 vv296 vv297 vv298 vv299 vv300 vv301 vv302 vv303 vv304 vv305 vv306 vv307 vv308 vv309 vv310 vv311 vv312 vv313 vv314 vv315 vv316 vv317 vv318 vv319 vv320 vv321 vv322 vv323 vv324 vv325 vv326 vv327 vv328 vv329 vv330 vv331 vv332 vv333 vv334 vv335 vv336 vv337 vv338 vv339 vv340 vv341 vv342 vv343 vv344 vv345 vv346 vv347 vv348 vv349 vv350 vv351 vv352 vv353 vv354 vv355 vv356 vv357 vv358 vv359 vv360 vv361 vv362 vv363 vv364 vv365 vv366 vv367 vv368 vv369 vv370 vv371 vv372 vv373 vv374 vv375 vv376 vv377 vv378 vv379 vv380 vv381 vv382 vv383 vv384 vv385 vv386 vv387 vv388 vv389 vv390 vv391 vv392 vv393 vv394 vv395 vv396 vv397 vv398 vv399 vv400 vv401 vv402 vv403 vv404 vv405 vv406 vv407 vv408 vv409 vv410 vv411 vv412 vv413 vv414 vv415 vv416 vv417 vv418 vv419 vv420 vv421 vv422 vv423 vv424 vv425 vv426 vv427 vv428 vv429 vv430 vv431 vv432 vv433 vv434 vv435 vv436 vv437 vv438 vv439 vv440 vv441 vv442 vv443 vv444 vv445 vv446 vv447 vv448 vv449 vv450 vv451 vv452 vv453 vv454 vv455 vv456 vv457 vv458 vv459 vv460 vv461 vv462 vv463 vv464 vv465 vv466 vv467 vv468 vv469 vv470 vv471 vv472 vv473 vv474 vv475 vv476 vv477 vv478 vv479 vv480 vv481 vv482 vv483 vv484 vv485 vv486 vv487 vv488 vv489 vv490 vv491 vv492 vv493 vv494 vv495 vv496 vv497 vv498 vv499 vv500 vv501 vv502 vv503 vv504 vv505 vv506 vv507 vv508 vv509 vv510 vv511 vv512 vv513 vv514 vv515 vv516 vv517 vv518 vv519 vv520 vv521 vv522 vv523 vv524 vv525 vv526 vv527 vv528 vv529 vv530 vv531 vv532 vv533 vv534 vv535 vv536 vv537 vv538 vv539 vv540 vv541 vv542 vv543 vv544 vv545 vv546 vv547 vv548 vv549 vv550 vv551 vv552 vv553 vv554 vv555 vv556 vv557 vv558 vv559 vv560 vv561 vv562 vv563 vv564 vv565 vv566 vv567 : Value)
    (m h mp : Nat) (name : ByteArray) (maxB L : Int) (g1 cap1 g8 o8 cap8 rn nb bb cnt : Nat) (rs : List Ent) (ks : List Key) (o' : ByteArray) (id' : Nat) (age : Int) (p8 pa : Option Addr) (c8 pc pn : Nat) (bs : List Int) (nm : Int) (tb : Nat) (kb : Nat) (w w8 : World)
    (HTK8 : Hid (TK m h mp name maxB L g1 cap1 g8 o8 cap8 rn nb bb cnt rs ks o' id' age p8 pa c8 pc pn bs (nm * 1000000) tb w8)) (HKEY8 : Hid (w8.heap[kb]? = some (.cells #[.string o', .int .u64 (id' : Int)] 38 (0, 0)))) (HBL8 : Hid (Below w.heap.size w w8)) (hrs : rs.length = rn) (hks : ks.length = rn) (hgood : Good (o', id')) (hrn8 : rn < 8192) (hL0 : 0 ≤ L) (hL1 : L ≤ 1000000000000)
    (hnm0 : -2147483648 ≤ nm) (hnm1 : nm ≤ 2147483647) (hage0 : 0 ≤ age) (hage1 : age < 4294967296) :
    Code.wp Yba.prog (tailCode 31) (bodyPost Yba.prog Yba.f3 fun e w' => e = .returned (.bool true) ∧ Below w.heap.size w w') ⟨#[vv0, .string o', vv2, vv3, .int .u64 (id' : Int), .int .u32 age, .slice pa pn pc, vv7, vv8, vv9, vv10, vv11, vv12, vv13, vv14, vv15, vv16, vv17, vv18, vv19, vv20, vv21, vv22, vv23, vv24, vv25, .int .i64 L, vv27, vv28, vv29, vv30, vv31, vv32, vv33, vv34, vv35, vv36, vv37, vv38, vv39, .pointer (some ⟨m, 0, none⟩), .pointer (some ⟨tb, 0, none⟩), vv42, vv43, vv44, vv45, .int .i64 (rn : Int), vv47, vv48, vv49, .pointer (some ⟨kb, 0, none⟩), vv51, vv52, vv53, vv54, vv55, vv56, vv57, vv58, vv59, vv60, vv61, vv62, vv63, vv64, vv65, vv66, vv67, vv68, vv69, vv70, vv71, vv72, vv73, vv74, vv75, vv76, vv77, vv78, vv79, vv80, vv81, vv82, vv83, vv84, vv85, vv86, vv87, vv88, vv89, vv90, vv91, vv92, vv93, vv94, vv95, vv96, vv97, vv98, vv99, vv100, vv101, vv102, vv103, vv104, vv105, vv106, vv107, vv108, vv109, vv110, vv111, vv112, vv113, vv114, vv115, vv116, vv117, vv118, vv119, vv120, vv121, vv122, vv123, vv124, vv125, vv126, vv127, vv128, vv129, vv130, vv131, vv132, vv133, vv134, vv135, vv136, vv137, vv138, vv139, vv140, vv141, vv142, vv143, vv144, vv145, vv146, vv147, vv148, vv149, vv150, vv151, vv152, vv153, vv154, vv155, vv156, vv157, vv158, vv159, vv160, vv161, vv162, vv163, vv164, vv165, vv166, vv167, vv168, vv169, vv170, vv171, vv172, vv173, vv174, vv175, vv176, vv177, vv178, vv179, vv180, vv181, vv182, vv183, vv184, vv185, vv186, vv187, vv188, vv189, vv190, vv191, vv192, vv193, vv194, vv195, vv196, vv197, vv198, vv199, vv200, vv201, vv202, vv203, vv204, vv205, vv206, vv207, vv208, vv209, vv210, vv211, vv212, vv213, vv214, vv215, vv216, vv217, vv218, vv219, vv220, vv221, vv222, vv223, vv224, vv225, vv226, vv227, vv228, vv229, vv230, vv231, vv232, vv233, vv234, vv235, vv236, vv237, vv238, vv239, vv240, vv241, vv242, vv243, vv244, vv245, vv246, vv247, vv248, vv249, vv250, vv251, vv252, vv253, vv254, vv255, vv256, vv257, vv258, vv259, vv260, vv261, vv262, vv263, vv264, vv265, vv266, vv267, vv268, vv269, vv270, vv271, vv272, vv273, vv274, vv275, vv276, vv277, vv278, vv279, vv280, vv281, vv282, vv283, vv284, vv285, vv286, vv287, vv288, vv289, vv290, vv291, vv292, vv293, vv294, vv295, vv296, vv297, vv298, vv299, vv300, vv301, vv302, vv303, vv304, vv305, vv306, vv307, vv308, vv309, vv310, vv311, vv312, vv313, vv314, vv315, vv316, vv317, vv318, vv319, vv320, vv321, vv322, vv323, vv324, vv325, vv326, vv327, vv328, vv329, vv330, vv331, vv332, vv333, vv334, vv335, vv336, vv337, vv338, vv339, vv340, vv341, vv342, vv343, vv344, vv345, vv346, vv347, vv348, vv349, vv350, vv351, vv352, vv353, vv354, vv355, vv356, vv357, vv358, vv359, vv360, vv361, vv362, vv363, vv364, vv365, vv366, vv367, vv368, vv369, vv370, vv371, vv372, vv373, vv374, vv375, vv376, vv377, vv378, vv379, vv380, vv381, vv382, vv383, vv384, vv385, vv386, vv387, vv388, vv389, vv390, vv391, vv392, vv393, vv394, vv395, vv396, vv397, vv398, vv399, vv400, vv401, vv402, vv403, vv404, vv405, vv406, vv407, vv408, vv409, vv410, vv411, vv412, vv413, vv414, vv415, vv416, vv417, vv418, vv419, vv420, vv421, vv422, vv423, vv424, vv425, vv426, vv427, vv428, vv429, vv430, vv431, vv432, vv433, vv434, vv435, vv436, vv437, vv438, vv439, vv440, vv441, vv442, vv443, vv444, vv445, vv446, vv447, vv448, vv449, vv450, vv451, vv452, vv453, vv454, vv455, vv456, vv457, vv458, vv459, vv460, vv461, vv462, vv463, vv464, vv465, vv466, vv467, vv468, vv469, vv470, vv471, vv472, vv473, vv474, vv475, vv476, vv477, vv478, vv479, vv480, vv481, vv482, vv483, vv484, vv485, vv486, vv487, vv488, vv489, vv490, vv491, vv492, vv493, vv494, vv495, vv496, vv497, vv498, vv499, vv500, vv501, vv502, vv503, vv504, vv505, vv506, vv507, vv508, vv509, vv510, vv511, vv512, vv513, vv514, vv515, vv516, vv517, vv518, vv519, vv520, vv521, vv522, vv523, vv524, vv525, vv526, vv527, vv528, vv529, vv530, vv531, vv532, vv533, vv534, vv535, vv536, vv537, vv538, vv539, vv540, vv541, vv542, vv543, vv544, vv545, vv546, vv547, vv548, vv549, vv550, vv551, vv552, vv553, vv554, vv555, vv556, vv557, vv558, vv559, vv560, vv561, vv562, vv563, vv564, vv565, vv566, vv567], []⟩ w8 := by
  have k0 : w8.cell? ⟨kb, 0, none⟩ = some (.string o') := cellOf HKEY8.out 0 rfl
  have k1 : w8.cell? ⟨kb, 1, none⟩ = some (.int .u64 (id' : Int)) := cellOf HKEY8.out 1 rfl
  have hkl : kb < w8.heap.size := heap_lt HKEY8.out
  conv => arg 2; whnf
  conv => arg 4; dsimp only
  obtain ⟨t0, t1, t2⟩ := HTK8.out.times
  obtain ⟨z0, z1, z2, z3, z4⟩ := HTK8.out.last hrs
  obtain ⟨_, _, _, y41, y43, _, y52, y53⟩ := HTK8.out.mach.cells
  have hg8l := HTK8.out.row.lt
  have hml8 := HTK8.out.mach.lt
  have htbl8 : tb < w8.heap.size := heap_lt HTK8.out.tm
  have hrn0 : (0 : Int) ≤ (rn : Int) := by omega
  have hrn1 : (rn : Int) < (rn : Int) + 1 := by omega
  have hwr3 : IntKind.i64.wrap ((rn : Int) + 1) = (rn : Int) + 1 := IntWalk.i64_in _ (by omega)
  have hwr2 : IntKind.i64.wrap (2 * L) = 2 * L := IntWalk.i64_in _ (by omega)
  have htv2 : tv (nm * 1000000 + 2 * L) = .agg #[.int .u64 ((nm * 1000000 + 2 * L) % 1000000000), .int .i64 ((nm * 1000000 + 2 * L) / 1000000000), .pointer none] := rfl
  go_upto_region 69 with fail
  go_cut [451] from 416 to 450 (fun s wx => s = .bool false ∧ ∃ x, x = wx ∧ Below w8.heap.size w8 x)
  case first =>
    --DEV69
    go_region_held3 (fun w' => w'.cell? ⟨m, 53, none⟩ = some (.slice (some ⟨g8, o8, none⟩) (rn + 1) cap8) ∧ w'.cell? ⟨g8, o8 + rn * 5, none⟩ = some (.string o') ∧ w'.cell? ⟨g8, o8 + rn * 5 + 1, none⟩ = some (.int .u64 (id' : Int)) ∧
          w'.cell? ⟨g8, o8 + rn * 5 + 2, none⟩ = some (.int .u64 ((nm * 1000000 + 2 * L) % 1000000000)) ∧ w'.cell? ⟨g8, o8 + rn * 5 + 3, none⟩ = some (.int .i64 ((nm * 1000000 + 2 * L) / 1000000000)) ∧ w'.cell? ⟨g8, o8 + rn * 5 + 4, none⟩ = some (.pointer none) ∧
          w'.cell? ⟨kb, 0, none⟩ = some (.string o') ∧ w'.cell? ⟨kb, 1, none⟩ = some (.int .u64 (id' : Int)) ∧
          w'.cell? ⟨tb, 0, none⟩ = some (.int .u64 (nm * 1000000 % 1000000000)) ∧ w'.cell? ⟨tb, 1, none⟩ = some (.int .i64 (nm * 1000000 / 1000000000)) ∧ w'.cell? ⟨tb, 2, none⟩ = some (.pointer none))
      (first | go_keep | (go_split_ands; refine ⟨?_, ?_, ?_, ?_, ?_, ?_, ?_, ?_, ?_, ?_, ?_⟩ <;> (rw [hbel2.cell (by simp; omega)]; assumption)) | (go_split_ands; refine ⟨?_, ?_, ?_, ?_, ?_, ?_, ?_, ?_, ?_, ?_, ?_⟩ <;> (rw [hbel.cell (by simp; omega)]; assumption)))
      (first | (go_at_call 4; refine (add_any (nm * 1000000) (2 * L) _ (by omega) (by omega) (by omega) (by omega)).mono ?_; rintro e w9 ⟨rfl, hbel⟩; have hz9 := hbel.size; simp only [World.size_drew] at hz9)
             | (go_at_call 7; refine (equal_same (nm * 1000000 + 2 * L) _ (by omega) (by omega)).mono ?_; rintro e w10 ⟨rfl, hbel2⟩))
    go_wp2
    go_meet
    exact ⟨rfl, _, rfl, ⟨hbel2.os.trans hbel.os, hbel2.tape.trans hbel.tape, hbel2.output.trans hbel.output, Nat.le_trans hbel.size hbel2.size, fun k hk => (hbel2.block k (Nat.lt_of_lt_of_le hk hz9)).trans (hbel.block k hk)⟩⟩
    --END69
  case rest =>
    obtain ⟨rfl, w10, rfl, hb10⟩ := hcut
    have HTK10 : Hid (TK m h mp name maxB L g1 cap1 g8 o8 cap8 rn nb bb cnt rs ks o' id' age p8 pa c8 pc pn bs (nm * 1000000) tb w10) := HTK8.out.below hb10
    have hkey10 : w10.heap[kb]? = some (.cells #[.string o', .int .u64 (id' : Int)] 38 (0, 0)) := (hb10.block _ hkl).trans HKEY8.out
    have HBL10 : Hid (Below w.heap.size w w10) := HBL8.out.trans (hb10.mono HBL8.out.size)
    clear k0 k1 t0 t1 t2 z0 z1 z2 z3 z4 y41 y43 y52 y53
    have k0 : w10.cell? ⟨kb, 0, none⟩ = some (.string o') := cellOf hkey10 0 rfl
    have k1 : w10.cell? ⟨kb, 1, none⟩ = some (.int .u64 (id' : Int)) := cellOf hkey10 1 rfl
    obtain ⟨_, _, _, y41, y43, _, y52, y53⟩ := HTK10.out.mach.cells
    have hl10 : ∀ q, (Builtin.len_ #[31] 3 #[.map (some mp)]).run Yba.prog (w10.drewN q) = .ok (.int .i64 ((rn : Int) + 1)) (w10.drewN q) := fun q => by
      have := (HTK10.out.set.same (w' := w10.drewN q) rfl).len 3
      rw [List.length_append, hks] at this
      simpa using this
    have hyes : ∀ q, (Instr.lookup 31 (.map (some mp)) (.agg #[.string o', .int .u64 (id' : Int)]) false).run Yba.prog (w10.drewN q) = .ok (.bool true) (w10.drewN q) := fun q => (HTK10.out.set.same (w' := w10.drewN q) rfl).yes (o', id') hgood (by simp)
    clear hb10 hkey10
    go_upto_region 71 with fail
    go_cut [468] from 452 to 467 (fun s wx => s = .bool false ∧ ∃ x, x = wx ∧ Below w10.heap.size w10 x)
    case first =>
      go_quiet (fail)
      go_wp2
      go_meet
      exact ⟨rfl, _, rfl, below_drewN (Below.refl _ _) _⟩
    case rest =>
      obtain ⟨rfl, w11, rfl, hb11⟩ := hcut
      have HTK11 : Hid (TK m h mp name maxB L g1 cap1 g8 o8 cap8 rn nb bb cnt rs ks o' id' age p8 pa c8 pc pn bs (nm * 1000000) tb w11) := HTK10.out.below hb11
      have HBL11 : Hid (Below w.heap.size w w11) := HBL10.out.trans (hb11.mono HBL10.out.size)
      clear k0 k1 y41 y43 y52 y53 hl10 hyes hb11
      obtain ⟨_, _, _, y41, y43, _, y52, y53⟩ := HTK11.out.mach.cells
      obtain ⟨n0, n11, n12, n13, n14, n16, n18, b0, b1, b2, b3⟩ := HTK11.out.newsCells
      obtain ⟨t0, t1, t2⟩ := HTK11.out.times
      go_upto_if 499 with fail
      go_cut [] from 469 to 499 (fun wx => ∃ x, x = wx ∧ Below w11.heap.size w11 x)
      case first =>
        go_wp2
        go_meet
        exact ⟨_, rfl, Below.refl _ _⟩
      case rest =>
        obtain ⟨w12, rfl, hb12⟩ := hcut
        rename_i K hK
        refine hK _ _ ?_
        exact (tail36 _ _ _ _ _ _ _ _ _ _ _ _ _ _ _ _ _ _ _ _ _ _ _ _ _ _ _ _ _ _ _ _ _ _ _ _ _ _ _ _ _ _ _ _ _ _ _ _ _ _ _ _ _ _ _ _ _ _ _ _ _ _ _ _ _ _ _ _ _ _ _ _ _ _ _ _ _ _ _ _ _ _ _ _ _ _ _ _ _ _ _ _ _ _ _ _ _ _ _ _ _ _ _ _ _ _ _ _ _ _ _ _ _ _ _ _ _ _ _ _ _ _ _ _ _ _ _ _ _ _ _ _ _ _ _ _ _ _ _ _ _ _ _ _ _ _ _ _ _ _ _ _ _ _ _ _ _ _ _ _ _ _ _ _ _ _ _ _ _ _ _ _ _ _ _ _ _ _ _ _ _ _ _ _ _ _ _ _ _ _ _ _ _ _ _ _ _ _ _ _ _ _ _ _ _ _ _ _ _ _ _ _ _ _ _ _ _ _ _ _ _ _ _ _ _ _ _ _ _ _ _ _ _ _ _ _ _ _ _ _ _ _ _ _ _ _ _ _ _ _ _ _ _ _ _ _ _ _ _ _ _ _ _ _ _ _ _ _ _ _ _ _ _ _ _ _ _ _ _ _ _ _ _ _ _ _ _ _ _ _ _ _ _ _ _ _ _ _ _ _ _ _ _ _ _ _ _ _ _ _ _ _ _ _ _ _ _ _ _ _ _ _ _ _ _ _ _ _ _ _ _ _ _ _ _ _ _ _ _ _ _ _ _ _ _ _ _ _ _ _ _ _ _ _ _ _ _ _ _ _ _ _ _ _ _ _ _ _ _ _ _ _ _ _ _ _ _ _ _ _ _ _ _ _ _ _ _ _ _ _ _ _ _ _ _ _ _ _ _ _ _ _ _ _ _ _ _ _ _ _ _ _ _ _ _ _ _ _ _ _ _ _ _ _ _ _ _ _ _ _ _ _ _ _ _ _ _ _ _ _ _ _ _ _ _ _ _ _ _ _ _ _ _ _ _ _ _ _ _ _ _ _ _ _ _ _ _ _ _ _ _ _ _ _ _ _ _ _ _ _ _ _ _ _ _ _ _ _ _ _ _ _ _ _ _ _ _ _ _ _ _ _ _ _ _ _ _ _ _ _ _ _ _ _ _ _ _ _ _ _ _ _ _ _ _ _ _ _ _ _ _ _ _ _ _ _ _ _ _ _ _ _ _ _ _ _ _ _ _ _ _ _ _ _ _ _ _ _ _ _ _ _ m h mp name maxB L g1 cap1 g8 o8 cap8 rn nb bb cnt rs ks o' id' age p8 pa c8 pc pn bs nm tb w w12 (HTK11.out.below hb12) (HBL11.out.trans (hb12.mono HBL11.out.size)) hnm0 hnm1 hage0 hage1)
end Go.Proofs.Ybulkctoc.HT
