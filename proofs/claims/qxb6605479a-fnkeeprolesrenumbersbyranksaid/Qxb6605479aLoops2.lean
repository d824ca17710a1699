/-
  THE LAW ON keepRoles: the assignments.
-/
import Derived.Test.Qxb6605479aSeen
import Derived.Test.Qxb6605479aMaps
import Derived.Deep.CutBlock
import Derived.BigQuiet
import Derived.Deep.RegionWith
import Derived.Test.Qxb6605479aLoops1
namespace Go.Proofs.Qxb6605479a
open Go.RowKit

set_option linter.unusedVariables false in
set_option maxHeartbeats 16000000 in
set_option maxRecDepth 100000 in
theorem pcL4 {J K' : Act → World → Prop} {Q' : Exit → Act → World → Prop} (wL wx : World) (n : Nat) (sn : n ≤ 65536) (M : Nat → Bool) (e6 : Option Addr) (f6 q6 : Nat) (A6 : Hid (0 < n → e6 = some ⟨f6, 0, none⟩)) (R6 : Hid (Bv wL f6 0 n M)) (ia : Option Addr) (icap : Nat) (CM : Hid (∀ (wr : World), Below wL.heap.size wL wr → ∀ (y : World), y.heap = wr.heap → ∀ x, x < n → Calls Try.prog 37 #[.int .i64 (num M x : Int), .int .i64 (x : Int), .slice e6 n q6, .slice ia (cnt M n) icap] y fun e w' => e = .returned (.bool true) ∧ w' = y)) (ob : Nat) (HB : Hid (Below wL.heap.size wL wx)) (n2 : Nat) (s2 : n2 ≤ 65536) (e3 : Option Addr) (q3 aB : Nat) (X2 Y2 : Nat → Int) (A3 : Hid (0 < n2 → e3 = some ⟨aB, 0, none⟩)) (R3 : Hid (Pv wL aB 0 n2 X2 Y2)) (r2 : Option Addr) (g2 p2 : Nat) (V2 : Hid (Lv wL ob 2 (kp M Y2) n2 2 (uaRow M X2 Y2) r2 g2 p2)) (HU : Hid (∀ i, i < n2 → 0 ≤ Y2 i ∧ Y2 i < n))
    {y0 y1 y3 y4 y5 y7 y8 y9 y10 y11 y12 y13 y14 y15 y16 y17 y18 y19 y20 y23 y24 y25 y28 y29 y30 y31 y32 y33 y34 y35 y36 y37 y38 y39 y40 y41 y42 y43 y44 y45 y46 y47 y48 y49 y50 y51 y52 y53 y54 y55 y56 y57 y58 y59 y60 y61 y62 y63 y64 y65 y66 y67 y68 y69 y70 y71 y72 y73 y74 y75 y76 y77 y78 y79 y80 y81 y82 y83 y84 y85 y86 y87 y88 y89 y90 y91 y92 y93 y94 y95 y96 y97 y98 y99 y100 y101 y102 y103 y104 y105 y106 y107 y108 y109 y110 y111 y112 y113 y114 y115 y116 y117 y118 y119 y120 y121 y122 y123 y124 y125 y126 y127 y128 y129 y130 y131 y132 y133 y134 y135 y136 y137 y138 y139 y140 y141 y142 y143 y144 y145 y146 y147 y148 y149 y150 y151 y152 y153 y154 y155 y156 y157 y158 y159 y160 y161 y162 y163 y164 y165 y166 y167 y168 y169 y170 y171 y172 y173 y174 y175 y176 y177 y178 y179 y180 y181 y182 y183 y184 y185 y186 y187 y188 y189 y190 y191 y192 y193 y194 y195 y196 y197 y198 y199 y200 y201 y202 y203 y204 y205 y206 y207 y208 y209 y210 y211 y212 y213 y214 y215 y216 y217 y218 y219 y220 y221 y222 y223 y224 y225 y226 y227 y228 y229 y230 y231 y232 y233 y234 y235 y236 y237 y238 y239 y240 y241 y242 y243 y244 y245 y246 y247 y248 y249 y250 y251 y252 y253 y254 y255 y256 y257 y258 y259 y260 y261 y262 y263 y264 y265 y266 y267 y268 y269 y270 y271 y272 y273 y274 y275 y276 y277 y278 y279 y280 y281 y282 y283 y284 y285 y286 y287 y288 y289 y290 y291 y292 y293 y294 y295 y296 y297 y298 y299 y300 y301 y302 y303 y304 y305 y306 y307 y308 y309 y310 y311 y312 y313 y314 y315 y316 y317 y318 y319 y320 y321 y322 y323 y324 y325 y326 y327 y328 y329 y330 y331 y332 y333 y334 y335 y336 y337 y338 y339 y340 y341 y342 y343 y344 y345 y346 y347 y348 y349 y350 y351 y352 y353 y354 y355 y356 y357 y358 y359 y360 y361 y362 y363 y364 y365 y366 y367 y368 y369 y370 y371 y372 y373 y374 y375 y376 y377 y378 y379 y380 y381 y382 y383 y384 y385 y386 y387 y388 y389 y390 y391 y392 y393 y394 y395 y396 y397 y398 y399 y400 y401 y402 y403 y404 y405 y406 y407 y408 y409 y410 y411 y412 y413 y414 y415 y416 y417 y418 y419 y420 y421 y422 y423 y424 y425 y426 y427 y428 y429 y430 y431 y432 y433 y434 y435 y436 y437 y438 y439 y440 y441 y442 y443 y444 y445 y446 y447 y448 y449 y450 y451 y452 y453 y454 y455 y456 y457 y458 y459 y460 y461 y462 y463 y464 y465 y466 y467 y468 y469 y470 y471 y472 y473 y474 y475 y476 y477 y478 y479 y480 y481 y482 y483 y484 y485 y486 y487 y488 y489 y490 y491 y492 y493 y494 y495 y496 y497 y498 y499 y500 y501 y502 y503 y504 y505 y506 y507 y508 y509 y510 y511 y512 y513 y514 y515 y516 y517 y518 y519 y520 y521 y522 y523 y524 y525 y526 y527 y528 y529 y530 y531 y532 y533 y534 y535 y536 y537 y538 y539 y540 y541 y542 y543 y544 y545 y546 y547 y548 y549 y550 y551 y552 y553 y554 y555 y556 y557 y558 : Value} (h2 : ∀ a' w', Met J a' w' → K' a' w') (h1 : ∀ a' w', (∃ u18 u26 u27 u274 u275 u276 u277 u278 u279 u280 u281 u282 u283 u284 u285 u286 u287 u288 u289 u290 u291 u292 u293 u294 u295 u296 u297 u298 u299 u300 u301 u302 u303 u304 u305 u306 u307 u308 u309 u310 u311 u312 u313 u314 u315 u316 u317 u318 u319 u320 u321 u322 u323 u324 u325 u326 u327 u328 u329 u330 : Value, (u26 = .int .i64 ((cnt (kp M Y2) n2 : Nat) : Int) ∧ Below wL.heap.size wL w') ∧ a' = ⟨#[y0, y1, .slice e3 n2 q3, y3, y4, y5, .slice e6 n q6, y7, y8, y9, y10, y11, y12, y13, y14, y15, y16, y17, u18, y19, y20, .pointer (some ⟨ob, 0, none⟩), .slice ia (cnt M n) icap, y23, y24, y25, u26, u27, y28, y29, y30, y31, y32, y33, y34, y35, y36, y37, y38, y39, y40, y41, y42, y43, y44, y45, y46, y47, y48, y49, y50, y51, y52, y53, y54, y55, y56, y57, y58, y59, y60, y61, y62, y63, y64, y65, y66, y67, y68, y69, y70, y71, y72, y73, y74, y75, y76, y77, y78, y79, y80, y81, y82, y83, y84, y85, y86, y87, y88, y89, y90, y91, y92, y93, y94, y95, y96, y97, y98, y99, y100, y101, y102, y103, y104, y105, y106, y107, y108, y109, y110, y111, y112, y113, y114, y115, y116, y117, y118, y119, y120, y121, y122, y123, y124, y125, y126, y127, y128, y129, y130, y131, y132, y133, y134, y135, y136, y137, y138, y139, y140, y141, y142, y143, y144, y145, y146, y147, y148, y149, y150, y151, y152, y153, y154, y155, y156, y157, y158, y159, y160, y161, y162, y163, y164, y165, y166, y167, y168, y169, y170, y171, y172, y173, y174, y175, y176, y177, y178, y179, y180, y181, y182, y183, y184, y185, y186, y187, y188, y189, y190, y191, y192, y193, y194, y195, y196, y197, y198, y199, y200, y201, y202, y203, y204, y205, y206, y207, y208, y209, y210, y211, y212, y213, y214, y215, y216, y217, y218, y219, y220, y221, y222, y223, y224, y225, y226, y227, y228, y229, y230, y231, y232, y233, y234, y235, y236, y237, y238, y239, y240, y241, y242, y243, y244, y245, y246, y247, y248, y249, y250, y251, y252, y253, y254, y255, y256, y257, y258, y259, y260, y261, y262, y263, y264, y265, y266, y267, y268, y269, y270, y271, y272, y273, u274, u275, u276, u277, u278, u279, u280, u281, u282, u283, u284, u285, u286, u287, u288, u289, u290, u291, u292, u293, u294, u295, u296, u297, u298, u299, u300, u301, u302, u303, u304, u305, u306, u307, u308, u309, u310, u311, u312, u313, u314, u315, u316, u317, u318, u319, u320, u321, u322, u323, u324, u325, u326, u327, u328, u329, u330, y331, y332, y333, y334, y335, y336, y337, y338, y339, y340, y341, y342, y343, y344, y345, y346, y347, y348, y349, y350, y351, y352, y353, y354, y355, y356, y357, y358, y359, y360, y361, y362, y363, y364, y365, y366, y367, y368, y369, y370, y371, y372, y373, y374, y375, y376, y377, y378, y379, y380, y381, y382, y383, y384, y385, y386, y387, y388, y389, y390, y391, y392, y393, y394, y395, y396, y397, y398, y399, y400, y401, y402, y403, y404, y405, y406, y407, y408, y409, y410, y411, y412, y413, y414, y415, y416, y417, y418, y419, y420, y421, y422, y423, y424, y425, y426, y427, y428, y429, y430, y431, y432, y433, y434, y435, y436, y437, y438, y439, y440, y441, y442, y443, y444, y445, y446, y447, y448, y449, y450, y451, y452, y453, y454, y455, y456, y457, y458, y459, y460, y461, y462, y463, y464, y465, y466, y467, y468, y469, y470, y471, y472, y473, y474, y475, y476, y477, y478, y479, y480, y481, y482, y483, y484, y485, y486, y487, y488, y489, y490, y491, y492, y493, y494, y495, y496, y497, y498, y499, y500, y501, y502, y503, y504, y505, y506, y507, y508, y509, y510, y511, y512, y513, y514, y515, y516, y517, y518, y519, y520, y521, y522, y523, y524, y525, y526, y527, y528, y529, y530, y531, y532, y533, y534, y535, y536, y537, y538, y539, y540, y541, y542, y543, y544, y545, y546, y547, y548, y549, y550, y551, y552, y553, y554, y555, y556, y557, y558], []⟩) → J a' w') :
    Code.wp Try.prog (blk 6) (Exit.then K' Q') ⟨#[y0, y1, .slice e3 n2 q3, y3, y4, y5, .slice e6 n q6, y7, y8, y9, y10, y11, y12, y13, y14, y15, y16, y17, y18, y19, y20, .pointer (some ⟨ob, 0, none⟩), .slice ia (cnt M n) icap, y23, y24, y25, .int .i64 0, .int .i64 0, y28, y29, y30, y31, y32, y33, y34, y35, y36, y37, y38, y39, y40, y41, y42, y43, y44, y45, y46, y47, y48, y49, y50, y51, y52, y53, y54, y55, y56, y57, y58, y59, y60, y61, y62, y63, y64, y65, y66, y67, y68, y69, y70, y71, y72, y73, y74, y75, y76, y77, y78, y79, y80, y81, y82, y83, y84, y85, y86, y87, y88, y89, y90, y91, y92, y93, y94, y95, y96, y97, y98, y99, y100, y101, y102, y103, y104, y105, y106, y107, y108, y109, y110, y111, y112, y113, y114, y115, y116, y117, y118, y119, y120, y121, y122, y123, y124, y125, y126, y127, y128, y129, y130, y131, y132, y133, y134, y135, y136, y137, y138, y139, y140, y141, y142, y143, y144, y145, y146, y147, y148, y149, y150, y151, y152, y153, y154, y155, y156, y157, y158, y159, y160, y161, y162, y163, y164, y165, y166, y167, y168, y169, y170, y171, y172, y173, y174, y175, y176, y177, y178, y179, y180, y181, y182, y183, y184, y185, y186, y187, y188, y189, y190, y191, y192, y193, y194, y195, y196, y197, y198, y199, y200, y201, y202, y203, y204, y205, y206, y207, y208, y209, y210, y211, y212, y213, y214, y215, y216, y217, y218, y219, y220, y221, y222, y223, y224, y225, y226, y227, y228, y229, y230, y231, y232, y233, y234, y235, y236, y237, y238, y239, y240, y241, y242, y243, y244, y245, y246, y247, y248, y249, y250, y251, y252, y253, y254, y255, y256, y257, y258, y259, y260, y261, y262, y263, y264, y265, y266, y267, y268, y269, y270, y271, y272, y273, y274, y275, y276, y277, y278, y279, y280, y281, y282, y283, y284, y285, y286, y287, y288, y289, y290, y291, y292, y293, y294, y295, y296, y297, y298, y299, y300, y301, y302, y303, y304, y305, y306, y307, y308, y309, y310, y311, y312, y313, y314, y315, y316, y317, y318, y319, y320, y321, y322, y323, y324, y325, y326, y327, y328, y329, y330, y331, y332, y333, y334, y335, y336, y337, y338, y339, y340, y341, y342, y343, y344, y345, y346, y347, y348, y349, y350, y351, y352, y353, y354, y355, y356, y357, y358, y359, y360, y361, y362, y363, y364, y365, y366, y367, y368, y369, y370, y371, y372, y373, y374, y375, y376, y377, y378, y379, y380, y381, y382, y383, y384, y385, y386, y387, y388, y389, y390, y391, y392, y393, y394, y395, y396, y397, y398, y399, y400, y401, y402, y403, y404, y405, y406, y407, y408, y409, y410, y411, y412, y413, y414, y415, y416, y417, y418, y419, y420, y421, y422, y423, y424, y425, y426, y427, y428, y429, y430, y431, y432, y433, y434, y435, y436, y437, y438, y439, y440, y441, y442, y443, y444, y445, y446, y447, y448, y449, y450, y451, y452, y453, y454, y455, y456, y457, y458, y459, y460, y461, y462, y463, y464, y465, y466, y467, y468, y469, y470, y471, y472, y473, y474, y475, y476, y477, y478, y479, y480, y481, y482, y483, y484, y485, y486, y487, y488, y489, y490, y491, y492, y493, y494, y495, y496, y497, y498, y499, y500, y501, y502, y503, y504, y505, y506, y507, y508, y509, y510, y511, y512, y513, y514, y515, y516, y517, y518, y519, y520, y521, y522, y523, y524, y525, y526, y527, y528, y529, y530, y531, y532, y533, y534, y535, y536, y537, y538, y539, y540, y541, y542, y543, y544, y545, y546, y547, y548, y549, y550, y551, y552, y553, y554, y555, y556, y557, y558], []⟩ wx := by
  conv => arg 2; whnf
  go_wp2_with fail
  go_loopw [26, 27] (fun s i wr => ∃ k : Nat, k ≤ n2 ∧ i = .int .i64 k ∧ s = .int .i64 ((cnt (kp M Y2) k : Nat) : Int) ∧ Below wL.heap.size wL wr) (fun _ i _ => n2 - (intOf i).toNat)
  case atStart => exact ⟨0, Nat.zero_le _, rfl, rfl, HB.out⟩
  case round =>
    obtain ⟨k, hk, rfl, rfl, hbl⟩ := hrel
    have hck := cnt_le (kp M Y2) k
    by_cases hlt : k < n2
    · have g0 := A3.out (by omega)
      subst g0
      have g6 := A6.out (by have := HU.out k hlt; omega)
      subst g6
      obtain ⟨y, hy⟩ : ∃ y : Nat, Y2 k = (y : Int) := ⟨(Y2 k).toNat, by have := HU.out k hlt; omega⟩
      have hyn : y < n := by have := HU.out k hlt; omega
      have c1 := cell_below hbl (R3.out.x k hlt)
      have c2 := cell_below hbl (R3.out.y k hlt)
      have m1 := cell_below hbl (R6.out y hyn)
      have HY : Hid ((Y2 k).toNat = y) := hid (by omega)
      rw [hy] at c2
      simp only [Nat.zero_add] at c1 c2 m1
      have j1 : (0 : Int) ≤ (k : Int) := by omega
      have j2 : (k : Int) < (n2 : Int) := by omega
      have j3 : (0 : Int) ≤ (y : Int) := by omega
      have j4 : (y : Int) < (n : Int) := by omega
      have HB1 := hid hbl
      cases hm : M y with
      | false =>
        rw [hm] at m1
        have HM : Hid (kp M Y2 k = false) := hid (by show M (Y2 k).toNat = false; rw [HY.out]; exact hm)
        clear hbl hm hy
        go_wp2_with fail
        go_roundw
        case rel => exact ⟨k + 1, by omega, by go_num, by rw [cnt_neg HM.out], HB1.out⟩
        case measure => simp [intOf]; omega
      | true =>
        rw [hm] at m1
        have hkp : kp M Y2 k = true := by show M (Y2 k).toNat = true; rw [HY.out]; exact hm
        have hcl := cnt_lt hlt hkp
        have g9 := V2.out.A (by omega)
        subst g9
        have c0 := cell_below hbl V2.out.c
        have g1 := cell_below hbl (V2.out.get k hlt hkp 0 _ (by omega) rfl)
        have g2 := cell_below hbl (V2.out.get k hlt hkp 1 _ (by omega) rfl)
        rw [HY.out] at g2
        simp only [Nat.add_zero] at g1
        have j5 : (0 : Int) ≤ ((cnt (kp M Y2) k : Nat) : Int) := by omega
        have j6 : ((cnt (kp M Y2) k : Nat) : Int) < ((cnt (kp M Y2) n2 : Nat) : Int) := by omega
        have dg : decide (((cnt (kp M Y2) n2 : Nat) : Int) ≤ ((cnt (kp M Y2) k : Nat) : Int)) = false := by simp; omega
        have HM := hid hkp
        have CR := hid (CM.out wr hbl)
        clear hbl hm hy hkp
        go_wp2_with fail
        go_quiet ((go_at_call 37; refine Calls.quiet_of_same (CR.out _ ?_ y hyn); rfl))
        go_wp2_with fail
        go_roundw
        case rel => exact ⟨k + 1, by omega, by go_num, by rw [cnt_pos HM.out]; go_num, below_draws HB1.out _⟩
        case measure => simp [intOf]; omega
    · obtain rfl : n2 = k := by omega
      have HB := hid hbl
      clear hbl
      go_wp2_with fail
      go_meet
      case rel => exact ⟨rfl, HB.out⟩
end Go.Proofs.Qxb6605479a
