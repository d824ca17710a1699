/-
  THE LAW ON keepRoles: the rules on assigning.
-/
import Derived.Test.Qxb6605479aSeen
import Derived.Test.Qxb6605479aMaps
import Derived.Deep.CutBlock
import Derived.BigQuiet
import Derived.Deep.RegionWith
import Derived.Test.Qxb6605479aLoops4
namespace Go.Proofs.Qxb6605479a
open Go.RowKit

set_option linter.unusedVariables false in
set_option maxHeartbeats 16000000 in
set_option maxRecDepth 100000 in
theorem pcL6 {J K' : Act → World → Prop} {Q' : Exit → Act → World → Prop} (wL wx : World) (n : Nat) (sn : n ≤ 65536) (M : Nat → Bool) (e6 : Option Addr) (f6 q6 : Nat) (A6 : Hid (0 < n → e6 = some ⟨f6, 0, none⟩)) (R6 : Hid (Bv wL f6 0 n M)) (ia : Option Addr) (icap : Nat) (CM : Hid (∀ (wr : World), Below wL.heap.size wL wr → ∀ (y : World), y.heap = wr.heap → ∀ x, x < n → Calls Try.prog 37 #[.int .i64 (num M x : Int), .int .i64 (x : Int), .slice e6 n q6, .slice ia (cnt M n) icap] y fun e w' => e = .returned (.bool true) ∧ w' = y)) (ob : Nat) (HB : Hid (Below wL.heap.size wL wx)) (c : CA) (sc : c.n ≤ 65536) (HP7 : Hid (∀ i, i < c.n → c.pl i ≤ 1048576)) (e7 : Option Addr) (q7 cB : Nat) (A7 : Hid (0 < c.n → e7 = some ⟨cB, 0, none⟩)) (R7 : Hid (CAv wL cB 0 (c.moved cB))) (pb : Nat → Nat) (r4 : Option Addr) (g4 p4 : Nat) (V4 : Hid (Lv wL ob 4 (kp M c.ro) c.n 3 (caRow M c pb) r4 g4 p4)) (KLR : Hid (∀ i, i < c.n → kp M c.ro i = true → ∀ t, t < c.pl i → wL.cell? ⟨pb i, t * 2, none⟩ = some (.int .i64 (num M (c.lr i t).toNat : Int)))) (KLN : Hid (∀ i, i < c.n → kp M c.ro i = true → ∀ t, t < c.pl i → wL.cell? ⟨pb i, t * 2 + 1, none⟩ = some (.bool (c.ln i t)))) (HIN : Hid (CAin c n))
    {y0 y1 y2 y3 y4 y5 y8 y9 y10 y11 y12 y13 y14 y15 y16 y17 y18 y19 y20 y23 y24 y25 y27 y28 y30 y31 y32 y33 y34 y35 y36 y37 y38 y39 y40 y41 y42 y43 y44 y45 y46 y47 y48 y49 y50 y51 y52 y53 y54 y55 y56 y57 y58 y59 y60 y61 y62 y63 y64 y65 y66 y67 y68 y69 y70 y71 y72 y73 y74 y75 y76 y77 y78 y79 y80 y81 y82 y83 y84 y85 y86 y87 y88 y89 y90 y91 y92 y93 y94 y95 y96 y97 y98 y99 y100 y101 y102 y103 y104 y105 y106 y107 y108 y109 y110 y111 y112 y113 y114 y115 y116 y117 y118 y119 y120 y121 y122 y123 y124 y125 y126 y127 y128 y129 y130 y131 y132 y133 y134 y135 y136 y137 y138 y139 y140 y141 y142 y143 y144 y145 y146 y147 y148 y149 y150 y151 y152 y153 y154 y155 y156 y157 y158 y159 y160 y161 y162 y163 y164 y165 y166 y167 y168 y169 y170 y171 y172 y173 y174 y175 y176 y177 y178 y179 y180 y181 y182 y183 y184 y185 y186 y187 y188 y189 y190 y191 y192 y193 y194 y195 y196 y197 y198 y199 y200 y201 y202 y203 y204 y205 y206 y207 y208 y209 y210 y211 y212 y213 y214 y215 y216 y217 y218 y219 y220 y221 y222 y223 y224 y225 y226 y227 y228 y229 y230 y231 y232 y233 y234 y235 y236 y237 y238 y239 y240 y241 y242 y243 y244 y245 y246 y247 y248 y249 y250 y251 y252 y253 y254 y255 y256 y257 y258 y259 y260 y261 y262 y263 y264 y265 y266 y267 y268 y269 y270 y271 y272 y273 y274 y275 y276 y277 y278 y279 y280 y281 y282 y283 y284 y285 y286 y287 y288 y289 y290 y291 y292 y293 y294 y295 y296 y297 y298 y299 y300 y301 y302 y303 y304 y305 y306 y307 y308 y309 y310 y311 y312 y313 y314 y315 y316 y317 y318 y319 y320 y321 y322 y323 y324 y325 y326 y327 y328 y329 y330 y331 y332 y333 y334 y335 y336 y337 y338 y339 y340 y341 y342 y343 y344 y345 y346 y347 y348 y349 y350 y351 y352 y353 y354 y355 y356 y357 y358 y359 y360 y361 y362 y363 y364 y365 y366 y367 y368 y369 y370 y371 y372 y373 y374 y375 y376 y377 y378 y379 y380 y381 y382 y383 y384 y385 y386 y387 y388 y389 y390 y391 y392 y393 y394 y395 y396 y397 y398 y399 y400 y401 y402 y403 y404 y405 y406 y407 y408 y409 y410 y411 y412 y413 y414 y415 y416 y417 y418 y419 y420 y421 y422 y423 y424 y425 y426 y427 y428 y429 y430 y431 y432 y433 y434 y435 y436 y437 y438 y439 y440 y441 y442 y443 y444 y445 y446 y447 y448 y449 y450 y451 y452 y453 y454 y455 y456 y457 y458 y459 y460 y461 y462 y463 y464 y465 y466 y467 y468 y469 y470 y471 y472 y473 y474 y475 y476 y477 y478 y479 y480 y481 y482 y483 y484 y485 y486 y487 y488 y489 y490 y491 y492 y493 y494 y495 y496 y497 y498 y499 y500 y501 y502 y503 y504 y505 y506 y507 y508 y509 y510 y511 y512 y513 y514 y515 y516 y517 y518 y519 y520 y521 y522 y523 y524 y525 y526 y527 y528 y529 y530 y531 y532 y533 y534 y535 y536 y537 y538 y539 y540 y541 y542 y543 y544 y545 y546 y547 y548 y549 y550 y551 y552 y553 y554 y555 y556 y557 y558 : Value} (h2 : ∀ a' w', Met J a' w' → K' a' w') (h1 : ∀ a' w', (∃ u18 u26 u29 u30 u31 u427 u428 u429 u430 u431 u432 u433 u434 u435 u436 u437 u438 u439 u440 u441 u442 u443 u444 u445 u446 u447 u448 u449 u450 u451 u452 u453 u454 u455 u456 u457 u458 u459 u460 u461 u462 u463 u464 u465 u466 u467 u468 u469 u470 u471 u472 u473 u474 u475 u476 u477 u478 u479 u480 u481 u482 u483 u484 u485 u486 u487 u488 u489 u490 u491 u492 u493 u494 u495 u496 u497 u498 u499 u500 u501 u502 u503 u504 u505 u506 u507 u508 u509 u510 u511 u512 u513 u514 u515 u516 u517 u518 u519 u520 u521 u522 u523 u524 u525 u526 u527 u528 u529 u530 u531 u532 u533 u534 u535 u536 u537 u538 u539 u540 : Value, (u26 = .int .i64 ((cnt (kp M c.ro) c.n : Nat) : Int) ∧ Below wL.heap.size wL w') ∧ a' = ⟨#[y0, y1, y2, y3, y4, y5, .slice e6 n q6, .slice e7 c.n q7, y8, y9, y10, y11, y12, y13, y14, y15, y16, y17, u18, y19, y20, .pointer (some ⟨ob, 0, none⟩), .slice ia (cnt M n) icap, y23, y24, y25, u26, y27, y28, u29, u30, u31, y32, y33, y34, y35, y36, y37, y38, y39, y40, y41, y42, y43, y44, y45, y46, y47, y48, y49, y50, y51, y52, y53, y54, y55, y56, y57, y58, y59, y60, y61, y62, y63, y64, y65, y66, y67, y68, y69, y70, y71, y72, y73, y74, y75, y76, y77, y78, y79, y80, y81, y82, y83, y84, y85, y86, y87, y88, y89, y90, y91, y92, y93, y94, y95, y96, y97, y98, y99, y100, y101, y102, y103, y104, y105, y106, y107, y108, y109, y110, y111, y112, y113, y114, y115, y116, y117, y118, y119, y120, y121, y122, y123, y124, y125, y126, y127, y128, y129, y130, y131, y132, y133, y134, y135, y136, y137, y138, y139, y140, y141, y142, y143, y144, y145, y146, y147, y148, y149, y150, y151, y152, y153, y154, y155, y156, y157, y158, y159, y160, y161, y162, y163, y164, y165, y166, y167, y168, y169, y170, y171, y172, y173, y174, y175, y176, y177, y178, y179, y180, y181, y182, y183, y184, y185, y186, y187, y188, y189, y190, y191, y192, y193, y194, y195, y196, y197, y198, y199, y200, y201, y202, y203, y204, y205, y206, y207, y208, y209, y210, y211, y212, y213, y214, y215, y216, y217, y218, y219, y220, y221, y222, y223, y224, y225, y226, y227, y228, y229, y230, y231, y232, y233, y234, y235, y236, y237, y238, y239, y240, y241, y242, y243, y244, y245, y246, y247, y248, y249, y250, y251, y252, y253, y254, y255, y256, y257, y258, y259, y260, y261, y262, y263, y264, y265, y266, y267, y268, y269, y270, y271, y272, y273, y274, y275, y276, y277, y278, y279, y280, y281, y282, y283, y284, y285, y286, y287, y288, y289, y290, y291, y292, y293, y294, y295, y296, y297, y298, y299, y300, y301, y302, y303, y304, y305, y306, y307, y308, y309, y310, y311, y312, y313, y314, y315, y316, y317, y318, y319, y320, y321, y322, y323, y324, y325, y326, y327, y328, y329, y330, y331, y332, y333, y334, y335, y336, y337, y338, y339, y340, y341, y342, y343, y344, y345, y346, y347, y348, y349, y350, y351, y352, y353, y354, y355, y356, y357, y358, y359, y360, y361, y362, y363, y364, y365, y366, y367, y368, y369, y370, y371, y372, y373, y374, y375, y376, y377, y378, y379, y380, y381, y382, y383, y384, y385, y386, y387, y388, y389, y390, y391, y392, y393, y394, y395, y396, y397, y398, y399, y400, y401, y402, y403, y404, y405, y406, y407, y408, y409, y410, y411, y412, y413, y414, y415, y416, y417, y418, y419, y420, y421, y422, y423, y424, y425, y426, u427, u428, u429, u430, u431, u432, u433, u434, u435, u436, u437, u438, u439, u440, u441, u442, u443, u444, u445, u446, u447, u448, u449, u450, u451, u452, u453, u454, u455, u456, u457, u458, u459, u460, u461, u462, u463, u464, u465, u466, u467, u468, u469, u470, u471, u472, u473, u474, u475, u476, u477, u478, u479, u480, u481, u482, u483, u484, u485, u486, u487, u488, u489, u490, u491, u492, u493, u494, u495, u496, u497, u498, u499, u500, u501, u502, u503, u504, u505, u506, u507, u508, u509, u510, u511, u512, u513, u514, u515, u516, u517, u518, u519, u520, u521, u522, u523, u524, u525, u526, u527, u528, u529, u530, u531, u532, u533, u534, u535, u536, u537, u538, u539, u540, y541, y542, y543, y544, y545, y546, y547, y548, y549, y550, y551, y552, y553, y554, y555, y556, y557, y558], []⟩) → J a' w') :
    Code.wp Try.prog (blk 10) (Exit.then K' Q') ⟨#[y0, y1, y2, y3, y4, y5, .slice e6 n q6, .slice e7 c.n q7, y8, y9, y10, y11, y12, y13, y14, y15, y16, y17, y18, y19, y20, .pointer (some ⟨ob, 0, none⟩), .slice ia (cnt M n) icap, y23, y24, y25, .int .i64 0, y27, y28, .int .i64 0, y30, y31, y32, y33, y34, y35, y36, y37, y38, y39, y40, y41, y42, y43, y44, y45, y46, y47, y48, y49, y50, y51, y52, y53, y54, y55, y56, y57, y58, y59, y60, y61, y62, y63, y64, y65, y66, y67, y68, y69, y70, y71, y72, y73, y74, y75, y76, y77, y78, y79, y80, y81, y82, y83, y84, y85, y86, y87, y88, y89, y90, y91, y92, y93, y94, y95, y96, y97, y98, y99, y100, y101, y102, y103, y104, y105, y106, y107, y108, y109, y110, y111, y112, y113, y114, y115, y116, y117, y118, y119, y120, y121, y122, y123, y124, y125, y126, y127, y128, y129, y130, y131, y132, y133, y134, y135, y136, y137, y138, y139, y140, y141, y142, y143, y144, y145, y146, y147, y148, y149, y150, y151, y152, y153, y154, y155, y156, y157, y158, y159, y160, y161, y162, y163, y164, y165, y166, y167, y168, y169, y170, y171, y172, y173, y174, y175, y176, y177, y178, y179, y180, y181, y182, y183, y184, y185, y186, y187, y188, y189, y190, y191, y192, y193, y194, y195, y196, y197, y198, y199, y200, y201, y202, y203, y204, y205, y206, y207, y208, y209, y210, y211, y212, y213, y214, y215, y216, y217, y218, y219, y220, y221, y222, y223, y224, y225, y226, y227, y228, y229, y230, y231, y232, y233, y234, y235, y236, y237, y238, y239, y240, y241, y242, y243, y244, y245, y246, y247, y248, y249, y250, y251, y252, y253, y254, y255, y256, y257, y258, y259, y260, y261, y262, y263, y264, y265, y266, y267, y268, y269, y270, y271, y272, y273, y274, y275, y276, y277, y278, y279, y280, y281, y282, y283, y284, y285, y286, y287, y288, y289, y290, y291, y292, y293, y294, y295, y296, y297, y298, y299, y300, y301, y302, y303, y304, y305, y306, y307, y308, y309, y310, y311, y312, y313, y314, y315, y316, y317, y318, y319, y320, y321, y322, y323, y324, y325, y326, y327, y328, y329, y330, y331, y332, y333, y334, y335, y336, y337, y338, y339, y340, y341, y342, y343, y344, y345, y346, y347, y348, y349, y350, y351, y352, y353, y354, y355, y356, y357, y358, y359, y360, y361, y362, y363, y364, y365, y366, y367, y368, y369, y370, y371, y372, y373, y374, y375, y376, y377, y378, y379, y380, y381, y382, y383, y384, y385, y386, y387, y388, y389, y390, y391, y392, y393, y394, y395, y396, y397, y398, y399, y400, y401, y402, y403, y404, y405, y406, y407, y408, y409, y410, y411, y412, y413, y414, y415, y416, y417, y418, y419, y420, y421, y422, y423, y424, y425, y426, y427, y428, y429, y430, y431, y432, y433, y434, y435, y436, y437, y438, y439, y440, y441, y442, y443, y444, y445, y446, y447, y448, y449, y450, y451, y452, y453, y454, y455, y456, y457, y458, y459, y460, y461, y462, y463, y464, y465, y466, y467, y468, y469, y470, y471, y472, y473, y474, y475, y476, y477, y478, y479, y480, y481, y482, y483, y484, y485, y486, y487, y488, y489, y490, y491, y492, y493, y494, y495, y496, y497, y498, y499, y500, y501, y502, y503, y504, y505, y506, y507, y508, y509, y510, y511, y512, y513, y514, y515, y516, y517, y518, y519, y520, y521, y522, y523, y524, y525, y526, y527, y528, y529, y530, y531, y532, y533, y534, y535, y536, y537, y538, y539, y540, y541, y542, y543, y544, y545, y546, y547, y548, y549, y550, y551, y552, y553, y554, y555, y556, y557, y558], []⟩ wx := by
  conv => arg 2; whnf
  go_wp2_with fail
  go_loopw [26, 29] (fun s i wr => ∃ k : Nat, k ≤ c.n ∧ i = .int .i64 k ∧ s = .int .i64 ((cnt (kp M c.ro) k : Nat) : Int) ∧ Below wL.heap.size wL wr) (fun _ i _ => c.n - (intOf i).toNat)
  case atStart => exact ⟨0, Nat.zero_le _, rfl, rfl, HB.out⟩
  case round =>
    obtain ⟨k, hk, rfl, rfl, hbl⟩ := hrel
    have hck := cnt_le (kp M c.ro) k
    by_cases hlt : k < c.n
    · have g0 := A7.out (by omega)
      subst g0
      have g6 := A6.out (by have := (HIN.out k hlt).1; omega)
      subst g6
      obtain ⟨x, hx⟩ : ∃ x : Nat, c.ad k = (x : Int) := ⟨(c.ad k).toNat, by have := (HIN.out k hlt).1; omega⟩
      have hxn : x < n := by have := (HIN.out k hlt).1; omega
      have HX : Hid ((c.ad k).toNat = x) := hid (by omega)
      obtain ⟨y, hy⟩ : ∃ y : Nat, c.ro k = (y : Int) := ⟨(c.ro k).toNat, by have := (HIN.out k hlt).2.1; omega⟩
      have hyn : y < n := by have := (HIN.out k hlt).2.1; omega
      have HY : Hid ((c.ro k).toNat = y) := hid (by omega)
      obtain ⟨pa, hpa⟩ : ∃ pa, (c.moved cB).pa k = pa := ⟨_, rfl⟩
      obtain ⟨pc, hpc⟩ : ∃ pc, (c.moved cB).pc k = pc := ⟨_, rfl⟩
      have k1 : wL.cell? ⟨cB, k * 3, none⟩ = some (.int .i64 (x : Int)) := by
        have h := R7.out.ad k hlt
        rw [show (c.moved cB).ad k = (x : Int) from hx, Nat.zero_add] at h
        exact h
      have k2 : wL.cell? ⟨cB, k * 3 + 1, none⟩ = some (.slice pa (c.pl k) pc) := by
        have h := R7.out.pre k hlt
        rw [hpa, hpc, show (c.moved cB).pl k = c.pl k from rfl, Nat.zero_add] at h
        exact h
      have k3 : wL.cell? ⟨cB, k * 3 + 2, none⟩ = some (.int .i64 (y : Int)) := by
        have h := R7.out.ro k hlt
        rw [show (c.moved cB).ro k = (y : Int) from hy, Nat.zero_add] at h
        exact h
      have PA : Hid (0 < c.pl k → pa = some ⟨(c.moved cB).pb k, (c.moved cB).po k, none⟩) := hid (fun h => by rw [← hpa]; exact R7.out.at_ k hlt h)
      have K1 := hid k1
      have K2 := hid k2
      have K3 := hid k3
      replace k1 := cell_below hbl k1
      replace k2 := cell_below hbl k2
      replace k3 := cell_below hbl k3
      have m1 := cell_below hbl (R6.out y hyn)
      simp only [Nat.zero_add] at m1
      have j1 : (0 : Int) ≤ (k : Int) := by omega
      have j2 : (k : Int) < ((c.n : Nat) : Int) := by omega
      have j3 : (0 : Int) ≤ (y : Int) := by omega
      have j4 : (y : Int) < (n : Int) := by omega
      have hpl := HP7.out k hlt
      have HB1 := hid hbl
      cases hm : M y with
      | false =>
        rw [hm] at m1
        have HM : Hid (kp M c.ro k = false) := hid (by show M (c.ro k).toNat = false; rw [HY.out]; exact hm)
        clear hbl hm hy hx hpa hpc
        go_wp2_with fail
        go_roundw
        case rel => exact ⟨k + 1, by omega, by go_num, by rw [cnt_neg HM.out], HB1.out⟩
        case measure => simp [intOf]; omega
      | true =>
        rw [hm] at m1
        have hkp : kp M c.ro k = true := by show M (c.ro k).toNat = true; rw [HY.out]; exact hm
        have hcl := cnt_lt hlt hkp
        have g9 := V4.out.A (by omega)
        subst g9
        have c0 := cell_below hbl V4.out.c
        have g1 := cell_below hbl (V4.out.get k hlt hkp 0 _ (by omega) rfl)
        have g2' := cell_below hbl (V4.out.get k hlt hkp 1 _ (by omega) rfl)
        have g3 := cell_below hbl (V4.out.get k hlt hkp 2 _ (by omega) rfl)
        rw [HX.out] at g1
        rw [HY.out] at g3
        simp only [Nat.add_zero] at g1
        have j5 : (0 : Int) ≤ ((cnt (kp M c.ro) k : Nat) : Int) := by omega
        have j6 : ((cnt (kp M c.ro) k : Nat) : Int) < ((cnt (kp M c.ro) c.n : Nat) : Int) := by omega
        have dg : decide (((cnt (kp M c.ro) c.n : Nat) : Int) ≤ ((cnt (kp M c.ro) k : Nat) : Int)) = false := by simp; omega
        have HM := hid hkp
        have LR := hid (KLR.out k hlt hkp)
        have LN := hid (KLN.out k hlt hkp)
        clear hbl hm hy hx hpa hpc hkp
        go_wp2_with fail
        have hc0 := heap_alloc_new wr (.cells #[.int .i64 (num M x : Int), .slice (some ⟨pb k, 0, none⟩) (c.pl k) (c.pl k), .int .i64 (num M y : Int)] 72)
        have BW : Hid (Below wL.heap.size wL (wr.alloc (.cells #[.int .i64 (num M x : Int), .slice (some ⟨pb k, 0, none⟩) (c.pl k) (c.pl k), .int .i64 (num M y : Int)] 72))) := hid (HB1.out.alloc (by have := HB1.out.size; omega) _)
        generalize hW : wr.alloc (.cells #[.int .i64 (num M x : Int), .slice (some ⟨pb k, 0, none⟩) (c.pl k) (c.pl k), .int .i64 (num M y : Int)] 72) = W at hc0 BW ⊢
        have v0 := cell_of_row W wr.heap.size 0 _ _ _ hc0
        have v1 := cell_of_row W wr.heap.size 1 _ _ _ hc0
        have v2 := cell_of_row W wr.heap.size 2 _ _ _ hc0
        simp at v0 v1 v2
        clear hc0 hW k1 k2 k3 m1 c0 g1 g2' g3
        have k1 := cell_below BW.out K1.out
        have k2 := cell_below BW.out K2.out
        have k3 := cell_below BW.out K3.out
        have j7 : (0 : Int) ≤ (x : Int) := by omega
        have j8 : (x : Int) < (n : Int) := by omega
        have CR := hid (CM.out W BW.out)
        go_quiet (first | (go_at_call_of 37 (num M x); refine Calls.quiet_of_same (CR.out _ ?_ x hxn); rfl) | (go_at_call_of 37 (num M y); refine Calls.quiet_of_same (CR.out _ ?_ y hyn); rfl))
        have heq := fun wx => Lib.run_eql_slice_nil (P := Try.prog) wx 70 73 (some ⟨pb k, 0, none⟩) (c.pl k) (c.pl k) 0 0 Try.underlying70
        simp only [Option.isNone_some] at heq
        have dn : ((c.pl k : Int) != (c.pl k : Int)) = false := by simp
        go_wp2_with fail
        go_quiet (fail)
        clear heq dn
        have V1 := hid v1
        clear v0 v1 v2 k1 k2 k3
        go_upto_block 12 with fail
        go_cut [] from 495 to 538 (fun w' => Below W.heap.size W w')
        case first =>
          exact pcL7 W _ n M (some ⟨f6, 0, none⟩) q6 ia (cnt M n) icap (hid (fun wr hb => CM.out wr (below_of BW.out BW.out.size hb))) (hid (below_draws (below_draws (Below.refl _ _) _) _)) wr.heap.size (pb k) (c.pl k) hpl cB c.n q7 k sc j1 j2 pa pc ((c.moved cB).pb k) ((c.moved cB).po k) (c.lr k) (c.ln k) V1 (hid (cell_below BW.out K2.out)) PA (hid (fun t ht => cell_below BW.out (LR.out t ht))) (hid (fun t ht => cell_below BW.out (LN.out t ht))) (hid (fun t ht => cell_below BW.out (R7.out.lr k hlt t ht))) (hid (fun t ht => cell_below BW.out (R7.out.ln k hlt t ht))) (hid (fun t ht => (HIN.out k hlt).2.2 t ht)) (by assumption) (by assumption)
        case rest =>
          have HBT := hid hcut
          clear hcut
          go_wp2_with fail
          go_roundw
          case rel => exact ⟨k + 1, by omega, by go_num, by rw [cnt_pos HM.out]; go_num, below_of BW.out BW.out.size HBT.out⟩
          case measure => simp [intOf]; omega
    · obtain rfl : k = c.n := by omega
      have HB := hid hbl
      clear hbl
      go_wp2_with fail
      go_meet
      case rel => exact ⟨rfl, HB.out⟩
end Go.Proofs.Qxb6605479a
