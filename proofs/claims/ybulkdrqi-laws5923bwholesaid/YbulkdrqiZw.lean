import Derived.Test.YbulkdrqiZe
import Derived.Test.YbulkdrqiZv
namespace Go.Proofs.Ybulkdrqi
open Go.RowKit Go.Conc

set_option linter.unusedSimpArgs false in
set_option linter.unusedVariables false in
set_option maxRecDepth 1000000 in
set_option maxHeartbeats 8000000 in
theorem st15 (w0 w1 w : World) (H b off n cap P stn QB wake : Nat) (dv : Value) (a0 fo : Option Addr) (Ad : Nat → Option Addr) (ln Cp Vb Vo : Nat → Nat) (V : Nat → Nat → Int) (fl : Nat → Bool) (b1 b3 b4 : Bool) (si col yi : Int) (z1 z4 z9 z10 z11 z12 z13 z14 z15 z16 z17 z18 z20 z21 z22 z24 z26 z27 z28 z29 z30 z31 z32 z33 z34 z35 z36 z37 z38 z39 z40 z41 z42 z43 z44 z45 z46 z47 z48 z49 z50 z51 z52 z53 z54 z55 z56 z57 z58 z59 z60 z61 z62 z63 z64 z65 z66 z67 z68 z69 z70 z71 z72 z73 z74 z75 z76 z77 z78 z79 z80 z81 z82 z83 z84 z85 z86 z87 z88 z89 z90 z91 z92 z93 z94 z95 z96 z97 z98 z99 z100 z101 z102 z103 z104 z105 z106 z107 z108 z109 z110 z111 z112 z113 z114 z115 z116 z117 z118 z119 z120 z121 z122 z123 z124 z125 z126 z127 z128 z129 z130 z131 z132 z133 z134 z135 z136 z137 z138 z139 z140 z141 z142 z143 z144 z145 z146 z147 z148 z149 z150 z151 z152 z153 z154 z155 z156 z157 z158 z159 z160 z161 z162 z163 z164 z165 z166 z167 z168 z169 z170 z171 z172 z173 z174 z175 z176 z177 z178 z179 z180 z181 z182 z183 z184 z185 z186 z187 z188 z189 z190 z191 z192 z193 z194 z195 z196 z197 z198 z199 z200 z201 z202 z203 z204 z205 z206 z207 z208 z209 z210 z211 z212 z213 z214 z215 z216 z217 z218 z219 z220 z221 z222 z223 z224 z225 z226 z227 z228 z229 z230 z231 z232 z233 z234 z235 z236 z237 z238 z239 z240 z241 z242 z243 z244 z245 z246 z247 z248 z249 z250 z251 z252 z253 z254 z255 z256 z257 z258 z259 z260 z261 z262 z263 z264 z265 z266 z267 z268 z269 z270 z271 z272 z273 z274 z275 z276 z277 z278 z279 z280 z281 z282 z283 z284 z285 z286 z287 z288 z289 z290 z291 z292 z293 z294 z295 z296 z297 z298 z299 z300 z301 z302 z303 z304 z305 z306 z307 z308 z309 z310 z311 z312 z313 z314 z315 z316 z317 z318 z319 z320 z321 z322 z323 z324 z325 z326 z327 z328 z329 z330 z331 z332 z333 z334 z335 z336 z337 z338 z339 z340 z341 z342 z343 z344 z345 z346 z347 z348 z349 z350 z351 z352 z353 z354 z355 z356 z357 z358 z359 z360 z361 z362 z363 z364 z365 z366 z367 z368 z369 z370 z371 z372 z373 z374 z375 z376 z377 z378 z379 z380 z381 z382 z383 z384 z385 z386 z387 z388 z389 z390 z391 z392 z393 z394 z395 z396 z397 z398 z399 z400 z401 z402 z403 z404 z405 z406 z407 z408 z409 z410 z411 z412 z413 z414 z415 z416 z417 z418 z419 z420 z421 z422 z423 z424 z425 z426 z427 z428 z429 z430 z431 z432 z433 z434 z435 z436 z437 z438 z439 z440 z441 z442 z443 z444 z445 z446 z447 z448 z449 z450 z451 z452 z453 z454 z455 z456 z457 : Value)
    (hn : n ≤ 65536) (e0 : 0 < n → a0 = some ⟨b, off, none⟩) (hst : stn < 256) (hsm : sm ln n ≤ 65536) (hcol : wrap64 col = col) (hyi : wrap64 yi = yi) (hH : H = w0.heap.size) (hW : Wv w0 b off n Ad ln Cp Vb Vo V fl) (hb1 : Below H w0 w1) (hz1 : w1.heap.size = H + 1) (hSA : w1.cell? ⟨H, 0, none⟩ = some (.int .u8 (stn : Int))) (hI : I1 w1 w H P wake QB (pv dv (.slice none 0 0) wake QB fo b3 b4 si col yi)) (hD : DD b1 w P dv) :
    Code.wp Yba.prog (tl 15 (bodyOf Yba.f3)) (bodyPost Yba.prog Yba.f3 fun e w' => e = .returned (.bool true) ∧ Below H w0 w') ⟨#[.bool b1, z1, .bool b3, .bool b4, z4, .int .i64 si, .int .i64 col, .int .i64 yi, .slice a0 n cap, z9, z10, z11, z12, z13, z14, z15, z16, z17, z18, .pointer (some ⟨H, 0, none⟩), z20, z21, z22, .pointer (some ⟨P, 0, none⟩), z24, .pointer fo, z26, z27, z28, z29, z30, z31, z32, z33, z34, z35, z36, z37, z38, z39, z40, z41, z42, z43, z44, z45, z46, z47, z48, z49, z50, z51, z52, z53, z54, z55, z56, z57, z58, z59, z60, z61, z62, z63, z64, z65, z66, z67, z68, z69, z70, z71, z72, z73, z74, z75, z76, z77, z78, z79, z80, z81, z82, z83, z84, z85, z86, z87, z88, z89, z90, z91, z92, z93, z94, z95, z96, z97, z98, z99, z100, z101, z102, z103, z104, z105, z106, z107, z108, z109, z110, z111, z112, z113, z114, z115, z116, z117, z118, z119, z120, z121, z122, z123, z124, z125, z126, z127, z128, z129, z130, z131, z132, z133, z134, z135, z136, z137, z138, z139, z140, z141, z142, z143, z144, z145, z146, z147, z148, z149, z150, z151, z152, z153, z154, z155, z156, z157, z158, z159, z160, z161, z162, z163, z164, z165, z166, z167, z168, z169, z170, z171, z172, z173, z174, z175, z176, z177, z178, z179, z180, z181, z182, z183, z184, z185, z186, z187, z188, z189, z190, z191, z192, z193, z194, z195, z196, z197, z198, z199, z200, z201, z202, z203, z204, z205, z206, z207, z208, z209, z210, z211, z212, z213, z214, z215, z216, z217, z218, z219, z220, z221, z222, z223, z224, z225, z226, z227, z228, z229, z230, z231, z232, z233, z234, z235, z236, z237, z238, z239, z240, z241, z242, z243, z244, z245, z246, z247, z248, z249, z250, z251, z252, z253, z254, z255, z256, z257, z258, z259, z260, z261, z262, z263, z264, z265, z266, z267, z268, z269, z270, z271, z272, z273, z274, z275, z276, z277, z278, z279, z280, z281, z282, z283, z284, z285, z286, z287, z288, z289, z290, z291, z292, z293, z294, z295, z296, z297, z298, z299, z300, z301, z302, z303, z304, z305, z306, z307, z308, z309, z310, z311, z312, z313, z314, z315, z316, z317, z318, z319, z320, z321, z322, z323, z324, z325, z326, z327, z328, z329, z330, z331, z332, z333, z334, z335, z336, z337, z338, z339, z340, z341, z342, z343, z344, z345, z346, z347, z348, z349, z350, z351, z352, z353, z354, z355, z356, z357, z358, z359, z360, z361, z362, z363, z364, z365, z366, z367, z368, z369, z370, z371, z372, z373, z374, z375, z376, z377, z378, z379, z380, z381, z382, z383, z384, z385, z386, z387, z388, z389, z390, z391, z392, z393, z394, z395, z396, z397, z398, z399, z400, z401, z402, z403, z404, z405, z406, z407, z408, z409, z410, z411, z412, z413, z414, z415, z416, z417, z418, z419, z420, z421, z422, z423, z424, z425, z426, z427, z428, z429, z430, z431, z432, z433, z434, z435, z436, z437, z438, z439, z440, z441, z442, z443, z444, z445, z446, z447, z448, z449, z450, z451, z452, z453, z454, z455, z456, z457], []⟩ w := by
  have HE : Hid (0 < n → a0 = some ⟨b, off, none⟩) := e0
  have HW : Hid (Wv w0 b off n Ad ln Cp Vb Vo V fl) := hW
  have HH : Hid (H = w0.heap.size) := hH
  have HB1 : Hid (Below H w0 w1) := hb1
  have HZ1 : Hid (w1.heap.size = H + 1) := hz1
  have HSA : Hid (w1.cell? ⟨H, 0, none⟩ = some (.int .u8 (stn : Int))) := hSA
  clear e0 hW hH hb1 hz1 hSA
  have HI : Hid (I1 w1 w H P wake QB (pv dv (.slice none 0 0) wake QB fo b3 b4 si col yi)) := hI
  have HD : Hid (DD b1 w P dv) := hD
  clear hI hD
  have hmk := mk53 w n hn
  conv => arg 2; whnf
  refine wp_seq_k (fun KK hK => ?_)
  have HK : Hid (∀ a w', Code.wp Yba.prog (tl 16 (bodyOf Yba.f3)) (bodyPost Yba.prog Yba.f3 fun e w' => e = .returned (.bool true) ∧ Below H w0 w') a w' → KK a w') := hK
  clear hK
  go_wp2_with fail
  refine HK.out _ _ ?_
  clear HK
  have hbK : Below w.heap.size w (w.alloc (.cells (madeCells #[.pointer none] n) 69)) := by go_grown
  have hzK : (w.alloc (.cells (madeCells #[.pointer none] n) 69)).heap.size = w.heap.size + 1 := World.size_alloc _ _
  have htK := there_made w #[.pointer none] n 69
  clear hmk
  generalize (w.alloc (.cells (madeCells #[.pointer none] n) 69)) = wK at *
  have hmk := mk68 wK n hn
  have HBK : Hid (Below w.heap.size w wK) := hbK
  have HZK : Hid (wK.heap.size = w.heap.size + 1) := hzK
  have HTK : Hid (wK.there w.heap.size 0 n) := htK
  clear hbK hzK htK
  conv => arg 2; whnf
  refine wp_seq_k (fun KK hK => ?_)
  have HK : Hid (∀ a w', Code.wp Yba.prog (tl 17 (bodyOf Yba.f3)) (bodyPost Yba.prog Yba.f3 fun e w' => e = .returned (.bool true) ∧ Below H w0 w') a w' → KK a w') := hK
  clear hK
  go_wp2_with fail
  refine HK.out _ _ ?_
  clear HK
  have hbB : Below wK.heap.size wK (wK.alloc (.cells (madeCells #[.pointer none] n) 62)) := by go_grown
  have hzB : (wK.alloc (.cells (madeCells #[.pointer none] n) 62)).heap.size = wK.heap.size + 1 := World.size_alloc _ _
  have htB := there_made wK #[.pointer none] n 62
  clear hmk
  generalize (wK.alloc (.cells (madeCells #[.pointer none] n) 62)) = wB at *
  have hBe := HI.out.be0 (ln := ln) (V := V) (fl := fl) HD.out HB1.out HSA.out HBK.out HZK.out hbB hzB
  exact st17 w0 wB H b off n cap wB.heap.size w.heap.size wK.heap.size P H stn QB wake dv a0 fo Ad ln Cp Vb Vo (fun _ => 0) V fl b1 b3 b4 si col yi _ _ _ _ _ _ _ _ _ _ _ _ _ _ _ _ _ _ _ _ _ _ _ _ _ _ _ _ _ _ _ _ _ _ _ _ _ _ _ _ _ _ _ _ _ _ _ _ _ _ _ _ _ _ _ _ _ _ _ _ _ _ _ _ _ _ _ _ _ _ _ _ _ _ _ _ _ _ _ _ _ _ _ _ _ _ _ _ _ _ _ _ _ _ _ _ _ _ _ _ _ _ _ _ _ _ _ _ _ _ _ _ _ _ _ _ _ _ _ _ _ _ _ _ _ _ _ _ _ _ _ _ _ _ _ _ _ _ _ _ _ _ _ _ _ _ _ _ _ _ _ _ _ _ _ _ _ _ _ _ _ _ _ _ _ _ _ _ _ _ _ _ _ _ _ _ _ _ _ _ _ _ _ _ _ _ _ _ _ _ _ _ _ _ _ _ _ _ _ _ _ _ _ _ _ _ _ _ _ _ _ _ _ _ _ _ _ _ _ _ _ _ _ _ _ _ _ _ _ _ _ _ _ _ _ _ _ _ _ _ _ _ _ _ _ _ _ _ _ _ _ _ _ _ _ _ _ _ _ _ _ _ _ _ _ _ _ _ _ _ _ _ _ _ _ _ _ _ _ _ _ _ _ _ _ _ _ _ _ _ _ _ _ _ _ _ _ _ _ _ _ _ _ _ _ _ _ _ _ _ _ _ _ _ _ _ _ _ _ _ _ _ _ _ _ _ _ _ _ _ _ _ _ _ _ _ _ _ _ _ _ _ _ _ _ _ _ _ _ _ _ _ _ _ _ _ _ _ _ _ _ _ _ _ _ _ _ _ _ _ _ _ _ _ _ _ _ _ _ _ _ _ _ _ _ _ _ _ _ _ _ _ _ _ _ _ _ _ _ _ _ _ _ _ _ _ _ _ _ _ _ _ _ _ _ _ _ _ _ _ _ _ _ _ _ _ _ _ _ _ _ _ _ _ _ _ _ _ _ _ _ _ _ _ _ _ hn HE.out hst hsm hcol hyi HH.out HW.out hBe rfl (there_block HTK.out (hbB.block _ (by have := HZK.out; omega))) htB
end Go.Proofs.Ybulkdrqi
