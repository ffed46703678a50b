import Derived.Test.YbulkdrqiZc
import Derived.Test.YbulkdrqiZo
namespace Go.Proofs.Ybulkdrqi
open Go.RowKit Go.Conc

set_option linter.unusedSimpArgs false in
set_option linter.unusedVariables false in
set_option maxRecDepth 1000000 in
set_option maxHeartbeats 8000000 in
theorem st23a (w0 w : World) (H b off n cap B K Fa P LG SA stn : Nat) (v : PV) (a0 fo : Option Addr) (Ad : Nat → Option Addr) (ln Cp Vb Vo sz : Nat → Nat) (V : Nat → Nat → Int) (fl : Nat → Bool) (b3 b4 : Bool) (si col yi : Int) (z1 z4 z9 z10 z11 z12 z13 z14 z15 z16 z17 z18 z19 z20 z21 z22 z24 z28 z29 z31 z32 z34 z35 z36 z37 z38 z39 z40 z41 z42 z43 z44 z45 z46 z47 z48 z49 z50 z51 z52 z53 z54 z55 z56 z57 z58 z59 z60 z61 z62 z63 z64 z65 z66 z67 z68 z69 z70 z71 z72 z73 z74 z75 z76 z77 z78 z79 z80 z81 z82 z83 z84 z85 z86 z87 z88 z89 z90 z91 z92 z93 z94 z95 z96 z97 z98 z99 z100 z101 z102 z103 z104 z105 z106 z107 z108 z109 z110 z111 z112 z113 z114 z115 z116 z117 z118 z119 z120 z121 z122 z123 z124 z125 z126 z127 z128 z129 z130 z131 z132 z133 z134 z135 z136 z137 z138 z139 z140 z141 z142 z143 z144 z145 z146 z147 z148 z149 z150 z151 z152 z153 z154 z155 z156 z157 z158 z159 z160 z161 z162 z163 z164 z165 z166 z167 z168 z169 z170 z171 z172 z173 z174 z175 z176 z177 z178 z179 z180 z181 z182 z183 z184 z185 z186 z187 z188 z189 z190 z191 z192 z193 z194 z195 z196 z197 z198 z199 z200 z201 z202 z203 z204 z205 z206 z207 z208 z209 z210 z211 z212 z213 z214 z215 z216 z217 z218 z219 z220 z221 z222 z223 z224 z225 z226 z227 z228 z229 z230 z231 z232 z233 z234 z235 z236 z237 z238 z239 z240 z241 z242 z243 z244 z245 z246 z247 z248 z249 z250 z251 z252 z253 z254 z255 z256 z257 z258 z259 z260 z261 z262 z263 z264 z265 z266 z267 z268 z269 z270 z271 z272 z273 z274 z275 z276 z277 z278 z279 z280 z281 z282 z283 z284 z285 z286 z287 z288 z289 z290 z291 z292 z293 z294 z295 z296 z297 z298 z299 z300 z301 z302 z303 z304 z305 z306 z307 z308 z309 z310 z311 z312 z313 z314 z315 z316 z317 z318 z319 z320 z321 z322 z323 z324 z325 z326 z327 z328 z329 z330 z331 z332 z333 z334 z335 z336 z337 z338 z339 z340 z341 z342 z343 z344 z345 z346 z347 z348 z349 z350 z351 z352 z353 z354 z355 z356 z357 z358 z359 z360 z361 z362 z363 z364 z365 z366 z367 z368 z369 z370 z371 z372 z373 z374 z375 z376 z377 z378 z379 z380 z381 z382 z383 z384 z385 z386 z387 z388 z389 z390 z391 z392 z393 z394 z395 z396 z397 z398 z399 z400 z401 z402 z403 z404 z405 z406 z407 z408 z409 z410 z411 z412 z413 z414 z415 z416 z417 z418 z419 z420 z421 z422 z423 z424 z425 z426 z427 z428 z429 z430 z431 z432 z433 z434 z435 z436 z437 z438 z439 z440 z441 z442 z443 z444 z445 z446 z447 z448 z449 z450 z451 z452 z453 z454 z455 z456 z457 : Value)
    (hn : n ≤ 65536) (e0 : 0 < n → a0 = some ⟨b, off, none⟩) (hA : Af w0 w H b off n B K Fa P LG SA stn v Ad ln Cp Vb Vo sz (fun _ => 0) V fl []) (hc : v.col = wrap64 (col + ((0 : Nat) : Int))) (hy : v.yi = wrap64 (yi + ((0 : Nat) : Int))) (hf : v.fault = .pointer fo) (hE : En true b3 b4 si v w) :
    Code.wp Yba.prog (tl 23 (bodyOf Yba.f3)) (bodyPost Yba.prog Yba.f3 fun e w' => e = .returned (.bool true) ∧ Below H w0 w') ⟨#[.bool true, z1, .bool b3, .bool b4, z4, .int .i64 si, .int .i64 col, .int .i64 yi, .slice a0 n cap, z9, z10, z11, z12, z13, z14, z15, z16, z17, z18, z19, z20, z21, z22, .pointer (some ⟨P, 0, none⟩), z24, .pointer fo, .slice (some ⟨K, 0, none⟩) n n, .slice (some ⟨Fa, 0, none⟩) n n, z28, z29, .pointer (some ⟨LG, 0, none⟩), z31, z32, .bool false, z34, z35, z36, z37, z38, z39, z40, z41, z42, z43, z44, z45, z46, z47, z48, z49, z50, z51, z52, z53, z54, z55, z56, z57, z58, z59, z60, z61, z62, z63, z64, z65, z66, z67, z68, z69, z70, z71, z72, z73, z74, z75, z76, z77, z78, z79, z80, z81, z82, z83, z84, z85, z86, z87, z88, z89, z90, z91, z92, z93, z94, z95, z96, z97, z98, z99, z100, z101, z102, z103, z104, z105, z106, z107, z108, z109, z110, z111, z112, z113, z114, z115, z116, z117, z118, z119, z120, z121, z122, z123, z124, z125, z126, z127, z128, z129, z130, z131, z132, z133, z134, z135, z136, z137, z138, z139, z140, z141, z142, z143, z144, z145, z146, z147, z148, z149, z150, z151, z152, z153, z154, z155, z156, z157, z158, z159, z160, z161, z162, z163, z164, z165, z166, z167, z168, z169, z170, z171, z172, z173, z174, z175, z176, z177, z178, z179, z180, z181, z182, z183, z184, z185, z186, z187, z188, z189, z190, z191, z192, z193, z194, z195, z196, z197, z198, z199, z200, z201, z202, z203, z204, z205, z206, z207, z208, z209, z210, z211, z212, z213, z214, z215, z216, z217, z218, z219, z220, z221, z222, z223, z224, z225, z226, z227, z228, z229, z230, z231, z232, z233, z234, z235, z236, z237, z238, z239, z240, z241, z242, z243, z244, z245, z246, z247, z248, z249, z250, z251, z252, z253, z254, z255, z256, z257, z258, z259, z260, z261, z262, z263, z264, z265, z266, z267, z268, z269, z270, z271, z272, z273, z274, z275, z276, z277, z278, z279, z280, z281, z282, z283, z284, z285, z286, z287, z288, z289, z290, z291, z292, z293, z294, z295, z296, z297, z298, z299, z300, z301, z302, z303, z304, z305, z306, z307, z308, z309, z310, z311, z312, z313, z314, z315, z316, z317, z318, z319, z320, z321, z322, z323, z324, z325, z326, z327, z328, z329, z330, z331, z332, z333, z334, z335, z336, z337, z338, z339, z340, z341, z342, z343, z344, z345, z346, z347, z348, z349, z350, z351, z352, z353, z354, z355, z356, z357, z358, z359, z360, z361, z362, z363, z364, z365, z366, z367, z368, z369, z370, z371, z372, z373, z374, z375, z376, z377, z378, z379, z380, z381, z382, z383, z384, z385, z386, z387, z388, z389, z390, z391, z392, z393, z394, z395, z396, z397, z398, z399, z400, z401, z402, z403, z404, z405, z406, z407, z408, z409, z410, z411, z412, z413, z414, z415, z416, z417, z418, z419, z420, z421, z422, z423, z424, z425, z426, z427, z428, z429, z430, z431, z432, z433, z434, z435, z436, z437, z438, z439, z440, z441, z442, z443, z444, z445, z446, z447, z448, z449, z450, z451, z452, z453, z454, z455, z456, z457], []⟩ w := by
  have hmk := mk23 w n hn
  have HA : Hid (Af w0 w H b off n B K Fa P LG SA stn v Ad ln Cp Vb Vo sz (fun _ => 0) V fl []) := hA
  have HE : Hid (0 < n → a0 = some ⟨b, off, none⟩) := e0
  have HN : Hid (En true b3 b4 si v w) := hE
  have HC : Hid (v.col = wrap64 (col + ((0 : Nat) : Int))) := hc
  have HY : Hid (v.yi = wrap64 (yi + ((0 : Nat) : Int))) := hy
  have HF : Hid (v.fault = .pointer fo) := hf
  clear hA e0 hE hc hy hf
  conv => arg 2; whnf
  refine wp_seq_k (fun KK hK => ?_)
  have HK : Hid (∀ a w', Code.wp Yba.prog (tl 24 (bodyOf Yba.f3)) (bodyPost Yba.prog Yba.f3 fun e w' => e = .returned (.bool true) ∧ Below H w0 w') a w' → KK a w') := hK
  clear hK
  go_wp2_with fail
  refine HK.out _ _ ?_
  clear HK
  conv => arg 2; whnf
  refine wp_seq_k (fun KK hK => ?_)
  have HK : Hid (∀ a w', Code.wp Yba.prog (tl 25 (bodyOf Yba.f3)) (bodyPost Yba.prog Yba.f3 fun e w' => e = .returned (.bool true) ∧ Below H w0 w') a w' → KK a w') := hK
  clear hK
  go_wp2_with fail
  refine HK.out _ _ ?_
  clear HK
  conv => arg 2; whnf
  refine wp_seq_k (fun KK hK => ?_)
  have HK : Hid (∀ a w', Code.wp Yba.prog (tl 26 (bodyOf Yba.f3)) (bodyPost Yba.prog Yba.f3 fun e w' => e = .returned (.bool true) ∧ Below H w0 w') a w' → KK a w') := hK
  clear hK
  go_wp2_with fail
  refine HK.out _ _ ?_
  clear HK
  conv => arg 2; whnf
  refine wp_seq_k (fun KK hK => ?_)
  have HK : Hid (∀ a w', Code.wp Yba.prog (tl 27 (bodyOf Yba.f3)) (bodyPost Yba.prog Yba.f3 fun e w' => e = .returned (.bool true) ∧ Below H w0 w') a w' → KK a w') := hK
  clear hK
  go_wp2_with fail
  refine HK.out _ _ ?_
  clear HK
  have hM := md_made w n ln V
  have hbq : Below w.heap.size w (w.alloc (.cells (madeCells #[.int .i64 0] n) 3)) := hM.be
  exact st27a w0 (w.alloc (.cells (madeCells #[.int .i64 0] n) 3)) H b off n cap B K Fa w.heap.size P LG SA stn v a0 fo Ad ln Cp Vb Vo sz V fl b3 b4 si col yi _ _ _ _ _ _ _ _ _ _ _ _ _ _ _ _ _ _ _ _ _ _ _ _ _ _ _ _ _ _ _ _ _ _ _ _ _ _ _ _ _ _ _ _ _ _ _ _ _ _ _ _ _ _ _ _ _ _ _ _ _ _ _ _ _ _ _ _ _ _ _ _ _ _ _ _ _ _ _ _ _ _ _ _ _ _ _ _ _ _ _ _ _ _ _ _ _ _ _ _ _ _ _ _ _ _ _ _ _ _ _ _ _ _ _ _ _ _ _ _ _ _ _ _ _ _ _ _ _ _ _ _ _ _ _ _ _ _ _ _ _ _ _ _ _ _ _ _ _ _ _ _ _ _ _ _ _ _ _ _ _ _ _ _ _ _ _ _ _ _ _ _ _ _ _ _ _ _ _ _ _ _ _ _ _ _ _ _ _ _ _ _ _ _ _ _ _ _ _ _ _ _ _ _ _ _ _ _ _ _ _ _ _ _ _ _ _ _ _ _ _ _ _ _ _ _ _ _ _ _ _ _ _ _ _ _ _ _ _ _ _ _ _ _ _ _ _ _ _ _ _ _ _ _ _ _ _ _ _ _ _ _ _ _ _ _ _ _ _ _ _ _ _ _ _ _ _ _ _ _ _ _ _ _ _ _ _ _ _ _ _ _ _ _ _ _ _ _ _ _ _ _ _ _ _ _ _ _ _ _ _ _ _ _ _ _ _ _ _ _ _ _ _ _ _ _ _ _ _ _ _ _ _ _ _ _ _ _ _ _ _ _ _ _ _ _ _ _ _ _ _ _ _ _ _ _ _ _ _ _ _ _ _ _ _ _ _ _ _ _ _ _ _ _ _ _ _ _ _ _ _ _ _ _ _ _ _ _ _ _ _ _ _ _ _ _ _ _ _ _ _ _ _ _ _ _ _ _ _ _ _ _ _ _ _ _ _ _ _ _ _ _ _ _ _ _ _ _ _ _ _ _ _ _ _ _ _ _ _ _ _ _ hn HE.out (HA.out.later hbq) (fun i hi => by rw [hM.po i hi]; simp [hdF]) HC.out HY.out HF.out (HN.out.later hbq)

set_option linter.unusedSimpArgs false in
set_option linter.unusedVariables false in
set_option maxRecDepth 1000000 in
set_option maxHeartbeats 8000000 in
theorem st23b (w0 w : World) (H b off n cap B K Fa P LG SA stn : Nat) (v : PV) (a0 fo : Option Addr) (Ad : Nat → Option Addr) (ln Cp Vb Vo sz : Nat → Nat) (V : Nat → Nat → Int) (fl : Nat → Bool) (b3 b4 : Bool) (si col yi : Int) (got : Bool) (iF qF kd : Nat) (z1 z4 z9 z10 z11 z12 z13 z14 z15 z16 z17 z18 z20 z21 z22 z24 z28 z29 z31 z32 z34 z35 z36 z37 z38 z39 z40 z41 z42 z43 z44 z45 z46 z47 z48 z49 z50 z51 z52 z53 z54 z55 z56 z57 z58 z59 z60 z61 z62 z63 z64 z65 z66 z67 z68 z69 z70 z71 z72 z73 z74 z75 z76 z77 z78 z79 z80 z81 z82 z83 z84 z85 z86 z87 z88 z89 z90 z91 z92 z93 z94 z95 z96 z97 z98 z99 z100 z101 z102 z103 z104 z105 z106 z107 z108 z109 z110 z111 z112 z113 z114 z115 z116 z117 z118 z119 z120 z121 z122 z123 z124 z125 z126 z127 z128 z129 z130 z131 z132 z133 z134 z135 z136 z137 z138 z139 z140 z141 z142 z143 z144 z145 z146 z147 z148 z149 z150 z151 z152 z153 z154 z155 z156 z157 z158 z159 z160 z161 z162 z163 z164 z165 z166 z167 z168 z169 z170 z171 z172 z173 z174 z175 z176 z177 z178 z179 z180 z181 z182 z183 z184 z185 z186 z187 z188 z189 z190 z191 z192 z193 z194 z195 z196 z197 z198 z199 z200 z201 z202 z203 z204 z205 z206 z207 z208 z209 z210 z211 z212 z213 z214 z215 z216 z217 z218 z219 z220 z221 z222 z223 z224 z225 z226 z227 z228 z229 z230 z231 z232 z233 z234 z235 z236 z237 z238 z239 z240 z241 z242 z243 z244 z245 z246 z247 z248 z249 z250 z251 z252 z253 z254 z255 z256 z257 z258 z259 z260 z261 z262 z263 z264 z265 z266 z267 z268 z269 z270 z271 z272 z273 z274 z275 z276 z277 z278 z279 z280 z281 z282 z283 z284 z285 z286 z287 z288 z289 z290 z291 z292 z293 z294 z295 z296 z297 z298 z299 z300 z301 z302 z303 z304 z305 z306 z307 z308 z309 z310 z311 z312 z313 z314 z315 z316 z317 z318 z319 z320 z321 z322 z323 z324 z325 z326 z327 z328 z329 z330 z331 z332 z333 z334 z335 z336 z337 z338 z339 z340 z341 z342 z343 z344 z345 z346 z347 z348 z349 z350 z351 z352 z353 z354 z355 z356 z357 z358 z359 z360 z361 z362 z363 z364 z365 z366 z367 z368 z369 z370 z371 z372 z373 z374 z375 z376 z377 z378 z379 z380 z381 z382 z383 z384 z385 z386 z387 z388 z389 z390 z391 z392 z393 z394 z395 z396 z397 z398 z399 z400 z401 z402 z403 z404 z405 z406 z407 z408 z409 z410 z411 z412 z413 z414 z415 z416 z417 z418 z419 z420 z421 z422 z423 z424 z425 z426 z427 z428 z429 z430 z431 z432 z433 z434 z435 z436 z437 z438 z439 z440 z441 z442 z443 z444 z445 z446 z447 z448 z449 z450 z451 z452 z453 z454 z455 z456 z457 : Value)
    (hn : n ≤ 65536) (e0 : 0 < n → a0 = some ⟨b, off, none⟩) (hsm : sm ln n ≤ 65536) (hA : Af w0 w H b off n B K Fa P LG SA stn v Ad ln Cp Vb Vo sz (hdF ln iF qF) V fl (lg ln V iF qF)) (hfin : fin stn ln fl n 0 0 = (iF, qF, kd)) (hgot : got = (kd == 0)) (hc : v.col = wrap64 (col + ((sm ln iF + qF : Nat) : Int))) (hy : v.yi = wrap64 (yi + ((sm ln iF + qF : Nat) : Int))) (hf : v.fault = ftv kd (.pointer fo) (B + 4 * iF)) (hE : En false b3 b4 si v w) (hst : stn < 256) :
    Code.wp Yba.prog (tl 23 (bodyOf Yba.f3)) (bodyPost Yba.prog Yba.f3 fun e w' => e = .returned (.bool true) ∧ Below H w0 w') ⟨#[.bool false, z1, .bool b3, .bool b4, z4, .int .i64 si, .int .i64 col, .int .i64 yi, .slice a0 n cap, z9, z10, z11, z12, z13, z14, z15, z16, z17, z18, .pointer (some ⟨SA, 0, none⟩), z20, z21, z22, .pointer (some ⟨P, 0, none⟩), z24, .pointer fo, .slice (some ⟨K, 0, none⟩) n n, .slice (some ⟨Fa, 0, none⟩) n n, z28, z29, .pointer (some ⟨LG, 0, none⟩), z31, z32, .bool got, z34, z35, z36, z37, z38, z39, z40, z41, z42, z43, z44, z45, z46, z47, z48, z49, z50, z51, z52, z53, z54, z55, z56, z57, z58, z59, z60, z61, z62, z63, z64, z65, z66, z67, z68, z69, z70, z71, z72, z73, z74, z75, z76, z77, z78, z79, z80, z81, z82, z83, z84, z85, z86, z87, z88, z89, z90, z91, z92, z93, z94, z95, z96, z97, z98, z99, z100, z101, z102, z103, z104, z105, z106, z107, z108, z109, z110, z111, z112, z113, z114, z115, z116, z117, z118, z119, z120, z121, z122, z123, z124, z125, z126, z127, z128, z129, z130, z131, z132, z133, z134, z135, z136, z137, z138, z139, z140, z141, z142, z143, z144, z145, z146, z147, z148, z149, z150, z151, z152, z153, z154, z155, z156, z157, z158, z159, z160, z161, z162, z163, z164, z165, z166, z167, z168, z169, z170, z171, z172, z173, z174, z175, z176, z177, z178, z179, z180, z181, z182, z183, z184, z185, z186, z187, z188, z189, z190, z191, z192, z193, z194, z195, z196, z197, z198, z199, z200, z201, z202, z203, z204, z205, z206, z207, z208, z209, z210, z211, z212, z213, z214, z215, z216, z217, z218, z219, z220, z221, z222, z223, z224, z225, z226, z227, z228, z229, z230, z231, z232, z233, z234, z235, z236, z237, z238, z239, z240, z241, z242, z243, z244, z245, z246, z247, z248, z249, z250, z251, z252, z253, z254, z255, z256, z257, z258, z259, z260, z261, z262, z263, z264, z265, z266, z267, z268, z269, z270, z271, z272, z273, z274, z275, z276, z277, z278, z279, z280, z281, z282, z283, z284, z285, z286, z287, z288, z289, z290, z291, z292, z293, z294, z295, z296, z297, z298, z299, z300, z301, z302, z303, z304, z305, z306, z307, z308, z309, z310, z311, z312, z313, z314, z315, z316, z317, z318, z319, z320, z321, z322, z323, z324, z325, z326, z327, z328, z329, z330, z331, z332, z333, z334, z335, z336, z337, z338, z339, z340, z341, z342, z343, z344, z345, z346, z347, z348, z349, z350, z351, z352, z353, z354, z355, z356, z357, z358, z359, z360, z361, z362, z363, z364, z365, z366, z367, z368, z369, z370, z371, z372, z373, z374, z375, z376, z377, z378, z379, z380, z381, z382, z383, z384, z385, z386, z387, z388, z389, z390, z391, z392, z393, z394, z395, z396, z397, z398, z399, z400, z401, z402, z403, z404, z405, z406, z407, z408, z409, z410, z411, z412, z413, z414, z415, z416, z417, z418, z419, z420, z421, z422, z423, z424, z425, z426, z427, z428, z429, z430, z431, z432, z433, z434, z435, z436, z437, z438, z439, z440, z441, z442, z443, z444, z445, z446, z447, z448, z449, z450, z451, z452, z453, z454, z455, z456, z457], []⟩ w := by
  have hmk := mk23 w n hn
  have HA : Hid (Af w0 w H b off n B K Fa P LG SA stn v Ad ln Cp Vb Vo sz (hdF ln iF qF) V fl (lg ln V iF qF)) := hA
  have HE : Hid (0 < n → a0 = some ⟨b, off, none⟩) := e0
  have HFIN : Hid (fin stn ln fl n 0 0 = (iF, qF, kd)) := hfin
  have HG : Hid (got = (kd == 0)) := hgot
  have HN : Hid (En false b3 b4 si v w) := hE
  have HC : Hid (v.col = wrap64 (col + ((sm ln iF + qF : Nat) : Int))) := hc
  have HY : Hid (v.yi = wrap64 (yi + ((sm ln iF + qF : Nat) : Int))) := hy
  have HF : Hid (v.fault = ftv kd (.pointer fo) (B + 4 * iF)) := hf
  clear hA e0 hfin hgot hE hc hy hf
  conv => arg 2; whnf
  refine wp_seq_k (fun KK hK => ?_)
  have HK : Hid (∀ a w', Code.wp Yba.prog (tl 24 (bodyOf Yba.f3)) (bodyPost Yba.prog Yba.f3 fun e w' => e = .returned (.bool true) ∧ Below H w0 w') a w' → KK a w') := hK
  clear hK
  go_wp2_with fail
  refine HK.out _ _ ?_
  clear HK
  conv => arg 2; whnf
  refine wp_seq_k (fun KK hK => ?_)
  have HK : Hid (∀ a w', Code.wp Yba.prog (tl 25 (bodyOf Yba.f3)) (bodyPost Yba.prog Yba.f3 fun e w' => e = .returned (.bool true) ∧ Below H w0 w') a w' → KK a w') := hK
  clear hK
  go_wp2_with fail
  refine HK.out _ _ ?_
  clear HK
  conv => arg 2; whnf
  refine wp_seq_k (fun KK hK => ?_)
  have HK : Hid (∀ a w', Code.wp Yba.prog (tl 26 (bodyOf Yba.f3)) (bodyPost Yba.prog Yba.f3 fun e w' => e = .returned (.bool true) ∧ Below H w0 w') a w' → KK a w') := hK
  clear hK
  go_wp2_with fail
  refine HK.out _ _ ?_
  clear HK
  conv => arg 2; whnf
  refine wp_seq_k (fun KK hK => ?_)
  have HK : Hid (∀ a w', Code.wp Yba.prog (tl 27 (bodyOf Yba.f3)) (bodyPost Yba.prog Yba.f3 fun e w' => e = .returned (.bool true) ∧ Below H w0 w') a w' → KK a w') := hK
  clear hK
  go_wp2_with fail
  refine HK.out _ _ ?_
  clear HK
  have hM := md_made w n ln V
  exact st27b w0 w (w.alloc (.cells (madeCells #[.int .i64 0] n) 3)) H b off n cap B K Fa w.heap.size P LG SA stn v a0 fo Ad ln Cp Vb Vo sz V fl b3 b4 si col yi got iF qF kd _ _ _ _ _ _ _ _ _ _ _ _ _ _ _ _ _ _ _ _ _ _ _ _ _ _ _ _ _ _ _ _ _ _ _ _ _ _ _ _ _ _ _ _ _ _ _ _ _ _ _ _ _ _ _ _ _ _ _ _ _ _ _ _ _ _ _ _ _ _ _ _ _ _ _ _ _ _ _ _ _ _ _ _ _ _ _ _ _ _ _ _ _ _ _ _ _ _ _ _ _ _ _ _ _ _ _ _ _ _ _ _ _ _ _ _ _ _ _ _ _ _ _ _ _ _ _ _ _ _ _ _ _ _ _ _ _ _ _ _ _ _ _ _ _ _ _ _ _ _ _ _ _ _ _ _ _ _ _ _ _ _ _ _ _ _ _ _ _ _ _ _ _ _ _ _ _ _ _ _ _ _ _ _ _ _ _ _ _ _ _ _ _ _ _ _ _ _ _ _ _ _ _ _ _ _ _ _ _ _ _ _ _ _ _ _ _ _ _ _ _ _ _ _ _ _ _ _ _ _ _ _ _ _ _ _ _ _ _ _ _ _ _ _ _ _ _ _ _ _ _ _ _ _ _ _ _ _ _ _ _ _ _ _ _ _ _ _ _ _ _ _ _ _ _ _ _ _ _ _ _ _ _ _ _ _ _ _ _ _ _ _ _ _ _ _ _ _ _ _ _ _ _ _ _ _ _ _ _ _ _ _ _ _ _ _ _ _ _ _ _ _ _ _ _ _ _ _ _ _ _ _ _ _ _ _ _ _ _ _ _ _ _ _ _ _ _ _ _ _ _ _ _ _ _ _ _ _ _ _ _ _ _ _ _ _ _ _ _ _ _ _ _ _ _ _ _ _ _ _ _ _ _ _ _ _ _ _ _ _ _ _ _ _ _ _ _ _ _ _ _ _ _ _ _ _ _ _ _ _ _ _ _ _ _ _ _ _ _ _ _ _ _ _ _ _ _ _ _ _ _ _ _ _ _ _ _ _ _ _ _ hn HE.out hsm HA.out rfl HFIN.out HG.out HC.out HY.out HF.out HN.out hst hM
end Go.Proofs.Ybulkdrqi
