import Derived.Test.YbulkdrqiZd
import Derived.Test.YbulkdrqiZu
namespace Go.Proofs.Ybulkdrqi
open Go.RowKit Go.Conc

set_option linter.unusedSimpArgs false in
set_option linter.unusedVariables false in
set_option maxRecDepth 1000000 in
set_option maxHeartbeats 8000000 in
theorem st17 (w0 w : World) (H b off n cap B K Fa P SA stn QB wake : Nat) (dv : Value) (a0 fo : Option Addr) (Ad : Nat → Option Addr) (ln Cp Vb Vo sz : Nat → Nat) (V : Nat → Nat → Int) (fl : Nat → Bool) (b1 b3 b4 : Bool) (si col yi : Int) (z1 z4 z9 z10 z11 z12 z13 z14 z15 z16 z17 z18 z20 z21 z22 z24 z28 z29 z30 z31 z32 z33 z34 z35 z36 z37 z38 z39 z40 z41 z42 z43 z44 z45 z46 z47 z48 z49 z50 z51 z52 z53 z54 z55 z56 z57 z58 z59 z60 z61 z62 z63 z64 z65 z66 z67 z68 z69 z70 z71 z72 z73 z74 z75 z76 z77 z78 z79 z80 z81 z82 z83 z84 z85 z86 z87 z88 z89 z90 z91 z92 z93 z94 z95 z96 z97 z98 z99 z100 z101 z102 z103 z104 z105 z106 z107 z108 z109 z110 z111 z112 z113 z114 z115 z116 z117 z118 z119 z120 z121 z122 z123 z124 z125 z126 z127 z128 z129 z130 z131 z132 z133 z134 z135 z136 z137 z138 z139 z140 z141 z142 z143 z144 z145 z146 z147 z148 z149 z150 z151 z152 z153 z154 z155 z156 z157 z158 z159 z160 z161 z162 z163 z164 z165 z166 z167 z168 z169 z170 z171 z172 z173 z174 z175 z176 z177 z178 z179 z180 z181 z182 z183 z184 z185 z186 z187 z188 z189 z190 z191 z192 z193 z194 z195 z196 z197 z198 z199 z200 z201 z202 z203 z204 z205 z206 z207 z208 z209 z210 z211 z212 z213 z214 z215 z216 z217 z218 z219 z220 z221 z222 z223 z224 z225 z226 z227 z228 z229 z230 z231 z232 z233 z234 z235 z236 z237 z238 z239 z240 z241 z242 z243 z244 z245 z246 z247 z248 z249 z250 z251 z252 z253 z254 z255 z256 z257 z258 z259 z260 z261 z262 z263 z264 z265 z266 z267 z268 z269 z270 z271 z272 z273 z274 z275 z276 z277 z278 z279 z280 z281 z282 z283 z284 z285 z286 z287 z288 z289 z290 z291 z292 z293 z294 z295 z296 z297 z298 z299 z300 z301 z302 z303 z304 z305 z306 z307 z308 z309 z310 z311 z312 z313 z314 z315 z316 z317 z318 z319 z320 z321 z322 z323 z324 z325 z326 z327 z328 z329 z330 z331 z332 z333 z334 z335 z336 z337 z338 z339 z340 z341 z342 z343 z344 z345 z346 z347 z348 z349 z350 z351 z352 z353 z354 z355 z356 z357 z358 z359 z360 z361 z362 z363 z364 z365 z366 z367 z368 z369 z370 z371 z372 z373 z374 z375 z376 z377 z378 z379 z380 z381 z382 z383 z384 z385 z386 z387 z388 z389 z390 z391 z392 z393 z394 z395 z396 z397 z398 z399 z400 z401 z402 z403 z404 z405 z406 z407 z408 z409 z410 z411 z412 z413 z414 z415 z416 z417 z418 z419 z420 z421 z422 z423 z424 z425 z426 z427 z428 z429 z430 z431 z432 z433 z434 z435 z436 z437 z438 z439 z440 z441 z442 z443 z444 z445 z446 z447 z448 z449 z450 z451 z452 z453 z454 z455 z456 z457 : Value)
    (hn : n ≤ 65536) (e0 : 0 < n → a0 = some ⟨b, off, none⟩) (hst : stn < 256) (hsm : sm ln n ≤ 65536) (hcol : wrap64 col = col) (hyi : wrap64 yi = yi) (hH : H = w0.heap.size) (hW : Wv w0 b off n Ad ln Cp Vb Vo V fl) (hB : Be w0 w H 0 B K Fa P SA stn QB wake dv (.slice none 0 0) fo b1 b3 b4 si col yi ln sz V fl) (hs : w.heap.size = B + 4 * 0) (hkt : w.there K 0 n) (hft : w.there Fa 0 n) :
    Code.wp Yba.prog (tl 17 (bodyOf Yba.f3)) (bodyPost Yba.prog Yba.f3 fun e w' => e = .returned (.bool true) ∧ Below H w0 w') ⟨#[.bool b1, z1, .bool b3, .bool b4, z4, .int .i64 si, .int .i64 col, .int .i64 yi, .slice a0 n cap, z9, z10, z11, z12, z13, z14, z15, z16, z17, z18, .pointer (some ⟨SA, 0, none⟩), z20, z21, z22, .pointer (some ⟨P, 0, none⟩), z24, .pointer fo, .slice (some ⟨K, 0, none⟩) n n, .slice (some ⟨Fa, 0, none⟩) n n, z28, z29, z30, z31, z32, z33, z34, z35, z36, z37, z38, z39, z40, z41, z42, z43, z44, z45, z46, z47, z48, z49, z50, z51, z52, z53, z54, z55, z56, z57, z58, z59, z60, z61, z62, z63, z64, z65, z66, z67, z68, z69, z70, z71, z72, z73, z74, z75, z76, z77, z78, z79, z80, z81, z82, z83, z84, z85, z86, z87, z88, z89, z90, z91, z92, z93, z94, z95, z96, z97, z98, z99, z100, z101, z102, z103, z104, z105, z106, z107, z108, z109, z110, z111, z112, z113, z114, z115, z116, z117, z118, z119, z120, z121, z122, z123, z124, z125, z126, z127, z128, z129, z130, z131, z132, z133, z134, z135, z136, z137, z138, z139, z140, z141, z142, z143, z144, z145, z146, z147, z148, z149, z150, z151, z152, z153, z154, z155, z156, z157, z158, z159, z160, z161, z162, z163, z164, z165, z166, z167, z168, z169, z170, z171, z172, z173, z174, z175, z176, z177, z178, z179, z180, z181, z182, z183, z184, z185, z186, z187, z188, z189, z190, z191, z192, z193, z194, z195, z196, z197, z198, z199, z200, z201, z202, z203, z204, z205, z206, z207, z208, z209, z210, z211, z212, z213, z214, z215, z216, z217, z218, z219, z220, z221, z222, z223, z224, z225, z226, z227, z228, z229, z230, z231, z232, z233, z234, z235, z236, z237, z238, z239, z240, z241, z242, z243, z244, z245, z246, z247, z248, z249, z250, z251, z252, z253, z254, z255, z256, z257, z258, z259, z260, z261, z262, z263, z264, z265, z266, z267, z268, z269, z270, z271, z272, z273, z274, z275, z276, z277, z278, z279, z280, z281, z282, z283, z284, z285, z286, z287, z288, z289, z290, z291, z292, z293, z294, z295, z296, z297, z298, z299, z300, z301, z302, z303, z304, z305, z306, z307, z308, z309, z310, z311, z312, z313, z314, z315, z316, z317, z318, z319, z320, z321, z322, z323, z324, z325, z326, z327, z328, z329, z330, z331, z332, z333, z334, z335, z336, z337, z338, z339, z340, z341, z342, z343, z344, z345, z346, z347, z348, z349, z350, z351, z352, z353, z354, z355, z356, z357, z358, z359, z360, z361, z362, z363, z364, z365, z366, z367, z368, z369, z370, z371, z372, z373, z374, z375, z376, z377, z378, z379, z380, z381, z382, z383, z384, z385, z386, z387, z388, z389, z390, z391, z392, z393, z394, z395, z396, z397, z398, z399, z400, z401, z402, z403, z404, z405, z406, z407, z408, z409, z410, z411, z412, z413, z414, z415, z416, z417, z418, z419, z420, z421, z422, z423, z424, z425, z426, z427, z428, z429, z430, z431, z432, z433, z434, z435, z436, z437, z438, z439, z440, z441, z442, z443, z444, z445, z446, z447, z448, z449, z450, z451, z452, z453, z454, z455, z456, z457], []⟩ w := by
  have HE : Hid (0 < n → a0 = some ⟨b, off, none⟩) := e0
  have HW : Hid (Wv w0 b off n Ad ln Cp Vb Vo V fl) := hW
  have HB0 : Hid (Be w0 w H 0 B K Fa P SA stn QB wake dv (.slice none 0 0) fo b1 b3 b4 si col yi ln sz V fl) := hB
  have HH : Hid (H = w0.heap.size) := hH
  have HS0 : Hid (w.heap.size = B + 4 * 0) := hs
  have HT0 : Hid (w.there K 0 n ∧ w.there Fa 0 n) := ⟨hkt, hft⟩
  clear e0 hW hB hH hs hkt hft
  conv => arg 2; whnf
  refine wp_seq_k (fun KK hK => ?_)
  have HK : Hid (∀ a w', Code.wp Yba.prog (tl 18 (bodyOf Yba.f3)) (bodyPost Yba.prog Yba.f3 fun e w' => e = .returned (.bool true) ∧ Below H w0 w') a w' → KK a w') := hK
  clear hK
  go_wp2_with fail
  go_loopw [135] (fun ix wr => ∃ k : Nat, k ≤ n ∧ ix = .int .i64 k ∧ ∃ sz, Hid (Be w0 wr H k B K Fa P SA stn QB wake dv (.slice none 0 0) fo b1 b3 b4 si col yi ln sz V fl) ∧ Hid (wr.heap.size = B + 4 * k) ∧ Hid (wr.there K 0 n ∧ wr.there Fa 0 n)) (fun ix _ => n - (intOf ix).toNat)
  case atStart => exact ⟨0, Nat.zero_le _, rfl, sz, HB0.out, HS0.out, HT0.out⟩
  case round =>
    obtain ⟨k, hk, rfl, sz', HB, HS, HT⟩ := hrel
    clear HB0 HS0 HT0
    by_cases hlt : k < n
    · obtain rfl := HE.out (by omega)
      have ho := HB.out.od
      have hWr : Wv wr b off n Ad ln Cp Vb Vo V fl := HW.out.later (by rw [← HH.out]; exact HB.out.be)
      have cw := (hWr.wk k hlt).1
      have cfl := (hWr.wk k hlt).2
      have hAd := (hWr.vs k hlt).1
      have hvs := (hWr.vs k hlt).2
      have hlk : ln k ≤ 65536 := by
        have h1 := sm_mono ln (i := k + 1) (j := n) hlt
        have h2 : sm ln (k + 1) = sm ln k + ln k := rfl
        omega
      have hg0 : Gw wr wr K Fa k n := Gw.start HT.out.1 HT.out.2 (by have := HB.out.lt; omega)
      obtain ⟨uF, huF⟩ := Option.isSome_iff_exists.1 (HT.out.2 k hlt).1
      have ffF := (HT.out.2 k hlt).2
      rw [Nat.zero_add] at huF ffF
      have hlF := block_lt_of_cell huF
      have HG0 : Hid (Gw wr wr K Fa k n) := hg0
      have HWr : Hid (Wv wr b off n Ad ln Cp Vb Vo V fl) := hWr
      have HO : Hid (H ≤ SA ∧ SA < QB ∧ SA < wake ∧ QB < P ∧ wake < P ∧ QB ≠ wake ∧ P < K ∧ K < Fa ∧ Fa < B) := ho
      have HVS : Hid ((0 < ln k → Ad k = some ⟨Vb k, Vo k, none⟩) ∧ ∀ j, j < ln k → wr.cell? ⟨Vb k, Vo k + j, none⟩ = some (.int .i64 (V k j))) := ⟨hAd, hvs⟩
      have HCF : Hid (wr.cell? ⟨b, off + k * 2 + 1, none⟩ = some (.bool (fl k))) := cfl
      have HCW : Hid (wr.cell? ⟨b, off + k * 2, none⟩ = some (.slice (Ad k) (ln k) (Cp k))) := cw
      clear hWr cw cfl hAd hvs hg0 ho
      have i0 : (0 : Int) ≤ (k : Int) := by omega
      have i1 : (k : Int) < (n : Int) := by omega
      have i2 : decide ((k : Int) < (n : Int)) = true := by simp [hlt]
      go_upto_region 35 with fail
      have hbF : Below (wr.setCell ⟨Fa, k, none⟩ (.pointer (some ⟨wr.heap.size, 0, none⟩))).heap.size (wr.setCell ⟨Fa, k, none⟩ (.pointer (some ⟨wr.heap.size, 0, none⟩))) ((wr.setCell ⟨Fa, k, none⟩ (.pointer (some ⟨wr.heap.size, 0, none⟩))).alloc (.cells #[.iface 3 (.int .i64 (k : Int))] 67)) := by go_grown
      have hg1 : Gw wr ((wr.setCell ⟨Fa, k, none⟩ (.pointer (some ⟨wr.heap.size, 0, none⟩))).alloc (.cells #[.iface 3 (.int .i64 (k : Int))] 67)) K Fa k n := (HG0.out.setF _).later hbF
      have hF1 : ((wr.setCell ⟨Fa, k, none⟩ (.pointer (some ⟨wr.heap.size, 0, none⟩))).alloc (.cells #[.iface 3 (.int .i64 (k : Int))] 67)).cell? ⟨Fa, k, none⟩ = some (.pointer (some ⟨wr.heap.size, 0, none⟩)) := cell_later hbF (World.cell?_setCell_same' _ _ _ (by rw [huF]; rfl))
      have hz1 : ((wr.setCell ⟨Fa, k, none⟩ (.pointer (some ⟨wr.heap.size, 0, none⟩))).alloc (.cells #[.iface 3 (.int .i64 (k : Int))] 67)).heap.size = wr.heap.size + 1 := by rw [World.size_alloc]; simp [World.setCell]
      clear huF ffF hlF hbF HWr HVS HCF HCW HG0
      generalize ((wr.setCell ⟨Fa, k, none⟩ (.pointer (some ⟨wr.heap.size, 0, none⟩))).alloc (.cells #[.iface 3 (.int .i64 (k : Int))] 67)) = wF at *
      have hWF : Wv wF b off n Ad ln Cp Vb Vo V fl := HW.out.later (by rw [← HH.out]; exact hg1.below HB.out.be (by have := HO.out; omega) (by have := HO.out; omega))
      have HVS : Hid ((0 < ln k → Ad k = some ⟨Vb k, Vo k, none⟩) ∧ ∀ j, j < ln k → wF.cell? ⟨Vb k, Vo k + j, none⟩ = some (.int .i64 (V k j))) := hWF.vs k hlt
      have F1 : Hid (wF.cell? ⟨b, off + k * 2, none⟩ = some (.slice (Ad k) (ln k) (Cp k)) ∧ wF.cell? ⟨Fa, k, none⟩ = some (.pointer (some ⟨wr.heap.size, 0, none⟩))) := ⟨(hWF.wk k hlt).1, hF1⟩
      have F2 : Hid (wF.drew.cell? ⟨b, off + k * 2, none⟩ = some (.slice (Ad k) (ln k) (Cp k)) ∧ wF.drew.cell? ⟨Fa, k, none⟩ = some (.pointer (some ⟨wr.heap.size, 0, none⟩))) := ⟨(hWF.wk k hlt).1, hF1⟩
      have HG1 : Hid (Gw wr wF K Fa k n) := hg1
      have HZ1 : Hid (wF.heap.size = wr.heap.size + 1) := hz1
      clear hWF hF1 hg1 hz1
      go_region_held3 (fun wx => wx.cell? ⟨b, off + k * 2, none⟩ = some (.slice (Ad k) (ln k) (Cp k)) ∧ wx.cell? ⟨Fa, k, none⟩ = some (.pointer (some ⟨wr.heap.size, 0, none⟩))) (first | with_reducible exact F1.out | with_reducible exact F2.out | with_reducible exact F3.out | exact ⟨cell_later (by go_grown) F3.out.1, cell_later (by go_grown) F3.out.2⟩)
        (first
          | (go_at_call 7; refine (zzring (Ad k) (ln k) (Cp k) (Vb k) (Vo k) (V k) wF.drew hlk HVS.out.1 HVS.out.2).mono ?_; rintro e w2 ⟨rfl, ⟨s, ex, g1, g2, g3, g4⟩, g5, g6⟩
             have F3 : Hid (w2.cell? ⟨b, off + k * 2, none⟩ = some (.slice (Ad k) (ln k) (Cp k)) ∧ w2.cell? ⟨Fa, k, none⟩ = some (.pointer (some ⟨wr.heap.size, 0, none⟩))) := ⟨cell_later g5 F2.out.1, cell_later g5 F2.out.2⟩
             have G1 : Hid (s = 2 ^ ex ∧ ln k ≤ s ∧ s ≤ 131072) := ⟨g1, g2, g3⟩
             have G4 : Hid _ := g4
             have G5 : Hid _ := g5
             have G6 : Hid _ := g6
             clear g1 g2 g3 g4 g5 g6))
      clear F1 F2 HVS
      have h5 : Below wF.heap.size wF w2 := ⟨G5.out.os, G5.out.tape, G5.out.output, G5.out.size, G5.out.block⟩
      have hz2 : w2.heap.size = wr.heap.size + 3 := by
        have h6 : w2.heap.size = wF.heap.size + 2 := G6.out
        rw [h6, HZ1.out]
      have hb3 : Below w2.heap.size w2 (w2.alloc (.cells #[.pointer none, .pointer (some ⟨wF.heap.size + 1, 0, none⟩), .bool false, .chan none, .int .i32 0, .int .i64 0, .int .u32 0, .pointer (some ⟨wr.heap.size, 0, none⟩)] 73)) := by go_grown
      have hg3 : Gw wr (w2.alloc (.cells #[.pointer none, .pointer (some ⟨wF.heap.size + 1, 0, none⟩), .bool false, .chan none, .int .i32 0, .int .i64 0, .int .u32 0, .pointer (some ⟨wr.heap.size, 0, none⟩)] 73)) K Fa k n := (HG1.out.later h5).later hb3
      have c1 : (w2.alloc (.cells #[.pointer none, .pointer (some ⟨wF.heap.size + 1, 0, none⟩), .bool false, .chan none, .int .i32 0, .int .i64 0, .int .u32 0, .pointer (some ⟨wr.heap.size, 0, none⟩)] 73)).cell? ⟨w2.heap.size, 1, none⟩ = some (.pointer (some ⟨wF.heap.size + 1, 0, none⟩)) := rangeAt_new w2 [.pointer none, .pointer (some ⟨wF.heap.size + 1, 0, none⟩), .bool false, .chan none, .int .i32 0, .int .i64 0, .int .u32 0, .pointer (some ⟨wr.heap.size, 0, none⟩)] 73 1 _ rfl
      have c6 : (w2.alloc (.cells #[.pointer none, .pointer (some ⟨wF.heap.size + 1, 0, none⟩), .bool false, .chan none, .int .i32 0, .int .i64 0, .int .u32 0, .pointer (some ⟨wr.heap.size, 0, none⟩)] 73)).cell? ⟨w2.heap.size, 6, none⟩ = some (.int .u32 0) := rangeAt_new w2 [.pointer none, .pointer (some ⟨wF.heap.size + 1, 0, none⟩), .bool false, .chan none, .int .i32 0, .int .i64 0, .int .u32 0, .pointer (some ⟨wr.heap.size, 0, none⟩)] 73 6 _ rfl
      have c7 : (w2.alloc (.cells #[.pointer none, .pointer (some ⟨wF.heap.size + 1, 0, none⟩), .bool false, .chan none, .int .i32 0, .int .i64 0, .int .u32 0, .pointer (some ⟨wr.heap.size, 0, none⟩)] 73)).cell? ⟨w2.heap.size, 7, none⟩ = some (.pointer (some ⟨wr.heap.size, 0, none⟩)) := rangeAt_new w2 [.pointer none, .pointer (some ⟨wF.heap.size + 1, 0, none⟩), .bool false, .chan none, .int .i32 0, .int .i64 0, .int .u32 0, .pointer (some ⟨wr.heap.size, 0, none⟩)] 73 7 _ rfl
      have f6 : (w2.alloc (.cells #[.pointer none, .pointer (some ⟨wF.heap.size + 1, 0, none⟩), .bool false, .chan none, .int .i32 0, .int .i64 0, .int .u32 0, .pointer (some ⟨wr.heap.size, 0, none⟩)] 73)).frozen? ⟨w2.heap.size, 6, none⟩ = false := by simp
      have hF3 : (w2.alloc (.cells #[.pointer none, .pointer (some ⟨wF.heap.size + 1, 0, none⟩), .bool false, .chan none, .int .i32 0, .int .i64 0, .int .u32 0, .pointer (some ⟨wr.heap.size, 0, none⟩)] 73)).cell? ⟨Fa, k, none⟩ = some (.pointer (some ⟨wr.heap.size, 0, none⟩)) := cell_later hb3 F3.out.2
      have hs0 : 0 < s := by rw [G1.out.1]; exact Nat.two_pow_pos _
      have hr3 : Rr (wF.heap.size + 1) wF.heap.size s 0 (ln k) (cI 0 (ln k)) (cX (V k) 0 (ln k)) (w2.alloc (.cells #[.pointer none, .pointer (some ⟨wF.heap.size + 1, 0, none⟩), .bool false, .chan none, .int .i32 0, .int .i64 0, .int .u32 0, .pointer (some ⟨wr.heap.size, 0, none⟩)] 73)) := (rr_c G4.out).later hs0 hb3
      have hz3 : (w2.alloc (.cells #[.pointer none, .pointer (some ⟨wF.heap.size + 1, 0, none⟩), .bool false, .chan none, .int .i32 0, .int .i64 0, .int .u32 0, .pointer (some ⟨wr.heap.size, 0, none⟩)] 73)).heap.size = w2.heap.size + 1 := World.size_alloc _ _
      clear F3 G4 G5 G6 h5 hb3 HG1 
      rename_i hheld
      clear hheld
      generalize (w2.alloc (.cells #[.pointer none, .pointer (some ⟨wF.heap.size + 1, 0, none⟩), .bool false, .chan none, .int .i32 0, .int .i64 0, .int .u32 0, .pointer (some ⟨wr.heap.size, 0, none⟩)] 73)) = w3 at *
      rw [HZ1.out] at c1 hr3
      clear HZ1
      generalize w2.heap.size = Y at *
      have hW3 : Wv w3 b off n Ad ln Cp Vb Vo V fl := HW.out.later (by rw [← HH.out]; exact hg3.below HB.out.be (by have := HO.out; omega) (by have := HO.out; omega))
      have hbY : b < Y := by
        have h1 := block_lt_of_cell (HW.out.wk k hlt).1
        have h2 := HB.out.lt
        have h3 := HO.out
        have h4 := HH.out
        have h1' : b < w0.heap.size := h1
        omega
      have F6 : Hid (w3.cell? ⟨b, off + k * 2 + 1, none⟩ = some (.bool (fl k))) := (hW3.wk k hlt).2
      have F7 : Hid (w3.drew.cell? ⟨b, off + k * 2 + 1, none⟩ = some (.bool (fl k))) := (hW3.wk k hlt).2
      have hbs := bstore Y 6 (fl k) (.int .u32 0) w3.drew c6 f6
      have HG3 : Hid (Gw wr w3 K Fa k n) := hg3
      have HC : Hid (w3.cell? ⟨Y, 1, none⟩ = some (.pointer (some ⟨wr.heap.size + 1 + 1, 0, none⟩)) ∧ w3.cell? ⟨Y, 6, none⟩ = some (.int .u32 0) ∧ w3.cell? ⟨Y, 7, none⟩ = some (.pointer (some ⟨wr.heap.size, 0, none⟩)) ∧ w3.cell? ⟨Fa, k, none⟩ = some (.pointer (some ⟨wr.heap.size, 0, none⟩))) := ⟨c1, c6, c7, hF3⟩
      have HR3 : Hid (Rr (wr.heap.size + 1 + 1) (wr.heap.size + 1) s 0 (ln k) (cI 0 (ln k)) (cX (V k) 0 (ln k)) w3) := hr3
      have HZ : Hid (Y = wr.heap.size + 3 ∧ w3.heap.size = Y + 1) := ⟨hz2, hz3⟩
      clear hg3 c1 c6 c7 f6 hF3 hr3 hz2 hz3 hW3
      go_upto_region 36 with fail
      go_region_held3 (fun wx => wx.cell? ⟨b, off + k * 2 + 1, none⟩ = some (.bool (fl k))) (first | with_reducible exact F6.out | with_reducible exact F7.out | with_reducible exact F8.out)
        (first
          | (go_at_call 6; refine hbs.mono ?_; rintro e w4 ⟨rfl, h4⟩
             have F8 : Hid (w4.cell? ⟨b, off + k * 2 + 1, none⟩ = some (.bool (fl k))) := by
               have h : w4.cell? ⟨b, off + k * 2 + 1, none⟩ = some (.bool (fl k)) := by rw [h4]; exact (World.cell?_setCell_other w3 _ _ _ (fun e => by injection e with e; omega)).trans F6.out
               exact h
             have HW4 : Hid (w4 = (w3.drew.setCell ⟨Y, 6, none⟩ (.int .u32 (u1 (fl k)))).drew) := h4
             clear h4))
      rename_i hheld
      clear hheld F6 F7 F8 hbs
      have hg4 : Gw wr w4 K Fa k n := by
        rw [HW4.out]
        exact (HG3.out.setN (j := Y) (o := 6) (by have := HZ.out; omega) _).later ⟨rfl, rfl, rfl, Nat.le_refl _, fun _ _ => rfl⟩
      obtain ⟨uK, huK⟩ := Option.isSome_iff_exists.1 (hg4.kt k hlt).1
      have ffK := (hg4.kt k hlt).2
      rw [Nat.zero_add] at huK ffK
      have HG4 : Hid (Gw wr w4 K Fa k n) := hg4
      clear hg4
      have HUK : Hid (w4.cell? ⟨K, k, none⟩ = some uK) := huK
      go_wp2_with fail
      have hBn : Be w0 (w4.setCell ⟨K, k, none⟩ (.pointer (some ⟨Y, 0, none⟩))) H (k + 1) B K Fa P SA stn QB wake dv (.slice none 0 0) fo b1 b3 b4 si col yi ln (fun i => if i = k then s else sz' i) V fl := by
        have ho := HO.out
        have hzz := HZ.out
        have hS := HS.out
        obtain ⟨c1, c6, c7, cF⟩ := HC.out
        have hz4 : w4.heap.size = w3.heap.size := by rw [HW4.out]; show (w3.setCell ⟨Y, 6, none⟩ (.int .u32 (u1 (fl k)))).heap.size = w3.heap.size; simp [World.setCell]
        have hBlt := HB.out.lt
        have hz5 : (w4.setCell ⟨K, k, none⟩ (.pointer (some ⟨Y, 0, none⟩))).heap.size = w4.heap.size := by simp [World.setCell]
        refine HB.out.grow hS (HG4.out.setK _) (by omega) ?_ ?_ ?_ (s := s)
        · rw [World.cell?_setCell_same' _ _ _ (by rw [HUK.out]; rfl), show B + 4 * k + 3 = Y by omega]
        · rw [World.cell?_setCell_other _ _ _ _ (fun e => by injection e with e; omega), HW4.out]
          rw [← hS]
          exact (World.cell?_setCell_other w3 _ _ _ (fun e => by injection e with e; omega)).trans cF
        · rw [← hS]
          have hs0 : 0 < s := by rw [G1.out.1]; exact Nat.two_pow_pos _
          exact Wn.made hzz.1 (by omega) c1 c6 c7 HR3.out ⟨ex, G1.out.1⟩ ⟨G1.out.2.1, G1.out.2.2, hs0⟩ HW4.out
      have hSn : (w4.setCell ⟨K, k, none⟩ (.pointer (some ⟨Y, 0, none⟩))).heap.size = B + 4 * (k + 1) := by
        have hz4 : w4.heap.size = w3.heap.size := by rw [HW4.out]; show (w3.setCell ⟨Y, 6, none⟩ (.int .u32 (u1 (fl k)))).heap.size = w3.heap.size; simp [World.setCell]
        have hz5 : (w4.setCell ⟨K, k, none⟩ (.pointer (some ⟨Y, 0, none⟩))).heap.size = w4.heap.size := by simp [World.setCell]
        have hzz := HZ.out
        have hS := HS.out
        omega
      have hTn := HG4.out.setK (.pointer (some ⟨Y, 0, none⟩))
      go_roundw
      case rel => exact ⟨k + 1, by omega, by go_num, _, hBn, hSn, ⟨hTn.kt, hTn.ft⟩⟩
      case measure => simp [intOf]; omega
    · have ek : Hid (k = n) := (by omega : k = n)
      have i2 : decide ((k : Int) < (n : Int)) = false := by simp; omega
      go_wp2_with fail
      refine HK.out _ _ ?_
      have hB := HB.out
      have hS := HS.out
      rw [ek.out] at hB hS
      exact st18 w0 wr H b off n cap B K Fa P SA stn QB wake dv a0 fo Ad ln Cp Vb Vo sz' V fl b1 b3 b4 si col yi _ _ _ _ _ _ _ _ _ _ _ _ _ _ _ _ _ _ _ _ _ _ _ _ _ _ _ _ _ _ _ _ _ _ _ _ _ _ _ _ _ _ _ _ _ _ _ _ _ _ _ _ _ _ _ _ _ _ _ _ _ _ _ _ _ _ _ _ _ _ _ _ _ _ _ _ _ _ _ _ _ _ _ _ _ _ _ _ _ _ _ _ _ _ _ _ _ _ _ _ _ _ _ _ _ _ _ _ _ _ _ _ _ _ _ _ _ _ _ _ _ _ _ _ _ _ _ _ _ _ _ _ _ _ _ _ _ _ _ _ _ _ _ _ _ _ _ _ _ _ _ _ _ _ _ _ _ _ _ _ _ _ _ _ _ _ _ _ _ _ _ _ _ _ _ _ _ _ _ _ _ _ _ _ _ _ _ _ _ _ _ _ _ _ _ _ _ _ _ _ _ _ _ _ _ _ _ _ _ _ _ _ _ _ _ _ _ _ _ _ _ _ _ _ _ _ _ _ _ _ _ _ _ _ _ _ _ _ _ _ _ _ _ _ _ _ _ _ _ _ _ _ _ _ _ _ _ _ _ _ _ _ _ _ _ _ _ _ _ _ _ _ _ _ _ _ _ _ _ _ _ _ _ _ _ _ _ _ _ _ _ _ _ _ _ _ _ _ _ _ _ _ _ _ _ _ _ _ _ _ _ _ _ _ _ _ _ _ _ _ _ _ _ _ _ _ _ _ _ _ _ _ _ _ _ _ _ _ _ _ _ _ _ _ _ _ _ _ _ _ _ _ _ _ _ _ _ _ _ _ _ _ _ _ _ _ _ _ _ _ _ _ _ _ _ _ _ _ _ _ _ _ _ _ _ _ _ _ _ _ _ _ _ _ _ _ _ _ _ _ _ _ _ _ _ _ _ _ _ _ _ _ _ _ _ _ _ _ _ _ _ _ _ _ _ _ _ _ _ _ _ _ _ _ _ _ _ _ _ _ _ _ _ _ _ _ hn HE.out hst hsm hcol hyi HH.out HW.out hB hS
end Go.Proofs.Ybulkdrqi
