import Derived.Test.YbulkdrqiZr
namespace Go.Proofs.Ybulkdrqi
open Go.RowKit Go.Conc

theorem neq83 (a b : Int) (w : World) : (binOp .neq 83 (.agg #[.int .i64 a, .int .i64 b]) (.agg #[.int .i64 a, .int .i64 b])).run Yba.prog w = .ok (.bool false) w := by
  rw [run_neq_struct]
  simp [go_sem]
theorem Yba.info67 : ∃ j, Yba.prog.info? 67 = some j := by
  have h : (Yba.prog.info? 67).isSome = true := by kernel_rfl
  exact Option.isSome_iff_exists.1 h

set_option maxRecDepth 1000000 in
set_option maxHeartbeats 8000000 in
/-- The last loop. -/
theorem stI (w0 w : World) (H b off n cap B K Fa Pb : Nat) (a0 : Option Addr) (Ad : Nat → Option Addr) (ln Cp Vb Vo sz hd : Nat → Nat) (V : Nat → Nat → Int) (fl : Nat → Bool) (u0 u1 u2 u3 u4 u5 u6 u7 u9 u10 u11 u12 u13 u14 u15 u16 u17 u18 u19 u20 u21 u22 u23 u24 u25 u28 u29 u30 u31 u32 u33 u35 u36 u37 u38 u39 u40 u41 u42 u43 u44 u45 u46 u47 u48 u49 u50 u51 u52 u53 u54 u55 u56 u57 u58 u59 u60 u61 u62 u63 u64 u65 u66 u67 u68 u69 u70 u71 u72 u73 u74 u75 u76 u77 u78 u79 u80 u81 u82 u83 u84 u85 u86 u87 u88 u89 u90 u91 u92 u93 u94 u95 u96 u97 u98 u99 u100 u101 u102 u103 u104 u105 u106 u107 u108 u109 u110 u111 u112 u113 u114 u115 u116 u117 u118 u119 u120 u121 u122 u123 u124 u125 u126 u127 u128 u129 u130 u131 u132 u133 u134 u135 u136 u137 u138 u139 u140 u141 u142 u143 u144 u145 u146 u147 u148 u149 u150 u151 u152 u153 u154 u155 u156 u157 u158 u159 u160 u161 u162 u163 u164 u165 u166 u167 u168 u169 u170 u171 u172 u173 u174 u175 u176 u177 u178 u179 u180 u181 u182 u183 u184 u185 u186 u187 u188 u189 u190 u191 u192 u193 u194 u195 u196 u197 u198 u199 u200 u201 u202 u203 u204 u205 u206 u207 u208 u209 u210 u211 u212 u213 u214 u215 u216 u217 u218 u219 u220 u221 u222 u223 u224 u225 u226 u227 u228 u229 u230 u231 u232 u233 u234 u235 u236 u237 u238 u239 u240 u241 u242 u243 u244 u245 u246 u247 u248 u249 u250 u251 u252 u253 u254 u255 u256 u257 u258 u259 u260 u261 u262 u263 u264 u265 u266 u267 u268 u269 u270 u271 u272 u273 u274 u275 u276 u277 u278 u279 u280 u281 u282 u283 u284 u285 u286 u287 u288 u289 u290 u291 u292 u293 u294 u295 u296 u297 u298 u299 u300 u301 u302 u303 u304 u305 u306 u307 u308 u309 u310 u311 u312 u313 u314 u315 u316 u317 u318 u319 u320 u321 u322 u323 u324 u325 u326 u327 u328 u329 u330 u331 u332 u333 u334 u335 u336 u337 u338 u339 u340 u341 u342 u343 u344 u345 u346 u347 u348 u349 u350 u351 u352 u353 u354 u355 u356 u357 u358 u359 u360 u361 u362 u363 u364 u365 u366 u367 u368 u369 u370 u371 u372 u373 u374 u375 u376 u377 u378 u379 u380 u381 u382 u383 u384 u385 u386 u387 u388 u389 u390 u391 u392 u393 u394 u395 u396 u397 u398 u399 u400 u401 u402 u403 u404 u405 u406 u407 u408 u409 u410 u411 u412 u413 u414 u415 u416 u417 u418 u419 u420 u421 u422 u423 u424 u425 u426 u427 u428 u429 u430 u431 u432 u433 u434 u435 u436 u437 u438 u439 u440 u441 u442 u443 u444 u445 u446 u447 u448 u449 u450 u451 u452 u453 u454 u455 u456 u457 : Value)
    (hn : n ≤ 65536) (e0 : 0 < n → a0 = some ⟨b, off, none⟩) (hF : Fi w b off n B K Fa Pb Ad ln Cp Vb Vo sz hd V fl) (hb : Below H w0 w) (hH : H ≤ w.heap.size) :
    Code.wp Yba.prog (tl 31 (bodyOf Yba.f3)) (bodyPost Yba.prog Yba.f3 fun e w' => e = .returned (.bool true) ∧ Below H w0 w') ⟨#[u0, u1, u2, u3, u4, u5, u6, u7, .slice a0 n cap, u9, u10, u11, u12, u13, u14, u15, u16, u17, u18, u19, u20, u21, u22, u23, u24, u25, .slice (some ⟨K, 0, none⟩) n n, .slice (some ⟨Fa, 0, none⟩) n n, u28, u29, u30, u31, u32, u33, .slice (some ⟨Pb, 0, none⟩) n n, u35, u36, u37, u38, u39, u40, u41, u42, u43, u44, u45, u46, u47, u48, u49, u50, u51, u52, u53, u54, u55, u56, u57, u58, u59, u60, u61, u62, u63, u64, u65, u66, u67, u68, u69, u70, u71, u72, u73, u74, u75, u76, u77, u78, u79, u80, u81, u82, u83, u84, u85, u86, u87, u88, u89, u90, u91, u92, u93, u94, u95, u96, u97, u98, u99, u100, u101, u102, u103, u104, u105, u106, u107, u108, u109, u110, u111, u112, u113, u114, u115, u116, u117, u118, u119, u120, u121, u122, u123, u124, u125, u126, u127, u128, u129, u130, u131, u132, u133, u134, u135, u136, u137, u138, u139, u140, u141, u142, u143, u144, u145, u146, u147, u148, u149, u150, u151, u152, u153, u154, u155, u156, u157, u158, u159, u160, u161, u162, u163, u164, u165, u166, u167, u168, u169, u170, u171, u172, u173, u174, u175, u176, u177, u178, u179, u180, u181, u182, u183, u184, u185, u186, u187, u188, u189, u190, u191, u192, u193, u194, u195, u196, u197, u198, u199, u200, u201, u202, u203, u204, u205, u206, u207, u208, u209, u210, u211, u212, u213, u214, u215, u216, u217, u218, u219, u220, u221, u222, u223, u224, u225, u226, u227, u228, u229, u230, u231, u232, u233, u234, u235, u236, u237, u238, u239, u240, u241, u242, u243, u244, u245, u246, u247, u248, u249, u250, u251, u252, u253, u254, u255, u256, u257, u258, u259, u260, u261, u262, u263, u264, u265, u266, u267, u268, u269, u270, u271, u272, u273, u274, u275, u276, u277, u278, u279, u280, u281, u282, u283, u284, u285, u286, u287, u288, u289, u290, u291, u292, u293, u294, u295, u296, u297, u298, u299, u300, u301, u302, u303, u304, u305, u306, u307, u308, u309, u310, u311, u312, u313, u314, u315, u316, u317, u318, u319, u320, u321, u322, u323, u324, u325, u326, u327, u328, u329, u330, u331, u332, u333, u334, u335, u336, u337, u338, u339, u340, u341, u342, u343, u344, u345, u346, u347, u348, u349, u350, u351, u352, u353, u354, u355, u356, u357, u358, u359, u360, u361, u362, u363, u364, u365, u366, u367, u368, u369, u370, u371, u372, u373, u374, u375, u376, u377, u378, u379, u380, u381, u382, u383, u384, u385, u386, u387, u388, u389, u390, u391, u392, u393, u394, u395, u396, u397, u398, u399, u400, u401, u402, u403, u404, u405, u406, u407, u408, u409, u410, u411, u412, u413, u414, u415, u416, u417, u418, u419, u420, u421, u422, u423, u424, u425, u426, u427, u428, u429, u430, u431, u432, u433, u434, u435, u436, u437, u438, u439, u440, u441, u442, u443, u444, u445, u446, u447, u448, u449, u450, u451, u452, u453, u454, u455, u456, u457], []⟩ w := by
  have HF : Hid (Fi w b off n B K Fa Pb Ad ln Cp Vb Vo sz hd V fl) := hF
  have HB : Hid (Below H w0 w) := hb
  have HE : Hid (0 < n → a0 = some ⟨b, off, none⟩) := e0
  clear hF hb e0
  conv => arg 2; whnf
  go_wp2_with fail
  go_loopw [358] (fun ix wr => ∃ i : Nat, i ≤ n ∧ ix = .int .i64 i ∧ Below w.heap.size w wr) (fun ix _ => n - (intOf ix).toNat)
  case atStart => exact ⟨0, Nat.zero_le _, rfl, Below.refl _ _⟩
  case round =>
    obtain ⟨i, hi, rfl, hbw⟩ := hrel
    by_cases hlt : i < n
    · obtain rfl := HE.out (by omega)
      have hF := HF.out.later hbw
      have HBW : Hid (Below w.heap.size w wr) := hbw
      have HFi : Hid (Fi wr b off n B K Fa Pb Ad ln Cp Vb Vo sz hd V fl) := hF
      clear hbw
      have i0 : (0 : Int) ≤ (i : Int) := by omega
      have i1 : (i : Int) < (n : Int) := by omega
      have i2 : decide ((i : Int) < (n : Int)) = true := by simp [hlt]
      have c1 := (hF.wk i hlt).1
      have ck := hF.cr.k i hlt
      have cw1 := hF.cr.w1 i hlt
      have hrr := hF.cr.rr i hlt
      have hle := hF.cr.le i hlt
      have cpo := hF.po i hlt
      clear hF
      go_upto_region 89 with fail
      have hl1 := fun q => load64 (B + 4 * i + 2) 66 (hd i : Int) (wr.drewN q) hrr.qh
      have hl2 := fun q => load64 (B + 4 * i + 2) 131 (ln i : Int) (wr.drewN q) hrr.qt
      have hw1 : IntKind.u64.wrap (hd i : Int) = (hd i : Int) := by rw [IntKind.wrap_u64]; omega
      have hw2 : IntKind.u64.wrap (ln i : Int) = (ln i : Int) := by rw [IntKind.wrap_u64]; omega
      go_quiet (first
        | (go_at_call 12; refine Calls.quiet_of_same (hl1 _))
        | (go_at_call 12; refine Calls.quiet_of_same (hl2 _)))
      have hFq : Fi (wr.drewN nq) b off n B K Fa Pb Ad ln Cp Vb Vo sz hd V fl := HFi.out.later (below_drewN (Below.refl _ _) _)
      have hBq : Below w.heap.size w (wr.drewN nq) := HBW.out.trans (below_drewN (Below.refl _ _) _)
      clear c1 ck cw1 hrr cpo hl1 hl2 hw1 hw2 HFi HBW
      generalize wr.drewN nq = wq at *
      have ck := hFq.cr.k i hlt
      have c6 := hFq.cr.w6 i hlt
      have c7 := hFq.cr.w7 i hlt
      have cf := hFq.cr.f i hlt
      have c2 := (hFq.wk i hlt).2
      have HFq : Hid (Fi wq b off n B K Fa Pb Ad ln Cp Vb Vo sz hd V fl) := hFq
      have HBq : Hid (Below w.heap.size w wq) := hBq
      clear hFq hBq
      go_upto_region 91 with fail
      have hl1 := fun q => bload (B + 4 * i + 3) 6 (fl i) (wq.drewN q) c6
      obtain ⟨j67, hj67⟩ := Yba.info67
      have hp62 := fun w => run_neq_ptr_same (P := Yba.prog) w (tp := 62) (te := 67) (some ⟨B + 4 * i, 0, none⟩) Yba.underlying62 hj67
      generalize fl i = fli at *
      go_quiet (first
        | (go_at_call 11; refine Calls.quiet_of_same (hl1 _)))
      have hFz : Fi (wq.drewN nq) b off n B K Fa Pb Ad ln Cp Vb Vo sz hd V fl := HFq.out.later (below_drewN (Below.refl _ _) _)
      have hBz : Below w.heap.size w (wq.drewN nq) := HBq.out.trans (below_drewN (Below.refl _ _) _)
      clear ck c6 c7 cf c2 hl1 hp62 hj67 HFq HBq
      generalize wq.drewN nq = wz at *
      have q0 := (hFz.cr.rr i hlt).q0
      have HFz : Hid (Fi wz b off n B K Fa Pb Ad ln Cp Vb Vo sz hd V fl) := hFz
      have HBz : Hid (Below w.heap.size w wz) := hBz
      clear hFz hBz
      go_wp2_with fail
      clear q0
      go_loopw [425] (fun jx wy => ∃ j : Nat, j ≤ sz i ∧ jx = .int .i64 j ∧ Below wz.heap.size wz wy) (fun jx _ => sz i - (intOf jx).toNat)
      case atStart => exact ⟨0, Nat.zero_le _, rfl, Below.refl _ _⟩
      case round =>
        obtain ⟨j, hj, rfl, hbz⟩ := hrel
        by_cases hjl : j < sz i
        · have hF := HFz.out.later hbz
          have q0 := (hF.cr.rr i hlt).q0
          have hcl := (hF.cr.rr i hlt).cells j hjl
          have d0 := hcl 0 _ rfl
          have d1 := hcl 1 _ rfl
          have cpo := hF.po i hlt
          obtain ⟨hAd, hvs⟩ := hF.vs i hlt
          have hlt0 := block_lt_of_cell q0
          have hlt1 := block_lt_of_cell d0
          have hlt2 := block_lt_of_cell cpo
          have HBz2 : Hid (Below wz.heap.size wz wr) := hbz
          clear hcl hF hbz
          have l0 : (0 : Int) ≤ (j : Int) := by omega
          have l1 : (j : Int) < (sz i : Int) := by omega
          have l2 : decide ((j : Int) < (sz i : Int)) = true := by simp [hjl]
          by_cases hin : hd i ≤ j ∧ j < ln i
          · have e1 : cI (hd i) (ln i) j = (j : Int) := by simp [cI, hin]
            have e2 : cX (V i) (hd i) (ln i) j = V i j := by simp [cX, hin]
            rw [e1] at d0
            rw [e2] at d1
            have hA := hAd (by omega)
            have cv := hvs j hin.2
            have hlt3 := block_lt_of_cell cv
            have l3 : decide ((hd i : Int) ≤ (j : Int)) = true := by simp; omega
            have l4 : decide ((j : Int) < (ln i : Int)) = true := by simp; omega
            have l5 : (j : Int) < (ln i : Int) := by omega
            clear e1 e2 hAd hvs
            generalize hVij : V i j = vij at *
            go_upto_region 99 with fail
            have y0 : (wr.alloc (.cells #[.int .i64 (j : Int), .int .i64 vij] 83)).cell? ⟨wr.heap.size, 0, none⟩ = some (.int .i64 (j : Int)) := rangeAt_new wr [.int .i64 (j : Int), .int .i64 vij] 83 0 _ rfl
            have y1 : (wr.alloc (.cells #[.int .i64 (j : Int), .int .i64 vij] 83)).cell? ⟨wr.heap.size, 1, none⟩ = some (.int .i64 vij) := rangeAt_new wr [.int .i64 (j : Int), .int .i64 vij] 83 1 _ rfl
            have hbA : Below wr.heap.size wr (wr.alloc (.cells #[.int .i64 (j : Int), .int .i64 vij] 83)) := by go_grown
            have q0' := cell_later hbA q0
            have d0' := cell_later hbA d0
            have d1' := cell_later hbA d1
            have HBA : Hid (Below wz.heap.size wz (wr.alloc (.cells #[.int .i64 (j : Int), .int .i64 vij] 83))) := HBz2.out.trans (hbA.mono HBz2.out.size)
            clear hbA q0 d0 d1 cpo hlt0 hlt1 hlt2 hlt3 cv
            generalize wr.alloc (.cells #[.int .i64 (j : Int), .int .i64 vij] 83) = w5 at *
            generalize wr.heap.size = X5 at *
            simp only [Nat.add_zero] at d0' d1'
            have hne := neq83
            go_quiet (fail)
            go_wp2_with fail
            go_roundw
            case rel => exact ⟨j + 1, by omega, by go_num, HBA.out.trans (below_drewN (Below.refl _ _) _)⟩
            case measure => simp [intOf]; omega
          · have e1 : cI (hd i) (ln i) j = 0 := by simp [cI, hin]
            have e2 : cX (V i) (hd i) (ln i) j = 0 := by simp [cX, hin]
            rw [e1] at d0
            rw [e2] at d1
            clear e1 e2 hAd hvs
            by_cases h3 : hd i ≤ j
            · have l3 : decide ((hd i : Int) ≤ (j : Int)) = true := by simp; omega
              have l4 : decide ((j : Int) < (ln i : Int)) = false := by simp; omega
              go_upto_region 99 with fail
              have y0 : (wr.alloc (.cells #[.int .i64 0, .int .i64 0] 83)).cell? ⟨wr.heap.size, 0, none⟩ = some (.int .i64 0) := rangeAt_new wr [.int .i64 0, .int .i64 0] 83 0 _ rfl
              have y1 : (wr.alloc (.cells #[.int .i64 0, .int .i64 0] 83)).cell? ⟨wr.heap.size, 1, none⟩ = some (.int .i64 0) := rangeAt_new wr [.int .i64 0, .int .i64 0] 83 1 _ rfl
              have hbA : Below wr.heap.size wr (wr.alloc (.cells #[.int .i64 0, .int .i64 0] 83)) := by go_grown
              have q0' := cell_later hbA q0
              have d0' := cell_later hbA d0
              have d1' := cell_later hbA d1
              have HBA : Hid (Below wz.heap.size wz (wr.alloc (.cells #[.int .i64 0, .int .i64 0] 83))) := HBz2.out.trans (hbA.mono HBz2.out.size)
              clear hbA q0 d0 d1 cpo hlt0 hlt1 hlt2
              generalize wr.alloc (.cells #[.int .i64 0, .int .i64 0] 83) = w5 at *
              generalize wr.heap.size = X5 at *
              simp only [Nat.add_zero] at d0' d1'
              have hne := neq83
              go_quiet (fail)
              go_wp2_with fail
              go_roundw
              case rel => exact ⟨j + 1, by omega, by go_num, HBA.out.trans (below_drewN (Below.refl _ _) _)⟩
              case measure => simp [intOf]; omega
            · have l3 : decide ((hd i : Int) ≤ (j : Int)) = false := by simp; omega
              go_upto_region 99 with fail
              have y0 : (wr.alloc (.cells #[.int .i64 0, .int .i64 0] 83)).cell? ⟨wr.heap.size, 0, none⟩ = some (.int .i64 0) := rangeAt_new wr [.int .i64 0, .int .i64 0] 83 0 _ rfl
              have y1 : (wr.alloc (.cells #[.int .i64 0, .int .i64 0] 83)).cell? ⟨wr.heap.size, 1, none⟩ = some (.int .i64 0) := rangeAt_new wr [.int .i64 0, .int .i64 0] 83 1 _ rfl
              have hbA : Below wr.heap.size wr (wr.alloc (.cells #[.int .i64 0, .int .i64 0] 83)) := by go_grown
              have q0' := cell_later hbA q0
              have d0' := cell_later hbA d0
              have d1' := cell_later hbA d1
              have HBA : Hid (Below wz.heap.size wz (wr.alloc (.cells #[.int .i64 0, .int .i64 0] 83))) := HBz2.out.trans (hbA.mono HBz2.out.size)
              clear hbA q0 d0 d1 cpo hlt0 hlt1 hlt2
              generalize wr.alloc (.cells #[.int .i64 0, .int .i64 0] 83) = w5 at *
              generalize wr.heap.size = X5 at *
              simp only [Nat.add_zero] at d0' d1'
              have hne := neq83
              go_quiet (fail)
              go_wp2_with fail
              go_roundw
              case rel => exact ⟨j + 1, by omega, by go_num, HBA.out.trans (below_drewN (Below.refl _ _) _)⟩
              case measure => simp [intOf]; omega
        · have l2 : decide ((j : Int) < (sz i : Int)) = false := by simp; omega
          have HBz2 : Hid (Below wz.heap.size wz wr) := hbz
          clear hbz
          go_wp2_with fail
          go_roundw
          case rel => exact ⟨i + 1, by omega, by go_num, HBz.out.trans (HBz2.out.mono HBz.out.size)⟩
          case measure => simp [intOf]; omega
    · have i2 : decide ((i : Int) < (n : Int)) = false := by simp; omega
      have HBW : Hid (Below w.heap.size w wr) := hbw
      clear hbw
      go_wp2_with fail
      go_ret
      exact ⟨rfl, HB.out.trans (HBW.out.mono hH)⟩
end Go.Proofs.Ybulkdrqi
