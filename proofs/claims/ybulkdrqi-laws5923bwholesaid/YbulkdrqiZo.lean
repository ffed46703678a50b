import Derived.Test.YbulkdrqiZn
namespace Go.Proofs.Ybulkdrqi
open Go.RowKit Go.Conc

set_option linter.unusedSimpArgs false in
set_option linter.unusedVariables false in
set_option maxRecDepth 1000000 in
set_option maxHeartbeats 8000000 in
theorem st27b (w0 wA w : World) (H b off n cap B K Fa Pb P LG SA stn : Nat) (v : PV) (a0 fo : Option Addr) (Ad : Nat → Option Addr) (ln Cp Vb Vo sz : Nat → Nat) (V : Nat → Nat → Int) (fl : Nat → Bool) (b3 b4 : Bool) (si col yi : Int) (got : Bool) (iF qF kd : Nat) (z1 z4 z9 z10 z11 z12 z13 z14 z15 z16 z17 z18 z20 z21 z22 z24 z25 z28 z29 z31 z32 z38 z39 z40 z41 z42 z43 z44 z45 z46 z47 z48 z49 z50 z51 z52 z53 z54 z55 z56 z57 z58 z59 z60 z61 z62 z63 z64 z65 z66 z67 z68 z69 z70 z71 z72 z73 z74 z75 z76 z77 z78 z79 z80 z81 z82 z83 z84 z85 z86 z87 z88 z89 z90 z91 z92 z93 z94 z95 z96 z97 z98 z99 z100 z101 z102 z103 z104 z105 z106 z107 z108 z109 z110 z111 z112 z113 z114 z115 z116 z117 z118 z119 z120 z121 z122 z123 z124 z125 z126 z127 z128 z129 z130 z131 z132 z133 z134 z135 z136 z137 z138 z139 z140 z141 z142 z143 z144 z145 z146 z147 z148 z149 z150 z151 z152 z153 z154 z155 z156 z157 z158 z159 z160 z161 z162 z163 z164 z165 z166 z167 z168 z169 z170 z171 z172 z173 z174 z175 z176 z177 z178 z179 z180 z181 z182 z183 z184 z185 z186 z187 z188 z189 z190 z191 z192 z193 z194 z195 z196 z197 z198 z199 z200 z201 z202 z203 z204 z205 z206 z207 z208 z209 z210 z211 z212 z213 z214 z215 z216 z217 z218 z219 z220 z221 z222 z223 z224 z225 z226 z227 z228 z229 z230 z231 z232 z233 z234 z235 z236 z237 z238 z239 z240 z241 z242 z243 z244 z245 z246 z247 z248 z249 z250 z251 z252 z253 z254 z255 z256 z257 z258 z259 z260 z261 z262 z263 z264 z265 z266 z267 z268 z269 z270 z271 z272 z273 z274 z275 z276 z277 z278 z279 z280 z281 z282 z283 z284 z285 z286 z287 z288 z289 z290 z291 z292 z293 z294 z295 z296 z297 z298 z299 z300 z301 z302 z303 z304 z305 z306 z307 z308 z309 z310 z311 z312 z313 z314 z315 z316 z317 z318 z319 z320 z321 z322 z323 z324 z325 z326 z327 z328 z329 z330 z331 z332 z333 z334 z335 z336 z337 z338 z339 z340 z341 z342 z343 z344 z345 z346 z347 z348 z349 z350 z351 z352 z353 z354 z355 z356 z357 z358 z359 z360 z361 z362 z363 z364 z365 z366 z367 z368 z369 z370 z371 z372 z373 z374 z375 z376 z377 z378 z379 z380 z381 z382 z383 z384 z385 z386 z387 z388 z389 z390 z391 z392 z393 z394 z395 z396 z397 z398 z399 z400 z401 z402 z403 z404 z405 z406 z407 z408 z409 z410 z411 z412 z413 z414 z415 z416 z417 z418 z419 z420 z421 z422 z423 z424 z425 z426 z427 z428 z429 z430 z431 z432 z433 z434 z435 z436 z437 z438 z439 z440 z441 z442 z443 z444 z445 z446 z447 z448 z449 z450 z451 z452 z453 z454 z455 z456 z457 : Value)
    (hn : n ≤ 65536) (e0 : 0 < n → a0 = some ⟨b, off, none⟩) (hsm : sm ln n ≤ 65536) (hA : Af w0 wA H b off n B K Fa P LG SA stn v Ad ln Cp Vb Vo sz (hdF ln iF qF) V fl (lg ln V iF qF)) (hPb : Pb = wA.heap.size) (hfin : fin stn ln fl n 0 0 = (iF, qF, kd)) (hgot : got = (kd == 0)) (hc : v.col = wrap64 (col + ((sm ln iF + qF : Nat) : Int))) (hy : v.yi = wrap64 (yi + ((sm ln iF + qF : Nat) : Int))) (hf : v.fault = ftv kd (.pointer fo) (B + 4 * iF)) (hE : En false b3 b4 si v wA) (hst : stn < 256) (hM0 : Md wA w Pb n ln V 0 0 (.slice none 0 0)) :
    Code.wp Yba.prog (tl 27 (bodyOf Yba.f3)) (bodyPost Yba.prog Yba.f3 fun e w' => e = .returned (.bool true) ∧ Below H w0 w') ⟨#[.bool false, z1, .bool b3, .bool b4, z4, .int .i64 si, .int .i64 col, .int .i64 yi, .slice a0 n cap, z9, z10, z11, z12, z13, z14, z15, z16, z17, z18, .pointer (some ⟨SA, 0, none⟩), z20, z21, z22, .pointer (some ⟨P, 0, none⟩), z24, z25, .slice (some ⟨K, 0, none⟩) n n, .slice (some ⟨Fa, 0, none⟩) n n, z28, z29, .pointer (some ⟨LG, 0, none⟩), z31, z32, .bool got, .slice (some ⟨Pb, 0, none⟩) n n, .slice none 0 0, .bool true, .pointer fo, z38, z39, z40, z41, z42, z43, z44, z45, z46, z47, z48, z49, z50, z51, z52, z53, z54, z55, z56, z57, z58, z59, z60, z61, z62, z63, z64, z65, z66, z67, z68, z69, z70, z71, z72, z73, z74, z75, z76, z77, z78, z79, z80, z81, z82, z83, z84, z85, z86, z87, z88, z89, z90, z91, z92, z93, z94, z95, z96, z97, z98, z99, z100, z101, z102, z103, z104, z105, z106, z107, z108, z109, z110, z111, z112, z113, z114, z115, z116, z117, z118, z119, z120, z121, z122, z123, z124, z125, z126, z127, z128, z129, z130, z131, z132, z133, z134, z135, z136, z137, z138, z139, z140, z141, z142, z143, z144, z145, z146, z147, z148, z149, z150, z151, z152, z153, z154, z155, z156, z157, z158, z159, z160, z161, z162, z163, z164, z165, z166, z167, z168, z169, z170, z171, z172, z173, z174, z175, z176, z177, z178, z179, z180, z181, z182, z183, z184, z185, z186, z187, z188, z189, z190, z191, z192, z193, z194, z195, z196, z197, z198, z199, z200, z201, z202, z203, z204, z205, z206, z207, z208, z209, z210, z211, z212, z213, z214, z215, z216, z217, z218, z219, z220, z221, z222, z223, z224, z225, z226, z227, z228, z229, z230, z231, z232, z233, z234, z235, z236, z237, z238, z239, z240, z241, z242, z243, z244, z245, z246, z247, z248, z249, z250, z251, z252, z253, z254, z255, z256, z257, z258, z259, z260, z261, z262, z263, z264, z265, z266, z267, z268, z269, z270, z271, z272, z273, z274, z275, z276, z277, z278, z279, z280, z281, z282, z283, z284, z285, z286, z287, z288, z289, z290, z291, z292, z293, z294, z295, z296, z297, z298, z299, z300, z301, z302, z303, z304, z305, z306, z307, z308, z309, z310, z311, z312, z313, z314, z315, z316, z317, z318, z319, z320, z321, z322, z323, z324, z325, z326, z327, z328, z329, z330, z331, z332, z333, z334, z335, z336, z337, z338, z339, z340, z341, z342, z343, z344, z345, z346, z347, z348, z349, z350, z351, z352, z353, z354, z355, z356, z357, z358, z359, z360, z361, z362, z363, z364, z365, z366, z367, z368, z369, z370, z371, z372, z373, z374, z375, z376, z377, z378, z379, z380, z381, z382, z383, z384, z385, z386, z387, z388, z389, z390, z391, z392, z393, z394, z395, z396, z397, z398, z399, z400, z401, z402, z403, z404, z405, z406, z407, z408, z409, z410, z411, z412, z413, z414, z415, z416, z417, z418, z419, z420, z421, z422, z423, z424, z425, z426, z427, z428, z429, z430, z431, z432, z433, z434, z435, z436, z437, z438, z439, z440, z441, z442, z443, z444, z445, z446, z447, z448, z449, z450, z451, z452, z453, z454, z455, z456, z457], []⟩ w := by
  obtain ⟨i3, hi3, hz3, hs3, hb3⟩ := Yba.info3f
  have HI : Hid _ := hi3
  have HZ : Hid _ := hz3
  clear hi3 hz3
  have HA : Hid (Af w0 wA H b off n B K Fa P LG SA stn v Ad ln Cp Vb Vo sz (hdF ln iF qF) V fl (lg ln V iF qF)) := hA
  have HE : Hid (0 < n → a0 = some ⟨b, off, none⟩) := e0
  have HPb : Hid (Pb = wA.heap.size) := hPb
  have HFIN : Hid (fin stn ln fl n 0 0 = (iF, qF, kd)) := hfin
  have HG : Hid (got = (kd == 0)) := hgot
  have HN : Hid (En false b3 b4 si v wA) := hE
  have HC : Hid (v.col = wrap64 (col + ((sm ln iF + qF : Nat) : Int))) := hc
  have HY : Hid (v.yi = wrap64 (yi + ((sm ln iF + qF : Nat) : Int))) := hy
  have HF : Hid (v.fault = ftv kd (.pointer fo) (B + 4 * iF)) := hf
  have HM0 : Hid (Md wA w Pb n ln V 0 0 (.slice none 0 0)) := hM0
  clear hA e0 hPb hfin hgot hE hc hy hf hM0
  conv => arg 2; whnf
  refine wp_seq_k (fun KK hK => ?_)
  have HK : Hid (∀ a w', Code.wp Yba.prog (tl 28 (bodyOf Yba.f3)) (bodyPost Yba.prog Yba.f3 fun e w' => e = .returned (.bool true) ∧ Below H w0 w') a w' → KK a w') := hK
  clear hK
  go_wp2_with fail
  go_loopw [35, 36, 37, 38, 186] (fun s35 s36 s37 s38 ix wr => ∃ i : Nat, i ≤ n ∧ ix = .int .i64 i ∧ s36 = .bool true ∧ s37 = .pointer fo ∧ s38 = .int .i64 ((sm ln i : Nat) : Int) ∧ (∃ sa sc, s35 = .slice sa (sm ln i) sc ∧ Hid (Md wA wr Pb n ln V i 0 (.slice sa (sm ln i) sc))) ∧ Hid ((stn = 0 ∨ sm ln i < stn) ∧ fin stn ln fl n 0 0 = fin stn ln fl (n - i) i (sm ln i))) (fun _ _ _ _ ix _ => n - (intOf ix).toNat)
  case atStart => exact ⟨0, Nat.zero_le _, rfl, rfl, rfl, rfl, ⟨none, 0, rfl, HM0.out⟩, (⟨by (show stn = 0 ∨ 0 < stn); omega, rfl⟩ : (stn = 0 ∨ sm ln 0 < stn) ∧ fin stn ln fl n 0 0 = fin stn ln fl (n - 0) 0 (sm ln 0))⟩
  case round =>
    obtain ⟨i, hi, rfl, rfl, rfl, rfl, ⟨sa, sc, rfl, HM⟩, HFX⟩ := hrel
    clear HM0
    by_cases hlt : i < n
    · obtain rfl := HE.out (by omega)
      have hbr : Below wA.heap.size wA wr := by rw [← HPb.out]; exact HM.out.be
      have c1 := ((HA.out.later hbr).wk i hlt).1
      clear hbr
      have i0 : (0 : Int) ≤ (i : Int) := by omega
      have i1 : (i : Int) < (n : Int) := by omega
      have i2 : decide ((i : Int) < (n : Int)) = true := by simp [hlt]
      go_wp2_with fail
      clear c1
      go_loopw [35, 38, 40, 195] (fun s35 s38 s40 jx wy => ∃ q : Nat, q ≤ ln i ∧ jx = .int .i64 q ∧ s40 = .bool false ∧ s38 = .int .i64 ((sm ln i + q : Nat) : Int) ∧ (∃ sa sc, s35 = .slice sa (sm ln i + q) sc ∧ Hid (Md wA wy Pb n ln V i q (.slice sa (sm ln i + q) sc))) ∧ Hid (stn = 0 ∨ sm ln i + q < stn)) (fun _ _ _ jx _ => ln i - (intOf jx).toNat)
      case atStart => exact ⟨0, Nat.zero_le _, rfl, rfl, rfl, ⟨sa, sc, rfl, HM.out⟩, HFX.out.1⟩
      case round =>
        obtain ⟨q, hq, rfl, rfl, rfl, ⟨sa', sc', rfl, HM'⟩, HS⟩ := hrel
        clear HM
        by_cases hql : q < ln i
        · obtain ⟨m, hm⟩ : ∃ m, m = sm ln i + q := ⟨_, rfl⟩
          have hmb : m < 65536 := by
            have h1 := sm_mono ln (i := i + 1) (j := n) hlt
            have h2 : sm ln (i + 1) = sm ln i + ln i := rfl
            omega
          have hqb : q < 65536 := by omega
          rw [← hm] at HM' ⊢
          have HMM : Hid (m = sm ln i + q) := hm
          clear hm
          have hbr : Below wA.heap.size wA wr := by rw [← HPb.out]; exact HM'.out.be
          have hAr := HA.out.later hbr
          have hAd := (hAr.vs i hlt).1 (by omega)
          have cv := (hAr.vs i hlt).2 q hql
          have hcS := hAr.sa
          have hSlt : SA < Pb := by rw [HPb.out]; exact block_lt_of_cell HA.out.sa
          clear hAr hbr
          have HCS : Hid (wr.cell? ⟨SA, 0, none⟩ = some (.int .u8 (stn : Int))) := hcS
          clear hcS
          obtain ⟨x, hx⟩ : ∃ x, x = V i q := ⟨_, rfl⟩
          rw [← hx] at cv
          have HX : Hid (x = V i q) := hx
          clear hx
          have l0 : (0 : Int) ≤ (q : Int) := by omega
          have l1 : (q : Int) < (ln i : Int) := by omega
          have l2 : decide ((q : Int) < (ln i : Int)) = true := by simp [hql]
          have hAl : (wr.alloc (.cells #[.int .i64 x] 3)).rangeAt wr.heap.size 0 [.int .i64 x] := rangeAt_new wr [.int .i64 x] 3
          have hbA : Below wr.heap.size wr (wr.alloc (.cells #[.int .i64 x] 3)) := by go_grown
          have hszA : (wr.alloc (.cells #[.int .i64 x] 3)).heap.size = wr.heap.size + 1 := by simp
          have hSA : Sl (wr.alloc (.cells #[.int .i64 x] 3)) (Pb + 1) 1 (.slice sa' m sc') m (ints (lg ln V i q)) := by
            have h1 := HM'.out.sl
            rw [← HMM.out] at h1
            exact h1.later hbA
          have hPlt := HM'.out.lt
          have HAl : Hid _ := hAl
          have HbA : Hid _ := hbA
          have HszA : Hid _ := hszA
          have HSA : Hid (Sl (wr.alloc (.cells #[.int .i64 x] 3)) (Pb + 1) 1 (.slice sa' m sc') m (ints (lg ln V i q))) := hSA
          clear hAl hbA hszA hSA
          go_wp2_with (first
            | ((with_reducible refine wpList_append_sl (.tmp 199) (.tmp 201) 23 3 i3 (.int .i64 0) 1 8 Yba.underlying23 HI.out HZ.out hs3 hb3 ?_ Nat.one_pos _ (Pb + 1) (.slice sa' m sc') m (ints (lg ln V i q)) ?_ ?_ ?_ ?_ ?_ wr.heap.size 1 [.int .i64 x] ?_ ?_ ?_ ?_ ?_)))
          · rfl
          · simp [Act.eval]
          · exact HSA.out
          · omega
          · omega
          · rw [HszA.out]; omega
          · simp [Act.eval]
          · rfl
          · exact HAl.out
          · simp [Value.oneCell']
          intro u w2 hS2 hz2 hk2 hb2 ho2
          obtain ⟨ua2, uc2, rfl⟩ := hS2.form
          have hk3 : ∀ k, k ≤ Pb → w2.heap[k]? = wr.heap[k]? := fun k hk => (hk2 k (by rw [HszA.out]; omega) (fun e => by have := (HSA.out.lt e).2; omega)).trans (HbA.out.block k (by omega))
          have cP : w2.cell? ⟨Pb, i, none⟩ = some (.int .i64 (q : Int)) := by
            rw [World.cell?_of_block (a := ⟨Pb, i, none⟩) (hk3 Pb (Nat.le_refl _)), HM'.out.po i hlt, hdF_at]
          have fP : w2.frozen? ⟨Pb, i, none⟩ = false := by
            rw [World.frozen?_of_block (a := ⟨Pb, i, none⟩) (hk3 Pb (Nat.le_refl _))]
            have := (HM'.out.th i hlt).2
            rwa [Nat.zero_add] at this
          have cS : w2.cell? ⟨SA, 0, none⟩ = some (.int .u8 (stn : Int)) := (World.cell?_of_block (a := ⟨SA, 0, none⟩) (hk3 SA (by omega))).trans HCS.out
          have hMd : Md wA (w2.setCell ⟨Pb, i, none⟩ (.int .i64 ((q : Int) + 1))) Pb n ln V i (q + 1) (.slice ua2 (m + 1) uc2) := by
            refine HM'.out.step hql hlt ?_ (by rw [HszA.out] at hz2; omega) hk3 ⟨ho2.1, ho2.2.1, ho2.2.2⟩
            rw [← HX.out, ← HMM.out]
            exact hS2
          have hneS : SA ≠ Pb := by omega
          have HMd : Hid (Md wA (w2.setCell ⟨Pb, i, none⟩ (.int .i64 ((q : Int) + 1))) Pb n ln V i (q + 1) (.slice ua2 (m + 1) uc2)) := hMd
          clear hMd hS2 hz2 hk2 hb2 ho2 hk3 cv hAd HSA HAl HbA HszA HCS
          have hw1 : IntKind.i64.wrap (stn : Int) = (stn : Int) := by rw [IntKind.wrap_i64]; omega
          by_cases hs : stn = m + 1
          · have l3 : ((m : Int) + 1 == (stn : Int)) = true := by simp; omega
            have l4 : decide ((m : Int) + 1 = (stn : Int)) = true := by simp; omega
            have HQ : Hid (stn = m + 1) := hs
            clear hs
            go_wp2_with fail
            exact HK.out _ _ (st28m w0 wA (w2.setCell ⟨Pb, i, none⟩ (.int .i64 ((q : Int) + 1))) H b off n cap B K Fa Pb P LG SA stn (m + 1) v (some ⟨b, off, none⟩) ua2 fo fo uc2 Ad ln Cp Vb Vo sz V fl b3 b4 si col yi got false iF qF kd i (q + 1) 1 _ _ _ _ _ _ _ _ _ _ _ _ _ _ _ _ _ _ _ _ _ _ _ _ _ _ _ _ _ _ _ _ _ _ _ _ _ _ _ _ _ _ _ _ _ _ _ _ _ _ _ _ _ _ _ _ _ _ _ _ _ _ _ _ _ _ _ _ _ _ _ _ _ _ _ _ _ _ _ _ _ _ _ _ _ _ _ _ _ _ _ _ _ _ _ _ _ _ _ _ _ _ _ _ _ _ _ _ _ _ _ _ _ _ _ _ _ _ _ _ _ _ _ _ _ _ _ _ _ _ _ _ _ _ _ _ _ _ _ _ _ _ _ _ _ _ _ _ _ _ _ _ _ _ _ _ _ _ _ _ _ _ _ _ _ _ _ _ _ _ _ _ _ _ _ _ _ _ _ _ _ _ _ _ _ _ _ _ _ _ _ _ _ _ _ _ _ _ _ _ _ _ _ _ _ _ _ _ _ _ _ _ _ _ _ _ _ _ _ _ _ _ _ _ _ _ _ _ _ _ _ _ _ _ _ _ _ _ _ _ _ _ _ _ _ _ _ _ _ _ _ _ _ _ _ _ _ _ _ _ _ _ _ _ _ _ _ _ _ _ _ _ _ _ _ _ _ _ _ _ _ _ _ _ _ _ _ _ _ _ _ _ _ _ _ _ _ _ _ _ _ _ _ _ _ _ _ _ _ _ _ _ _ _ _ _ _ _ _ _ _ _ _ _ _ _ _ _ _ _ _ _ _ _ _ _ _ _ _ _ _ _ _ _ _ _ _ _ _ _ _ _ _ _ _ _ _ _ _ _ _ _ _ _ _ _ _ _ _ _ _ _ _ _ _ _ _ _ _ _ _ _ _ _ _ _ _ _ _ _ _ _ _ _ _ _ _ _ _ _ _ _ _ _ _ _ _ _ _ _ _ _ _ _ _ _ _ _ _ _ _ _ _ _ _ _ _ _ _ _ _ _ _ _ _ _ _ _ _ _ _ _ hn (fun _ => rfl) hsm HA.out HPb.out HFIN.out HG.out HC.out HY.out HF.out HN.out HMd.out (HFX.out.2.trans (by rw [show n - i = (n - i - 1) + 1 from by omega]; exact fin_stop hql (by have := HQ.out; have := HMM.out; omega))) rfl rfl (by have := HMM.out; omega) (Or.inl ⟨hlt, hql⟩))
          · have l3 : ((m : Int) + 1 == (stn : Int)) = false := by simp; omega
            have l4 : decide ((m : Int) + 1 = (stn : Int)) = false := by simp; omega
            have HQ : Hid (¬ stn = m + 1) := hs
            clear hs
            go_wp2_with fail
            have em : sm ln i + (q + 1) = m + 1 := by have := HMM.out; omega
            have hS3 : stn = 0 ∨ sm ln i + (q + 1) < stn := by have := HMM.out; have := HQ.out; have := HS.out; omega
            go_roundw
            case rel => exact ⟨q + 1, by omega, by go_num, rfl, by rw [em]; go_num, by rw [em]; exact ⟨ua2, uc2, rfl, HMd.out⟩, hS3⟩
            case measure => simp [intOf]; omega
        · have HQ : Hid (q = ln i) := (by omega : q = ln i)
          obtain ⟨m, hm⟩ : ∃ m, m = sm ln i + q := ⟨_, rfl⟩
          rw [← hm] at HM' ⊢
          have HMM : Hid (m = sm ln i + q) := hm
          clear hm
          have hbr : Below wA.heap.size wA wr := by rw [← HPb.out]; exact HM'.out.be
          have hAr := HA.out.later hbr
          have c2 := (hAr.wk i hlt).2
          have cF := hAr.cr.f i hlt
          clear hAr hbr
          have l2 : decide ((q : Int) < (ln i : Int)) = false := by simp; omega
          obtain ⟨fi, hfi⟩ : ∃ fi, fi = fl i := ⟨_, rfl⟩
          rw [← hfi] at c2
          have HFI : Hid (fi = fl i) := hfi
          clear hfi
          cases fi with
          | true =>
            have hfx : fin stn ln fl n 0 0 = (i, q, 2) := HFX.out.2.trans (by rw [show n - i = (n - i - 1) + 1 from by omega, HQ.out]; exact fin_fault (by have := HS.out; have := HQ.out; omega) HFI.out.symm)
            have HFX2 : Hid (fin stn ln fl n 0 0 = (i, q, 2)) := hfx
            clear hfx
            cases fo with
            | none =>
              go_wp2_with fail
              exact HK.out _ _ (st28m w0 wA wr H b off n cap B K Fa Pb P LG SA stn m v (some ⟨b, off, none⟩) sa' none (some ⟨B + 4 * i, 0, none⟩) sc' Ad ln Cp Vb Vo sz V fl b3 b4 si col yi got false iF qF kd i q 2 _ _ _ _ _ _ _ _ _ _ _ _ _ _ _ _ _ _ _ _ _ _ _ _ _ _ _ _ _ _ _ _ _ _ _ _ _ _ _ _ _ _ _ _ _ _ _ _ _ _ _ _ _ _ _ _ _ _ _ _ _ _ _ _ _ _ _ _ _ _ _ _ _ _ _ _ _ _ _ _ _ _ _ _ _ _ _ _ _ _ _ _ _ _ _ _ _ _ _ _ _ _ _ _ _ _ _ _ _ _ _ _ _ _ _ _ _ _ _ _ _ _ _ _ _ _ _ _ _ _ _ _ _ _ _ _ _ _ _ _ _ _ _ _ _ _ _ _ _ _ _ _ _ _ _ _ _ _ _ _ _ _ _ _ _ _ _ _ _ _ _ _ _ _ _ _ _ _ _ _ _ _ _ _ _ _ _ _ _ _ _ _ _ _ _ _ _ _ _ _ _ _ _ _ _ _ _ _ _ _ _ _ _ _ _ _ _ _ _ _ _ _ _ _ _ _ _ _ _ _ _ _ _ _ _ _ _ _ _ _ _ _ _ _ _ _ _ _ _ _ _ _ _ _ _ _ _ _ _ _ _ _ _ _ _ _ _ _ _ _ _ _ _ _ _ _ _ _ _ _ _ _ _ _ _ _ _ _ _ _ _ _ _ _ _ _ _ _ _ _ _ _ _ _ _ _ _ _ _ _ _ _ _ _ _ _ _ _ _ _ _ _ _ _ _ _ _ _ _ _ _ _ _ _ _ _ _ _ _ _ _ _ _ _ _ _ _ _ _ _ _ _ _ _ _ _ _ _ _ _ _ _ _ _ _ _ _ _ _ _ _ _ _ _ _ _ _ _ _ _ _ _ _ _ _ _ _ _ _ _ _ _ _ _ _ _ _ _ _ _ _ _ _ _ _ _ _ _ _ _ _ _ _ _ _ _ _ _ _ _ _ _ _ _ _ _ _ _ _ _ _ _ _ _ _ _ _ _ _ _ _ _ hn (fun _ => rfl) hsm HA.out HPb.out HFIN.out HG.out HC.out HY.out HF.out HN.out HM'.out HFX2.out rfl rfl HMM.out (Or.inl ⟨hlt, Nat.le_of_eq HQ.out⟩))
            | some ao =>
              go_wp2_with fail
              exact HK.out _ _ (st28m w0 wA wr H b off n cap B K Fa Pb P LG SA stn m v (some ⟨b, off, none⟩) sa' (some ao) (some ao) sc' Ad ln Cp Vb Vo sz V fl b3 b4 si col yi got false iF qF kd i q 2 _ _ _ _ _ _ _ _ _ _ _ _ _ _ _ _ _ _ _ _ _ _ _ _ _ _ _ _ _ _ _ _ _ _ _ _ _ _ _ _ _ _ _ _ _ _ _ _ _ _ _ _ _ _ _ _ _ _ _ _ _ _ _ _ _ _ _ _ _ _ _ _ _ _ _ _ _ _ _ _ _ _ _ _ _ _ _ _ _ _ _ _ _ _ _ _ _ _ _ _ _ _ _ _ _ _ _ _ _ _ _ _ _ _ _ _ _ _ _ _ _ _ _ _ _ _ _ _ _ _ _ _ _ _ _ _ _ _ _ _ _ _ _ _ _ _ _ _ _ _ _ _ _ _ _ _ _ _ _ _ _ _ _ _ _ _ _ _ _ _ _ _ _ _ _ _ _ _ _ _ _ _ _ _ _ _ _ _ _ _ _ _ _ _ _ _ _ _ _ _ _ _ _ _ _ _ _ _ _ _ _ _ _ _ _ _ _ _ _ _ _ _ _ _ _ _ _ _ _ _ _ _ _ _ _ _ _ _ _ _ _ _ _ _ _ _ _ _ _ _ _ _ _ _ _ _ _ _ _ _ _ _ _ _ _ _ _ _ _ _ _ _ _ _ _ _ _ _ _ _ _ _ _ _ _ _ _ _ _ _ _ _ _ _ _ _ _ _ _ _ _ _ _ _ _ _ _ _ _ _ _ _ _ _ _ _ _ _ _ _ _ _ _ _ _ _ _ _ _ _ _ _ _ _ _ _ _ _ _ _ _ _ _ _ _ _ _ _ _ _ _ _ _ _ _ _ _ _ _ _ _ _ _ _ _ _ _ _ _ _ _ _ _ _ _ _ _ _ _ _ _ _ _ _ _ _ _ _ _ _ _ _ _ _ _ _ _ _ _ _ _ _ _ _ _ _ _ _ _ _ _ _ _ _ _ _ _ _ _ _ _ _ _ _ _ _ _ _ _ _ _ _ _ _ _ _ _ _ _ _ _ _ hn (fun _ => rfl) hsm HA.out HPb.out HFIN.out HG.out HC.out HY.out HF.out HN.out HM'.out HFX2.out rfl rfl HMM.out (Or.inl ⟨hlt, Nat.le_of_eq HQ.out⟩))
          | false =>
            go_wp2_with fail
            have em : sm ln (i + 1) = m := by have h1 := HMM.out; rw [HQ.out] at h1; rw [h1]; rfl
            have hM2 : Md wA wr Pb n ln V (i + 1) 0 (.slice sa' m sc') := by have h1 := HM'.out; rw [HQ.out] at h1; exact h1.next
            have hf2 : (stn = 0 ∨ sm ln (i + 1) < stn) ∧ fin stn ln fl n 0 0 = fin stn ln fl (n - (i + 1)) (i + 1) (sm ln (i + 1)) := by
              refine ⟨by have := HS.out; have := HMM.out; omega, HFX.out.2.trans ?_⟩
              rw [show n - i = (n - (i + 1)) + 1 from by omega]
              exact fin_next (by have := HS.out; have := HQ.out; omega) HFI.out.symm
            go_roundw
            case rel => exact ⟨i + 1, by omega, by go_num, rfl, rfl, by rw [em], by rw [em]; exact ⟨sa', sc', rfl, hM2⟩, hf2⟩
            case measure => simp [intOf]; omega
    · have ei : Hid (i = n) := (by omega : i = n)
      have i2 : decide ((i : Int) < (n : Int)) = false := by simp; omega
      go_wp2_with fail
      exact HK.out _ _ (st28m w0 wA wr H b off n cap B K Fa Pb P LG SA stn (sm ln i) v a0 sa fo fo sc Ad ln Cp Vb Vo sz V fl b3 b4 si col yi got true iF qF kd i 0 0 _ _ _ _ _ _ _ _ _ _ _ _ _ _ _ _ _ _ _ _ _ _ _ _ _ _ _ _ _ _ _ _ _ _ _ _ _ _ _ _ _ _ _ _ _ _ _ _ _ _ _ _ _ _ _ _ _ _ _ _ _ _ _ _ _ _ _ _ _ _ _ _ _ _ _ _ _ _ _ _ _ _ _ _ _ _ _ _ _ _ _ _ _ _ _ _ _ _ _ _ _ _ _ _ _ _ _ _ _ _ _ _ _ _ _ _ _ _ _ _ _ _ _ _ _ _ _ _ _ _ _ _ _ _ _ _ _ _ _ _ _ _ _ _ _ _ _ _ _ _ _ _ _ _ _ _ _ _ _ _ _ _ _ _ _ _ _ _ _ _ _ _ _ _ _ _ _ _ _ _ _ _ _ _ _ _ _ _ _ _ _ _ _ _ _ _ _ _ _ _ _ _ _ _ _ _ _ _ _ _ _ _ _ _ _ _ _ _ _ _ _ _ _ _ _ _ _ _ _ _ _ _ _ _ _ _ _ _ _ _ _ _ _ _ _ _ _ _ _ _ _ _ _ _ _ _ _ _ _ _ _ _ _ _ _ _ _ _ _ _ _ _ _ _ _ _ _ _ _ _ _ _ _ _ _ _ _ _ _ _ _ _ _ _ _ _ _ _ _ _ _ _ _ _ _ _ _ _ _ _ _ _ _ _ _ _ _ _ _ _ _ _ _ _ _ _ _ _ _ _ _ _ _ _ _ _ _ _ _ _ _ _ _ _ _ _ _ _ _ _ _ _ _ _ _ _ _ _ _ _ _ _ _ _ _ _ _ _ _ _ _ _ _ _ _ _ _ _ _ _ _ _ _ _ _ _ _ _ _ _ _ _ _ _ _ _ _ _ _ _ _ _ _ _ _ _ _ _ _ _ _ _ _ _ _ _ _ _ _ _ _ _ _ _ _ _ _ _ _ _ _ _ _ _ _ _ _ _ _ _ _ _ hn HE.out hsm HA.out HPb.out HFIN.out HG.out HC.out HY.out HF.out HN.out HM.out (by rw [HFX.out.2, show n - i = 0 from by rw [ei.out]; omega]; rfl) rfl rfl rfl (Or.inr ⟨ei.out, rfl⟩))
end Go.Proofs.Ybulkdrqi
