import Derived.Test.Qxb6619286aMainLong
namespace Go.Proofs.Qxb6619286a
open Go.RowKit

set_option maxRecDepth 100000 in
set_option maxHeartbeats 16000000 in
theorem main_short (a0 a1 a2 a3 a4 a5 a6 : Option Addr) (n0 c0 n1 c1 n2 c2 n3 c3 n4 c4 n5 c5 n6 c6 : Nat) (f0 f1 : Nat → ByteArray) (z2 z3 : Nat → Int) (f4 f5 : Nat → ByteArray) (b6 : Nat → Bool) (w : World) (h0 : Row w a0 n0 (SV f0)) (h1 : Row w a1 n1 (SV f1)) (h2 : Row w a2 n2 (IV z2)) (h3 : Row w a3 n3 (IV z3)) (h4 : Row w a4 n4 (SV f4)) (h5 : Row w a5 n5 (SV f5)) (h6 : Row w a6 n6 (BV b6)) (k0 : ∀ i, i < n0 → i < n1 → OkKey (f0 i, f1 i)) (k4 : ∀ i, i < n4 → i < n5 → OkKey (f4 i, f5 i)) (g0 : n0 ≤ 4096) (g1 : n1 ≤ 4096) (g2 : n2 ≤ 4096) (g3 : n3 ≤ 4096) (g4 : n4 ≤ 4096) (g5 : n5 ≤ 4096) (g6 : n6 ≤ 4096) :
    Calls Try.prog 3 #[.slice a0 n0 c0, .slice a1 n1 c1, .slice a2 n2 c2, .slice a3 n3 c3, .slice a4 n4 c4, .slice a5 n5 c5, .slice a6 n6 c6] w fun e w' => e = .returned (.bool true) ∧ Below w.heap.size w w' := by
  go_enter Try.func3, Try.ntmps3
  go_wp2_with fail
  refine (bytes_any _ _ _ _ _ _ _ _ _ _ _ _ _ _ _ _ _ _ _ _ _ _ _ _ _ _ h0 h1 h4 h5).mono ?_
  rintro e w' ⟨⟨x, rfl⟩, rfl⟩
  cases x with
  | false =>
    go_wp2
    go_ret
    exact ⟨rfl, Below.refl _ _⟩
  | true =>
    go_wp2_with fail
    refine (str_any _ _ _ _ _ _ g0 (by omega) (by omega) h0).mono ?_
    rintro e wz ⟨⟨t0, x, rfl, tl0, th0⟩, rfl⟩
    cases x with
    | false =>
      go_wp2
      go_ret
      exact ⟨rfl, Below.refl _ _⟩
    | true =>
      go_wp2_with fail
      refine (str_any _ _ _ _ _ _ g1 (by omega) (by omega) h1).mono ?_
      rintro e wz ⟨⟨t1, x, rfl, tl1, th1⟩, rfl⟩
      cases x with
      | false =>
        go_wp2
        go_ret
        exact ⟨rfl, Below.refl _ _⟩
      | true =>
        go_wp2_with fail
        refine (str_any _ _ _ _ _ _ g4 (by omega) (by omega) h4).mono ?_
        rintro e wz ⟨⟨t2, x, rfl, tl2, th2⟩, rfl⟩
        cases x with
        | false =>
          go_wp2
          go_ret
          exact ⟨rfl, Below.refl _ _⟩
        | true =>
          go_wp2_with fail
          refine (str_any _ _ _ _ _ _ g5 (by omega) (by omega) h5).mono ?_
          rintro e wz ⟨⟨t3, x, rfl, tl3, th3⟩, rfl⟩
          cases x with
          | false =>
            go_wp2
            go_ret
            exact ⟨rfl, Below.refl _ _⟩
          | true =>
            go_wp2_with (first | (go_at_call 6; refine (min_any _ _ _).mono ?_; rintro e wy ⟨rfl, rfl⟩) | (go_at_call 7; refine (new_any _).mono ?_; rintro e wy ⟨rfl, rfl⟩))
            have p0 := mn_le (mn n0 n1) (mn n2 n3)
            have p1 := mn_le n0 n1
            have p2 := mn_le n2 n3
            have p3 := mn_le (mn n4 n5) n6
            have p4 := mn_le n4 n5
            obtain ⟨np, hnp⟩ : ∃ np, np = mn (mn n0 n1) (mn n2 n3) := ⟨_, rfl⟩
            obtain ⟨ns, hns⟩ : ∃ ns, ns = mn (mn n4 n5) n6 := ⟨_, rfl⟩
            rw [← hnp, ← hns]
            have y0 : np ≤ n0 := by omega
            have y1 : np ≤ n1 := by omega
            have y2 : np ≤ n2 := by omega
            have y3 : np ≤ n3 := by omega
            have y4 : ns ≤ n4 := by omega
            have y5 : ns ≤ n5 := by omega
            have y6 : ns ≤ n6 := by omega
            clear hnp hns p0 p1 p2 p3 p4 tl0 th0 tl1 th1 tl2 th2 tl3 th3
            refine loop1 h0 h1 h2 h3 (by omega) y0 y1 y2 y3 (fun i hi => k0 i (by omega) (by omega)) rfl ⟨Links.made _ _ _, (Below.refl _ _).alloc (Nat.le_refl _) _⟩ ?_
            intro p20 p161 p162 p163 p164 p165 p166 p167 p168 p169 p170 p171 p172 p173 p174 p175 p176 p177 p178 p179 p180 p181 p182 p183 wa hPa
            obtain ⟨hLa, hBa⟩ := hPa
            go_wp2_with fail
            refine loop2 h4 h5 h6 (by omega) (by omega : np ≤ 4096) y4 y5 y6 (fun i hi => k4 i (by omega) (by omega)) rfl (zero_put f0 f1 z2 z3 np) ⟨hLa, hBa⟩ ?_
            clear hLa hBa
            intro q21 q184 q185 q186 q187 q188 q189 q190 q191 q192 q193 q194 q195 q196 q197 q198 q199 q200 q201 q202 W hPb
            obtain ⟨hLW, hBW⟩ := hPb
            have R0 := h0.under (Nat.le_refl _) hBW
            have R1 := h1.under (Nat.le_refl _) hBW
            have R2 := h2.under (Nat.le_refl _) hBW
            have R3 := h3.under (Nat.le_refl _) hBW
            have R4 := h4.under (Nat.le_refl _) hBW
            have R5 := h5.under (Nat.le_refl _) hBW
            have R6 := h6.under (Nat.le_refl _) hBW
            have hsW := hBW.size
            clear h0 h1 h2 h3 h4 h5 h6 k0 k4
            obtain ⟨i9, hi9, hz9, hs9, hy9⟩ := info_parts info9
            obtain ⟨i2, hi2, hz2, hs2, hy2⟩ := info_parts info2
            go_wp2_with (first | (at_make; refine wpList_make_own _ rfl (.const (.int .i64 0)) (.tmp 205) 22 rfl W.heap.size 9 i9 (.string ByteArray.empty) 1 Try.underlying22 hi9 hz9 hs9 .i64 .i64 _ (np + ns) rfl rfl (by omega) (by rw [hy9]; omega) (by unfold maxLen; omega) (Nat.le_refl _) ?_; intro w1 o1 q1; have d1 := own_lt o1; have s1 := q1.size) | (at_make; refine wpList_make_own _ rfl (.const (.int .i64 0)) (.tmp 209) 22 rfl W.heap.size 9 i9 (.string ByteArray.empty) 1 Try.underlying22 hi9 hz9 hs9 .i64 .i64 _ (np + ns) rfl rfl (by omega) (by rw [hy9]; omega) (by unfold maxLen; omega) (by omega) ?_; intro w2 o2 q2; have d2 := own_lt o2; have s2 := q2.size; have o1a := kept_none o1 q2) | (at_make; refine wpList_make_own _ rfl (.const (.int .i64 0)) (.tmp 213) 23 rfl W.heap.size 2 i2 (.int .i64 0) 1 Try.underlying23 hi2 hz2 hs2 .i64 .i64 _ (np + ns) rfl rfl (by omega) (by rw [hy2]; omega) (by unfold maxLen; omega) (by omega) ?_; intro w3 o3 q3; have d3 := own_lt o3; have s3 := q3.size; have o1b := kept_none o1a q3; have o2b := kept_none o2 q3) | (at_make; refine wpList_make_own _ rfl (.const (.int .i64 0)) (.tmp 217) 23 rfl W.heap.size 2 i2 (.int .i64 0) 1 Try.underlying23 hi2 hz2 hs2 .i64 .i64 _ (np + ns) rfl rfl (by omega) (by rw [hy2]; omega) (by unfold maxLen; omega) (by omega) ?_; intro w4 o4 q4; have d4 := own_lt o4; have s4 := q4.size; have o1c := kept_none o1b q4; have o2c := kept_none o2b q4; have o3c := kept_none o3 q4))
            have hKR : KRel w4 W.heap.size W.heap.size w1.heap.size w2.heap.size w3.heap.size (np + ns) [] := ⟨o1c, o2c, o3c, o4⟩
            have hBl : Below W.heap.size W w4 := ((((Below.refl _ _).grown q1 (Nat.le_refl _) (fun k hk => by cases hk)).grown q2 (by omega) (fun k hk => by cases hk)).grown q3 (by omega) (fun k hk => by cases hk)).grown q4 (by omega) (fun k hk => by cases hk)
            clear q1 q2 q3 q4 o1 o1a o1b o1c o2 o2b o2c o3 o3c o4 hi9 hz9 hs9 hy9 hi2 hz2 hs2 hy2
            refine loop3 R0 R1 R2 R3 (by omega) y0 y1 y2 y3 (by omega) rfl d1 d2 d3 (Nat.le_refl _) hKR hBl ?_
            clear hKR hBl R0 R1 R2 R3
            intro r26 r27 r28 r219 r220 r221 r222 r223 r224 r225 r226 r227 r228 r229 r230 r231 r232 r233 r234 r235 r236 r237 r238 r239 r240 r241 r242 r243 r244 r245 r246 r247 r248 r249 r250 r251 r252 r253 r254 r255 r256 r257 r258 r259 r260 r261 r262 r263 r264 r265 r266 r267 r268 r269 r270 r271 r272 r273 r274 r275 r276 r277 r278 r279 w5 hK5 hB5
            have hk0 := klPref_length f0 f1 z2 z3 np np
            go_wp2_with fail
            refine loop5 R4 R5 (by omega) (by omega) y4 y5 (by omega) rfl d1 d2 d3 (Nat.le_refl _) hK5 hB5 ?_
            clear hK5 hB5
            intro s29 s30 s31 s280 s281 s282 s283 s284 s285 s286 s287 s288 s289 s290 s291 s292 s293 s294 s295 s296 s297 s298 s299 s300 s301 s302 s303 s304 s305 s306 s307 s308 s309 s310 s311 s312 s313 s314 s315 s316 s317 s318 s319 s320 s321 s322 s323 s324 s325 s326 s327 s328 s329 s330 s331 s332 s333 s334 s335 s336 s337 s338 s339 s340 s341 w6 hK6 hB6
            have hL6 := hLW.keep hB6
            have R46 := R4.under (Nat.le_refl _) hB6
            have R56 := R5.under (Nat.le_refl _) hB6
            have R66 := R6.under (Nat.le_refl _) hB6
            have hend := hBW.trans (hB6.mono hsW)
            obtain ⟨hlen, hT⟩ := the_law f0 f1 z2 z3 f4 f5 b6 np ns hL6
            have hl2 := klCall_length (klPref f0 f1 z2 z3 np np) f4 f5 ns
            have HLn : Hid (_ = _) := hlen
            clear hlen R4 R5 R6 hLW hBW hB6
            go_wp2_with fail
            refine (len_is hL6 HLn.out).mono ?_
            rintro e wx ⟨rfl, rfl⟩
            go_wp2_with fail
            refine loop7 R46 R56 R66 (by omega) y4 y5 y6 (by omega) hK6 hL6 hT ?_
            clear R46 R56 R66 hK6 hL6 hT
            intro t14 t32 t33 t34 t35 t36 t37 t38 t39 t40 t347 t348 t349 t350 t351 t352 t353 t354 t355 t356 t357 t358 t359 t360 t361 t362 t363 t364 t365 t366 t367 t368 t369 t370 t371 t372 t373 t374 t375 t376 t377 t378 t379 t380 t381 t382 t383 t384 t385 t386 t387 t388 t389 t390 t391 t392 t393 t394 t395 t396 t397 t398 t399 t400 t401 t402 t403 t404 t405 t406 t407 t408 t409 t410 t411 t412 t413 t414 t415 t416 t417 t418 t419 t420 t421 t422 t423 t424 t425 t426 t427 t428 t429 t430 t431 t432 t433 t434 t435 t436 t437 t438 t439 t440 t441 t442 t443 t444 t445 t446 t447 t448 q
            go_wp2_with fail
            go_ret
            exact ⟨rfl, below_drewN hend q⟩
end Go.Proofs.Qxb6619286a
