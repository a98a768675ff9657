import Derived.Test.Qxb6619286aLoop6
namespace Go.Proofs.Qxb6619286a
open Go.RowKit

set_option maxRecDepth 100000 in
set_option maxHeartbeats 8000000 in
theorem loop5 {x0 x1 x2 x3 x6 x7 x8 x9 x10 x11 x12 x13 x14 x15 x16 x17 x19 x20 x21 x26 x27 x28 x30 x31 x32 x33 x34 x35 x36 x37 x38 x39 x40 x41 x42 x43 x44 x45 x46 x47 x48 x49 x50 x51 x52 x53 x54 x55 x56 x57 x58 x59 x60 x61 x62 x63 x64 x65 x66 x67 x68 x69 x70 x71 x72 x73 x74 x75 x76 x77 x78 x79 x80 x81 x82 x83 x84 x85 x86 x87 x88 x89 x90 x91 x92 x93 x94 x95 x96 x97 x98 x99 x100 x101 x102 x103 x104 x105 x106 x107 x108 x109 x110 x111 x112 x113 x114 x115 x116 x117 x118 x119 x120 x121 x122 x123 x124 x125 x126 x127 x128 x129 x130 x131 x132 x133 x134 x135 x136 x137 x138 x139 x140 x141 x142 x143 x144 x145 x146 x147 x148 x149 x150 x151 x152 x153 x154 x155 x156 x157 x158 x159 x160 x161 x162 x163 x164 x165 x166 x167 x168 x169 x170 x171 x172 x173 x174 x175 x176 x177 x178 x179 x180 x181 x182 x183 x184 x185 x186 x187 x188 x189 x190 x191 x192 x193 x194 x195 x196 x197 x198 x199 x200 x201 x202 x203 x204 x205 x206 x207 x208 x209 x210 x211 x212 x213 x214 x215 x216 x217 x218 x219 x220 x221 x222 x223 x224 x225 x226 x227 x228 x229 x230 x231 x232 x233 x234 x235 x236 x237 x238 x239 x240 x241 x242 x243 x244 x245 x246 x247 x248 x249 x250 x251 x252 x253 x254 x255 x256 x257 x258 x259 x260 x261 x262 x263 x264 x265 x266 x267 x268 x269 x270 x271 x272 x273 x274 x275 x276 x277 x278 x279 x280 x281 x282 x283 x284 x285 x286 x287 x288 x289 x290 x291 x292 x293 x294 x295 x296 x297 x298 x299 x300 x301 x302 x303 x304 x305 x306 x307 x308 x309 x310 x311 x312 x313 x314 x315 x316 x317 x318 x319 x320 x321 x322 x323 x324 x325 x326 x327 x328 x329 x330 x331 x332 x333 x334 x335 x336 x337 x338 x339 x340 x341 x342 x343 x344 x345 x346 x347 x348 x349 x350 x351 x352 x353 x354 x355 x356 x357 x358 x359 x360 x361 x362 x363 x364 x365 x366 x367 x368 x369 x370 x371 x372 x373 x374 x375 x376 x377 x378 x379 x380 x381 x382 x383 x384 x385 x386 x387 x388 x389 x390 x391 x392 x393 x394 x395 x396 x397 x398 x399 x400 x401 x402 x403 x404 x405 x406 x407 x408 x409 x410 x411 x412 x413 x414 x415 x416 x417 x418 x419 x420 x421 x422 x423 x424 x425 x426 x427 x428 x429 x430 x431 x432 x433 x434 x435 x436 x437 x438 x439 x440 x441 x442 x443 x444 x445 x446 x447 x448 : Value} {Q0 : Exit → Act → World → Prop} {a4 a5 : Option Addr} {n4 c4 n5 c5 ns H g1 g2 g3 g4 cap : Nat} {K0 : List ((ByteArray × ByteArray) × Int × Int)} {f4 f5 : Nat → ByteArray} {w0 w : World}
    (h4 : Row w0 a4 n4 (SV f4)) (h5 : Row w0 a5 n5 (SV f5)) (hns : ns ≤ 4096) (hk0 : K0.length ≤ 4096) (e4 : ns ≤ n4) (e5 : ns ≤ n5)
    (hcap : K0.length + ns ≤ cap) (hB : H = w0.heap.size) (d12 : g1 < g2) (d23 : g2 < g3) (d34 : g3 < g4) (hH : H ≤ g1) (hw : KRel w H g1 g2 g3 g4 cap K0) (hwb : Below H w0 w)
    (hexit : ∀ (u29 u30 u31 u280 u281 u282 u283 u284 u285 u286 u287 u288 u289 u290 u291 u292 u293 u294 u295 u296 u297 u298 u299 u300 u301 u302 u303 u304 u305 u306 u307 u308 u309 u310 u311 u312 u313 u314 u315 u316 u317 u318 u319 u320 u321 u322 u323 u324 u325 u326 u327 u328 u329 u330 u331 u332 u333 u334 u335 u336 u337 u338 u339 u340 u341 : Value) (w' : World), KRel w' H g1 g2 g3 g4 cap (klCall K0 f4 f5 ns) → Below H w0 w' → Q0 (.exit 8) ⟨List.toArray (x0 :: x1 :: x2 :: x3 :: (.slice a4 n4 c4) :: (.slice a5 n5 c5) :: x6 :: x7 :: x8 :: x9 :: x10 :: x11 :: x12 :: x13 :: x14 :: x15 :: x16 :: x17 :: (.int .i64 ns) :: x19 :: x20 :: x21 :: (.slice (some ⟨g1, 0, none⟩) (klCall K0 f4 f5 ns).length cap) :: (.slice (some ⟨g2, 0, none⟩) (klCall K0 f4 f5 ns).length cap) :: (.slice (some ⟨g3, 0, none⟩) (klCall K0 f4 f5 ns).length cap) :: (.slice (some ⟨g4, 0, none⟩) (klCall K0 f4 f5 ns).length cap) :: x26 :: x27 :: x28 :: u29 :: u30 :: u31 :: x32 :: x33 :: x34 :: x35 :: x36 :: x37 :: x38 :: x39 :: x40 :: x41 :: x42 :: x43 :: x44 :: x45 :: x46 :: x47 :: x48 :: x49 :: x50 :: x51 :: x52 :: x53 :: x54 :: x55 :: x56 :: x57 :: x58 :: x59 :: x60 :: x61 :: x62 :: x63 :: x64 :: x65 :: x66 :: x67 :: x68 :: x69 :: x70 :: x71 :: x72 :: x73 :: x74 :: x75 :: x76 :: x77 :: x78 :: x79 :: x80 :: x81 :: x82 :: x83 :: x84 :: x85 :: x86 :: x87 :: x88 :: x89 :: x90 :: x91 :: x92 :: x93 :: x94 :: x95 :: x96 :: x97 :: x98 :: x99 :: x100 :: x101 :: x102 :: x103 :: x104 :: x105 :: x106 :: x107 :: x108 :: x109 :: x110 :: x111 :: x112 :: x113 :: x114 :: x115 :: x116 :: x117 :: x118 :: x119 :: x120 :: x121 :: x122 :: x123 :: x124 :: x125 :: x126 :: x127 :: x128 :: x129 :: x130 :: x131 :: x132 :: x133 :: x134 :: x135 :: x136 :: x137 :: x138 :: x139 :: x140 :: x141 :: x142 :: x143 :: x144 :: x145 :: x146 :: x147 :: x148 :: x149 :: x150 :: x151 :: x152 :: x153 :: x154 :: x155 :: x156 :: x157 :: x158 :: x159 :: x160 :: x161 :: x162 :: x163 :: x164 :: x165 :: x166 :: x167 :: x168 :: x169 :: x170 :: x171 :: x172 :: x173 :: x174 :: x175 :: x176 :: x177 :: x178 :: x179 :: x180 :: x181 :: x182 :: x183 :: x184 :: x185 :: x186 :: x187 :: x188 :: x189 :: x190 :: x191 :: x192 :: x193 :: x194 :: x195 :: x196 :: x197 :: x198 :: x199 :: x200 :: x201 :: x202 :: x203 :: x204 :: x205 :: x206 :: x207 :: x208 :: x209 :: x210 :: x211 :: x212 :: x213 :: x214 :: x215 :: x216 :: x217 :: x218 :: x219 :: x220 :: x221 :: x222 :: x223 :: x224 :: x225 :: x226 :: x227 :: x228 :: x229 :: x230 :: x231 :: x232 :: x233 :: x234 :: x235 :: x236 :: x237 :: x238 :: x239 :: x240 :: x241 :: x242 :: x243 :: x244 :: x245 :: x246 :: x247 :: x248 :: x249 :: x250 :: x251 :: x252 :: x253 :: x254 :: x255 :: x256 :: x257 :: x258 :: x259 :: x260 :: x261 :: x262 :: x263 :: x264 :: x265 :: x266 :: x267 :: x268 :: x269 :: x270 :: x271 :: x272 :: x273 :: x274 :: x275 :: x276 :: x277 :: x278 :: x279 :: u280 :: u281 :: u282 :: u283 :: u284 :: u285 :: u286 :: u287 :: u288 :: u289 :: u290 :: u291 :: u292 :: u293 :: u294 :: u295 :: u296 :: u297 :: u298 :: u299 :: u300 :: u301 :: u302 :: u303 :: u304 :: u305 :: u306 :: u307 :: u308 :: u309 :: u310 :: u311 :: u312 :: u313 :: u314 :: u315 :: u316 :: u317 :: u318 :: u319 :: u320 :: u321 :: u322 :: u323 :: u324 :: u325 :: u326 :: u327 :: u328 :: u329 :: u330 :: u331 :: u332 :: u333 :: u334 :: u335 :: u336 :: u337 :: u338 :: u339 :: u340 :: u341 :: x342 :: x343 :: x344 :: x345 :: x346 :: x347 :: x348 :: x349 :: x350 :: x351 :: x352 :: x353 :: x354 :: x355 :: x356 :: x357 :: x358 :: x359 :: x360 :: x361 :: x362 :: x363 :: x364 :: x365 :: x366 :: x367 :: x368 :: x369 :: x370 :: x371 :: x372 :: x373 :: x374 :: x375 :: x376 :: x377 :: x378 :: x379 :: x380 :: x381 :: x382 :: x383 :: x384 :: x385 :: x386 :: x387 :: x388 :: x389 :: x390 :: x391 :: x392 :: x393 :: x394 :: x395 :: x396 :: x397 :: x398 :: x399 :: x400 :: x401 :: x402 :: x403 :: x404 :: x405 :: x406 :: x407 :: x408 :: x409 :: x410 :: x411 :: x412 :: x413 :: x414 :: x415 :: x416 :: x417 :: x418 :: x419 :: x420 :: x421 :: x422 :: x423 :: x424 :: x425 :: x426 :: x427 :: x428 :: x429 :: x430 :: x431 :: x432 :: x433 :: x434 :: x435 :: x436 :: x437 :: x438 :: x439 :: x440 :: x441 :: x442 :: x443 :: x444 :: x445 :: x446 :: x447 :: x448 :: []), []⟩ w') :
    Code.wp Try.prog (Code.loop (loopOf Try.f3 4)) Q0 ⟨List.toArray (x0 :: x1 :: x2 :: x3 :: (.slice a4 n4 c4) :: (.slice a5 n5 c5) :: x6 :: x7 :: x8 :: x9 :: x10 :: x11 :: x12 :: x13 :: x14 :: x15 :: x16 :: x17 :: (.int .i64 ns) :: x19 :: x20 :: x21 :: (.slice (some ⟨g1, 0, none⟩) K0.length cap) :: (.slice (some ⟨g2, 0, none⟩) K0.length cap) :: (.slice (some ⟨g3, 0, none⟩) K0.length cap) :: (.slice (some ⟨g4, 0, none⟩) K0.length cap) :: x26 :: x27 :: x28 :: (.int .i64 0) :: x30 :: x31 :: x32 :: x33 :: x34 :: x35 :: x36 :: x37 :: x38 :: x39 :: x40 :: x41 :: x42 :: x43 :: x44 :: x45 :: x46 :: x47 :: x48 :: x49 :: x50 :: x51 :: x52 :: x53 :: x54 :: x55 :: x56 :: x57 :: x58 :: x59 :: x60 :: x61 :: x62 :: x63 :: x64 :: x65 :: x66 :: x67 :: x68 :: x69 :: x70 :: x71 :: x72 :: x73 :: x74 :: x75 :: x76 :: x77 :: x78 :: x79 :: x80 :: x81 :: x82 :: x83 :: x84 :: x85 :: x86 :: x87 :: x88 :: x89 :: x90 :: x91 :: x92 :: x93 :: x94 :: x95 :: x96 :: x97 :: x98 :: x99 :: x100 :: x101 :: x102 :: x103 :: x104 :: x105 :: x106 :: x107 :: x108 :: x109 :: x110 :: x111 :: x112 :: x113 :: x114 :: x115 :: x116 :: x117 :: x118 :: x119 :: x120 :: x121 :: x122 :: x123 :: x124 :: x125 :: x126 :: x127 :: x128 :: x129 :: x130 :: x131 :: x132 :: x133 :: x134 :: x135 :: x136 :: x137 :: x138 :: x139 :: x140 :: x141 :: x142 :: x143 :: x144 :: x145 :: x146 :: x147 :: x148 :: x149 :: x150 :: x151 :: x152 :: x153 :: x154 :: x155 :: x156 :: x157 :: x158 :: x159 :: x160 :: x161 :: x162 :: x163 :: x164 :: x165 :: x166 :: x167 :: x168 :: x169 :: x170 :: x171 :: x172 :: x173 :: x174 :: x175 :: x176 :: x177 :: x178 :: x179 :: x180 :: x181 :: x182 :: x183 :: x184 :: x185 :: x186 :: x187 :: x188 :: x189 :: x190 :: x191 :: x192 :: x193 :: x194 :: x195 :: x196 :: x197 :: x198 :: x199 :: x200 :: x201 :: x202 :: x203 :: x204 :: x205 :: x206 :: x207 :: x208 :: x209 :: x210 :: x211 :: x212 :: x213 :: x214 :: x215 :: x216 :: x217 :: x218 :: x219 :: x220 :: x221 :: x222 :: x223 :: x224 :: x225 :: x226 :: x227 :: x228 :: x229 :: x230 :: x231 :: x232 :: x233 :: x234 :: x235 :: x236 :: x237 :: x238 :: x239 :: x240 :: x241 :: x242 :: x243 :: x244 :: x245 :: x246 :: x247 :: x248 :: x249 :: x250 :: x251 :: x252 :: x253 :: x254 :: x255 :: x256 :: x257 :: x258 :: x259 :: x260 :: x261 :: x262 :: x263 :: x264 :: x265 :: x266 :: x267 :: x268 :: x269 :: x270 :: x271 :: x272 :: x273 :: x274 :: x275 :: x276 :: x277 :: x278 :: x279 :: x280 :: x281 :: x282 :: x283 :: x284 :: x285 :: x286 :: x287 :: x288 :: x289 :: x290 :: x291 :: x292 :: x293 :: x294 :: x295 :: x296 :: x297 :: x298 :: x299 :: x300 :: x301 :: x302 :: x303 :: x304 :: x305 :: x306 :: x307 :: x308 :: x309 :: x310 :: x311 :: x312 :: x313 :: x314 :: x315 :: x316 :: x317 :: x318 :: x319 :: x320 :: x321 :: x322 :: x323 :: x324 :: x325 :: x326 :: x327 :: x328 :: x329 :: x330 :: x331 :: x332 :: x333 :: x334 :: x335 :: x336 :: x337 :: x338 :: x339 :: x340 :: x341 :: x342 :: x343 :: x344 :: x345 :: x346 :: x347 :: x348 :: x349 :: x350 :: x351 :: x352 :: x353 :: x354 :: x355 :: x356 :: x357 :: x358 :: x359 :: x360 :: x361 :: x362 :: x363 :: x364 :: x365 :: x366 :: x367 :: x368 :: x369 :: x370 :: x371 :: x372 :: x373 :: x374 :: x375 :: x376 :: x377 :: x378 :: x379 :: x380 :: x381 :: x382 :: x383 :: x384 :: x385 :: x386 :: x387 :: x388 :: x389 :: x390 :: x391 :: x392 :: x393 :: x394 :: x395 :: x396 :: x397 :: x398 :: x399 :: x400 :: x401 :: x402 :: x403 :: x404 :: x405 :: x406 :: x407 :: x408 :: x409 :: x410 :: x411 :: x412 :: x413 :: x414 :: x415 :: x416 :: x417 :: x418 :: x419 :: x420 :: x421 :: x422 :: x423 :: x424 :: x425 :: x426 :: x427 :: x428 :: x429 :: x430 :: x431 :: x432 :: x433 :: x434 :: x435 :: x436 :: x437 :: x438 :: x439 :: x440 :: x441 :: x442 :: x443 :: x444 :: x445 :: x446 :: x447 :: x448 :: []), []⟩ w := by
  obtain ⟨i9, hi9, hz9, hs9, hy9⟩ := info_parts info9
  obtain ⟨i2, hi2, hz2, hs2, hy2⟩ := info_parts info2
  clear hz9 hy9 hz2 hy2
  conv => arg 2; arg 1; whnf
  go_loopw [22, 23, 24, 25, 29] (fun s1 s2 s3 s4 t wr => ∃ i : Nat, i ≤ ns ∧ t = .int .i64 i ∧ s1 = .slice (some ⟨g1, 0, none⟩) (klCall K0 f4 f5 i).length cap ∧ s2 = .slice (some ⟨g2, 0, none⟩) (klCall K0 f4 f5 i).length cap ∧ s3 = .slice (some ⟨g3, 0, none⟩) (klCall K0 f4 f5 i).length cap ∧ s4 = .slice (some ⟨g4, 0, none⟩) (klCall K0 f4 f5 i).length cap ∧ KRel wr H g1 g2 g3 g4 cap (klCall K0 f4 f5 i) ∧ Below H w0 wr) (fun _ _ _ _ t _ => ns - (intOf t).toNat)
  case atStart => exact ⟨0, Nat.zero_le _, rfl, rfl, rfl, rfl, rfl, hw, hwb⟩
  case round =>
    clear hw hwb
    obtain ⟨i, hi, rfl, rfl, rfl, rfl, rfl, hK, hbl⟩ := hrel
    by_cases hlt : i < ns
    · have R4 := h4.under (Nat.le_of_eq hB.symm) hbl
      have R5 := h5.under (Nat.le_of_eq hB.symm) hbl
      have hHs : H ≤ wr.heap.size := by rw [hB]; exact hbl.size
      have hlen := klCall_length K0 f4 f5 i
      obtain ⟨KL, hKL⟩ : ∃ KL, KL = klCall K0 f4 f5 i := ⟨_, rfl⟩
      rw [← hKL] at hK hlen ⊢
      have HKL : Hid (KL = klCall K0 f4 f5 i) := hKL
      clear hKL hexit
      have RR4 := R4
      have RR5 := R5
      obtain ⟨b4, p4, rfl, r4⟩ := R4 (by omega)
      obtain ⟨b5, p5, rfl, r5⟩ := R5 (by omega)
      have s4 : wr.cell? ⟨b4, p4 + i, none⟩ = some (.string (f4 i)) := r4 i (by omega)
      have s5 : wr.cell? ⟨b5, p5 + i, none⟩ = some (.string (f5 i)) := r5 i (by omega)
      have m4 : (i : Int) < n4 := by omega
      have m5 : (i : Int) < n5 := by omega
      have L0 := h4.low hB (by omega) (by omega : i < n4)
      have L1 := h5.low hB (by omega) (by omega : i < n5)
      clear r4 r5 h4 h5 hB R4 R5
      by_cases hj : joins (f4 i) (f5 i) = true
      · by_cases hlat : listed KL (f4 i, f5 i) = true
        · have HN : Hid (klCall K0 f4 f5 (i + 1) = KL) := by show _ = _; rw [klCall, ← HKL.out, if_neg (by rw [hlat]; simp)]
          go_wp2_with fail
          go_quiet ((go_at_call 10; exact Calls.quiet_of_same (joins_is hj _)))
          go_wp2_with fail
          refine loop6 hlat (by exact RR4) (by exact RR5) (by omega) (by omega) (by omega) (by omega) (by exact hK) ?_
          intro v31 v295 v296 v297 v298 v299 v300 v301 v302 v303 v304 v305 v306 v307 v308 v309 v310 v311 v312 v313 v314 v315 v316 v317 v318 v319 v320 q
          go_wp2_with fail
          go_roundw
          case rel =>
            refine ⟨i + 1, by omega, by go_num, ?_, ?_, ?_, ?_, ?_, below_drewN hbl _⟩
            all_goals rw [HN.out]
            exact hK
          case measure => simp [intOf]; omega
        · rw [Bool.not_eq_true] at hlat
          have HN : Hid (klCall K0 f4 f5 (i + 1) = KL ++ [((f4 i, f5 i), 0, 0)]) := by show _ = _; rw [klCall, ← HKL.out, if_pos ⟨hj, hlat⟩]
          go_wp2_with fail
          go_quiet ((go_at_call 10; exact Calls.quiet_of_same (joins_is hj _)))
          go_wp2_with fail
          refine loop6 hlat (by exact RR4) (by exact RR5) (by omega) (by omega) (by omega) (by omega) (by exact hK) ?_
          intro v31 v295 v296 v297 v298 v299 v300 v301 v302 v303 v304 v305 v306 v307 v308 v309 v310 v311 v312 v313 v314 v315 v316 v317 v318 v319 v320 q
          rw [World.drewN_drewN]
          have hbl2 := below_drewN hbl (nq + q)
          obtain ⟨o1, o2, o3, o4⟩ : KRel (wr.drewN (nq + q)) H g1 g2 g3 g4 cap KL := hK
          have hHs2 : H ≤ (wr.drewN (nq + q)).heap.size := hHs
          have t0 : (wr.drewN (nq + q)).cell? ⟨b4, p4 + i, none⟩ = some (.string (f4 i)) := s4
          have t1 : (wr.drewN (nq + q)).cell? ⟨b5, p5 + i, none⟩ = some (.string (f5 i)) := s5
          have hroom : KL.length + 1 ≤ cap := by omega
          clear RR4 RR5 hbl hHs s4 s5
          generalize wr.drewN (nq + q) = W at hbl2 o1 o2 o3 o4 hHs2 t0 t1 ⊢
          go_wp2_with (first
            | (at_builtin; refine wpList_append_fits _ rfl (.tmp 322) (.tmp 327) 22 rfl H 9 i9 1 Try.underlying22 hi9 hs9 g1 KL.length cap _ rfl (by exact World.ownsRow.alloc o1 _) ⟨W.heap.size, 0, none⟩ 1 1 [.string (f4 i)] rfl rfl (by exact cell_one_new _ _ _) (one_cell _ rfl) (by omega) ?_; intro w1 o1x q1; have B1 := push_below q1 hH hHs2; have o2a := kept_row o2 q1 (by omega); have o3a := kept_row o3 q1 (by omega); have o4a := kept_row o4 q1 (by omega); have t1a := low_cell B1 t1 L1; have S1 : H ≤ w1.heap.size := by have := B1.size; omega)
            | (at_builtin; refine wpList_append_fits _ rfl (.tmp 329) (.tmp 334) 22 rfl H 9 i9 1 Try.underlying22 hi9 hs9 g2 KL.length cap _ rfl (by exact World.ownsRow.alloc o2a _) ⟨w1.heap.size, 0, none⟩ 1 1 [.string (f5 i)] rfl rfl (by exact cell_one_new _ _ _) (one_cell _ rfl) (by omega) ?_; intro w2 o2ax q2; have B2 := push_below q2 (by omega) S1; have o1b := kept_row o1x q2 (by omega); have o3b := kept_row o3a q2 (by omega); have o4b := kept_row o4a q2 (by omega); have S2 : H ≤ w2.heap.size := by have := B2.size; omega)
            | (at_builtin; refine wpList_append_fits _ rfl (.tmp 336) (.tmp 337) 23 rfl H 2 i2 1 Try.underlying23 hi2 hs2 g3 KL.length cap _ rfl (by exact World.ownsRow.alloc o3b _) ⟨w2.heap.size, 0, none⟩ 1 1 [.int .i64 0] rfl rfl (by exact cell_one_new _ _ _) (one_cell _ rfl) (by omega) ?_; intro w3 o3bx q3; have B3 := push_below q3 (by omega) S2; have o1c := kept_row o1b q3 (by omega); have o2c := kept_row o2ax q3 (by omega); have o4c := kept_row o4b q3 (by omega); have S3 : H ≤ w3.heap.size := by have := B3.size; omega)
            | (at_builtin; refine wpList_append_fits _ rfl (.tmp 339) (.tmp 340) 23 rfl H 2 i2 1 Try.underlying23 hi2 hs2 g4 KL.length cap _ rfl (by exact World.ownsRow.alloc o4c _) ⟨w3.heap.size, 0, none⟩ 1 1 [.int .i64 0] rfl rfl (by exact cell_one_new _ _ _) (one_cell _ rfl) (by omega) ?_; intro w4 o4cx q4; have B4 := push_below q4 (by omega) S3; have o1d := kept_row o1c q4 (by omega); have o2d := kept_row o2c q4 (by omega); have o3d := kept_row o3bx q4 (by omega)))
          have HL : Hid (KL.length + 1 = (klCall K0 f4 f5 (i + 1)).length) := by show _ = _; rw [HN.out, List.length_append]; rfl
          go_roundw
          case rel => exact ⟨i + 1, by omega, by go_num, slice_len HL.out, slice_len HL.out, slice_len HL.out, slice_len HL.out, by rw [HN.out]; exact krel_push o1d o2d o3d o4cx, (((hbl2.trans B1).trans B2).trans B3).trans B4⟩
          case measure => simp [intOf]; omega
      · rw [Bool.not_eq_true] at hj
        have HN : Hid (klCall K0 f4 f5 (i + 1) = KL) := by show _ = _; rw [klCall, ← HKL.out, if_neg (by rw [hj]; simp)]
        go_wp2_with fail
        go_quiet ((go_at_call 10; exact Calls.quiet_of_same (joins_is hj _)))
        go_wp2_with fail
        go_roundw
        case rel =>
          refine ⟨i + 1, by omega, by go_num, ?_, ?_, ?_, ?_, ?_, below_drewN hbl _⟩
          all_goals rw [HN.out]
          exact hK
        case measure => simp [intOf]; omega
    · have hkn : i = ns := by omega
      subst hkn
      clear hB
      go_wp2_with fail
      exact hexit _ _ _ _ _ _ _ _ _ _ _ _ _ _ _ _ _ _ _ _ _ _ _ _ _ _ _ _ _ _ _ _ _ _ _ _ _ _ _ _ _ _ _ _ _ _ _ _ _ _ _ _ _ _ _ _ _ _ _ _ _ _ _ _ _ _ hK hbl
end Go.Proofs.Qxb6619286a
