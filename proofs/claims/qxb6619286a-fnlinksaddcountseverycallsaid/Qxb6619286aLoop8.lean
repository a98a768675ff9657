import Derived.Test.Qxb6619286aLoops
namespace Go.Proofs.Qxb6619286a
open Go.RowKit

/-- What the law counts for a key over the first i calls. -/
def cntC (b : Int) (key : ByteArray × ByteArray) (f4 f5 : Nat → ByteArray) : Nat → Int
  | 0 => b
  | i + 1 => if joins (f4 i) (f5 i) = true ∧ eqK (f4 i, f5 i) key = true then wrap64 (cntC b key f4 f5 i + 1) else cntC b key f4 f5 i
def cntE (b : Int) (key : ByteArray × ByteArray) (f4 f5 : Nat → ByteArray) (b6 : Nat → Bool) : Nat → Int
  | 0 => b
  | i + 1 => if joins (f4 i) (f5 i) = true ∧ eqK (f4 i, f5 i) key = true then plus (b6 i) (cntE b key f4 f5 b6 i) else cntE b key f4 f5 b6 i
theorem eqK_to {k : ByteArray × ByteArray} {p c : ByteArray} {x y : Bool} (h1 : (p.toList == k.1.toList) = x) (h2 : (c.toList == k.2.toList) = y) : eqK (p, c) k = (x && y) := by
  unfold eqK; rw [h1, h2]
theorem eqK_to1 {k : ByteArray × ByteArray} {p c : ByteArray} (h1 : (p.toList == k.1.toList) = false) : eqK (p, c) k = false := by
  unfold eqK; rw [h1]; rfl

set_option maxRecDepth 100000 in
set_option maxHeartbeats 8000000 in
theorem loop8 {x0 x1 x2 x3 x7 x8 x9 x10 x11 x12 x13 x14 x15 x16 x17 x19 x20 x21 x24 x25 x26 x27 x28 x29 x30 x31 x36 x37 x38 x39 x40 x41 x42 x43 x44 x45 x46 x47 x48 x49 x50 x51 x52 x53 x54 x55 x56 x57 x58 x59 x60 x61 x62 x63 x64 x65 x66 x67 x68 x69 x70 x71 x72 x73 x74 x75 x76 x77 x78 x79 x80 x81 x82 x83 x84 x85 x86 x87 x88 x89 x90 x91 x92 x93 x94 x95 x96 x97 x98 x99 x100 x101 x102 x103 x104 x105 x106 x107 x108 x109 x110 x111 x112 x113 x114 x115 x116 x117 x118 x119 x120 x121 x122 x123 x124 x125 x126 x127 x128 x129 x130 x131 x132 x133 x134 x135 x136 x137 x138 x139 x140 x141 x142 x143 x144 x145 x146 x147 x148 x149 x150 x151 x152 x153 x154 x155 x156 x157 x158 x159 x160 x161 x162 x163 x164 x165 x166 x167 x168 x169 x170 x171 x172 x173 x174 x175 x176 x177 x178 x179 x180 x181 x182 x183 x184 x185 x186 x187 x188 x189 x190 x191 x192 x193 x194 x195 x196 x197 x198 x199 x200 x201 x202 x203 x204 x205 x206 x207 x208 x209 x210 x211 x212 x213 x214 x215 x216 x217 x218 x219 x220 x221 x222 x223 x224 x225 x226 x227 x228 x229 x230 x231 x232 x233 x234 x235 x236 x237 x238 x239 x240 x241 x242 x243 x244 x245 x246 x247 x248 x249 x250 x251 x252 x253 x254 x255 x256 x257 x258 x259 x260 x261 x262 x263 x264 x265 x266 x267 x268 x269 x270 x271 x272 x273 x274 x275 x276 x277 x278 x279 x280 x281 x282 x283 x284 x285 x286 x287 x288 x289 x290 x291 x292 x293 x294 x295 x296 x297 x298 x299 x300 x301 x302 x303 x304 x305 x306 x307 x308 x309 x310 x311 x312 x313 x314 x315 x316 x317 x318 x319 x320 x321 x322 x323 x324 x325 x326 x327 x328 x329 x330 x331 x332 x333 x334 x335 x336 x337 x338 x339 x340 x341 x342 x343 x344 x345 x346 x347 x348 x349 x350 x351 x352 x353 x354 x355 x356 x357 x358 x359 x360 x361 x362 x363 x364 x365 x366 x367 x368 x369 x370 x371 x372 x373 x374 x375 x376 x377 x378 x379 x380 x381 x382 x383 x384 x385 x386 x387 x388 x389 x390 x391 x392 x393 x394 x395 x396 x397 x398 x399 x400 x401 x402 x403 x404 x405 x406 x407 x408 x409 x410 x411 x412 x413 x414 x415 x416 x417 x418 x419 x420 x421 x422 x423 x424 x425 x426 x427 x428 x429 x430 x431 x432 x433 x434 x435 x436 x437 x438 x439 x440 x441 x442 x443 x444 x445 x446 x447 x448 : Value} {Q0 : Exit → Act → World → Prop} {a4 a5 a6 : Option Addr} {n4 c4 n5 c5 n6 c6 ns k H g1 g2 g3 g4 cap : Nat} {x y : Int} {KL : List ((ByteArray × ByteArray) × Int × Int)} {f4 f5 : Nat → ByteArray} {b6 : Nat → Bool} {w : World}
    (h4 : Row w a4 n4 (SV f4)) (h5 : Row w a5 n5 (SV f5)) (h6 : Row w a6 n6 (BV b6)) (hns : ns ≤ 4096) (e4 : ns ≤ n4) (e5 : ns ≤ n5) (e6 : ns ≤ n6) (hk : k < KL.length) (hK : KRel w H g1 g2 g3 g4 cap KL)
    (hexit : ∀ (u35 u361 u362 u363 u364 u365 u366 u367 u368 u369 u370 u371 u372 u373 u374 u375 u376 u377 u378 u379 u380 u381 u382 u383 u384 u385 u386 u387 u388 u389 u390 u391 u392 u393 u394 u395 u396 u397 u398 u399 u400 u401 u402 u403 u404 : Value) (q : Nat), Q0 (.exit 14) ⟨List.toArray (x0 :: x1 :: x2 :: x3 :: (.slice a4 n4 c4) :: (.slice a5 n5 c5) :: (.slice a6 n6 c6) :: x7 :: x8 :: x9 :: x10 :: x11 :: x12 :: x13 :: x14 :: x15 :: x16 :: x17 :: (.int .i64 ns) :: x19 :: x20 :: x21 :: (.slice (some ⟨g1, 0, none⟩) KL.length cap) :: (.slice (some ⟨g2, 0, none⟩) KL.length cap) :: x24 :: x25 :: x26 :: x27 :: x28 :: x29 :: x30 :: x31 :: (.int .i64 k) :: (.int .i64 (cntC x (kAt KL k).1 f4 f5 ns)) :: (.int .i64 (cntE y (kAt KL k).1 f4 f5 b6 ns)) :: u35 :: x36 :: x37 :: x38 :: x39 :: x40 :: x41 :: x42 :: x43 :: x44 :: x45 :: x46 :: x47 :: x48 :: x49 :: x50 :: x51 :: x52 :: x53 :: x54 :: x55 :: x56 :: x57 :: x58 :: x59 :: x60 :: x61 :: x62 :: x63 :: x64 :: x65 :: x66 :: x67 :: x68 :: x69 :: x70 :: x71 :: x72 :: x73 :: x74 :: x75 :: x76 :: x77 :: x78 :: x79 :: x80 :: x81 :: x82 :: x83 :: x84 :: x85 :: x86 :: x87 :: x88 :: x89 :: x90 :: x91 :: x92 :: x93 :: x94 :: x95 :: x96 :: x97 :: x98 :: x99 :: x100 :: x101 :: x102 :: x103 :: x104 :: x105 :: x106 :: x107 :: x108 :: x109 :: x110 :: x111 :: x112 :: x113 :: x114 :: x115 :: x116 :: x117 :: x118 :: x119 :: x120 :: x121 :: x122 :: x123 :: x124 :: x125 :: x126 :: x127 :: x128 :: x129 :: x130 :: x131 :: x132 :: x133 :: x134 :: x135 :: x136 :: x137 :: x138 :: x139 :: x140 :: x141 :: x142 :: x143 :: x144 :: x145 :: x146 :: x147 :: x148 :: x149 :: x150 :: x151 :: x152 :: x153 :: x154 :: x155 :: x156 :: x157 :: x158 :: x159 :: x160 :: x161 :: x162 :: x163 :: x164 :: x165 :: x166 :: x167 :: x168 :: x169 :: x170 :: x171 :: x172 :: x173 :: x174 :: x175 :: x176 :: x177 :: x178 :: x179 :: x180 :: x181 :: x182 :: x183 :: x184 :: x185 :: x186 :: x187 :: x188 :: x189 :: x190 :: x191 :: x192 :: x193 :: x194 :: x195 :: x196 :: x197 :: x198 :: x199 :: x200 :: x201 :: x202 :: x203 :: x204 :: x205 :: x206 :: x207 :: x208 :: x209 :: x210 :: x211 :: x212 :: x213 :: x214 :: x215 :: x216 :: x217 :: x218 :: x219 :: x220 :: x221 :: x222 :: x223 :: x224 :: x225 :: x226 :: x227 :: x228 :: x229 :: x230 :: x231 :: x232 :: x233 :: x234 :: x235 :: x236 :: x237 :: x238 :: x239 :: x240 :: x241 :: x242 :: x243 :: x244 :: x245 :: x246 :: x247 :: x248 :: x249 :: x250 :: x251 :: x252 :: x253 :: x254 :: x255 :: x256 :: x257 :: x258 :: x259 :: x260 :: x261 :: x262 :: x263 :: x264 :: x265 :: x266 :: x267 :: x268 :: x269 :: x270 :: x271 :: x272 :: x273 :: x274 :: x275 :: x276 :: x277 :: x278 :: x279 :: x280 :: x281 :: x282 :: x283 :: x284 :: x285 :: x286 :: x287 :: x288 :: x289 :: x290 :: x291 :: x292 :: x293 :: x294 :: x295 :: x296 :: x297 :: x298 :: x299 :: x300 :: x301 :: x302 :: x303 :: x304 :: x305 :: x306 :: x307 :: x308 :: x309 :: x310 :: x311 :: x312 :: x313 :: x314 :: x315 :: x316 :: x317 :: x318 :: x319 :: x320 :: x321 :: x322 :: x323 :: x324 :: x325 :: x326 :: x327 :: x328 :: x329 :: x330 :: x331 :: x332 :: x333 :: x334 :: x335 :: x336 :: x337 :: x338 :: x339 :: x340 :: x341 :: x342 :: x343 :: x344 :: x345 :: x346 :: x347 :: x348 :: x349 :: x350 :: x351 :: x352 :: x353 :: x354 :: x355 :: x356 :: x357 :: x358 :: x359 :: x360 :: u361 :: u362 :: u363 :: u364 :: u365 :: u366 :: u367 :: u368 :: u369 :: u370 :: u371 :: u372 :: u373 :: u374 :: u375 :: u376 :: u377 :: u378 :: u379 :: u380 :: u381 :: u382 :: u383 :: u384 :: u385 :: u386 :: u387 :: u388 :: u389 :: u390 :: u391 :: u392 :: u393 :: u394 :: u395 :: u396 :: u397 :: u398 :: u399 :: u400 :: u401 :: u402 :: u403 :: u404 :: x405 :: x406 :: x407 :: x408 :: x409 :: x410 :: x411 :: x412 :: x413 :: x414 :: x415 :: x416 :: x417 :: x418 :: x419 :: x420 :: x421 :: x422 :: x423 :: x424 :: x425 :: x426 :: x427 :: x428 :: x429 :: x430 :: x431 :: x432 :: x433 :: x434 :: x435 :: x436 :: x437 :: x438 :: x439 :: x440 :: x441 :: x442 :: x443 :: x444 :: x445 :: x446 :: x447 :: x448 :: []), []⟩ (w.drewN q)) :
    Code.wp Try.prog (Code.loop (loopOf Try.f3 7)) Q0 ⟨List.toArray (x0 :: x1 :: x2 :: x3 :: (.slice a4 n4 c4) :: (.slice a5 n5 c5) :: (.slice a6 n6 c6) :: x7 :: x8 :: x9 :: x10 :: x11 :: x12 :: x13 :: x14 :: x15 :: x16 :: x17 :: (.int .i64 ns) :: x19 :: x20 :: x21 :: (.slice (some ⟨g1, 0, none⟩) KL.length cap) :: (.slice (some ⟨g2, 0, none⟩) KL.length cap) :: x24 :: x25 :: x26 :: x27 :: x28 :: x29 :: x30 :: x31 :: (.int .i64 k) :: (.int .i64 x) :: (.int .i64 y) :: (.int .i64 0) :: x36 :: x37 :: x38 :: x39 :: x40 :: x41 :: x42 :: x43 :: x44 :: x45 :: x46 :: x47 :: x48 :: x49 :: x50 :: x51 :: x52 :: x53 :: x54 :: x55 :: x56 :: x57 :: x58 :: x59 :: x60 :: x61 :: x62 :: x63 :: x64 :: x65 :: x66 :: x67 :: x68 :: x69 :: x70 :: x71 :: x72 :: x73 :: x74 :: x75 :: x76 :: x77 :: x78 :: x79 :: x80 :: x81 :: x82 :: x83 :: x84 :: x85 :: x86 :: x87 :: x88 :: x89 :: x90 :: x91 :: x92 :: x93 :: x94 :: x95 :: x96 :: x97 :: x98 :: x99 :: x100 :: x101 :: x102 :: x103 :: x104 :: x105 :: x106 :: x107 :: x108 :: x109 :: x110 :: x111 :: x112 :: x113 :: x114 :: x115 :: x116 :: x117 :: x118 :: x119 :: x120 :: x121 :: x122 :: x123 :: x124 :: x125 :: x126 :: x127 :: x128 :: x129 :: x130 :: x131 :: x132 :: x133 :: x134 :: x135 :: x136 :: x137 :: x138 :: x139 :: x140 :: x141 :: x142 :: x143 :: x144 :: x145 :: x146 :: x147 :: x148 :: x149 :: x150 :: x151 :: x152 :: x153 :: x154 :: x155 :: x156 :: x157 :: x158 :: x159 :: x160 :: x161 :: x162 :: x163 :: x164 :: x165 :: x166 :: x167 :: x168 :: x169 :: x170 :: x171 :: x172 :: x173 :: x174 :: x175 :: x176 :: x177 :: x178 :: x179 :: x180 :: x181 :: x182 :: x183 :: x184 :: x185 :: x186 :: x187 :: x188 :: x189 :: x190 :: x191 :: x192 :: x193 :: x194 :: x195 :: x196 :: x197 :: x198 :: x199 :: x200 :: x201 :: x202 :: x203 :: x204 :: x205 :: x206 :: x207 :: x208 :: x209 :: x210 :: x211 :: x212 :: x213 :: x214 :: x215 :: x216 :: x217 :: x218 :: x219 :: x220 :: x221 :: x222 :: x223 :: x224 :: x225 :: x226 :: x227 :: x228 :: x229 :: x230 :: x231 :: x232 :: x233 :: x234 :: x235 :: x236 :: x237 :: x238 :: x239 :: x240 :: x241 :: x242 :: x243 :: x244 :: x245 :: x246 :: x247 :: x248 :: x249 :: x250 :: x251 :: x252 :: x253 :: x254 :: x255 :: x256 :: x257 :: x258 :: x259 :: x260 :: x261 :: x262 :: x263 :: x264 :: x265 :: x266 :: x267 :: x268 :: x269 :: x270 :: x271 :: x272 :: x273 :: x274 :: x275 :: x276 :: x277 :: x278 :: x279 :: x280 :: x281 :: x282 :: x283 :: x284 :: x285 :: x286 :: x287 :: x288 :: x289 :: x290 :: x291 :: x292 :: x293 :: x294 :: x295 :: x296 :: x297 :: x298 :: x299 :: x300 :: x301 :: x302 :: x303 :: x304 :: x305 :: x306 :: x307 :: x308 :: x309 :: x310 :: x311 :: x312 :: x313 :: x314 :: x315 :: x316 :: x317 :: x318 :: x319 :: x320 :: x321 :: x322 :: x323 :: x324 :: x325 :: x326 :: x327 :: x328 :: x329 :: x330 :: x331 :: x332 :: x333 :: x334 :: x335 :: x336 :: x337 :: x338 :: x339 :: x340 :: x341 :: x342 :: x343 :: x344 :: x345 :: x346 :: x347 :: x348 :: x349 :: x350 :: x351 :: x352 :: x353 :: x354 :: x355 :: x356 :: x357 :: x358 :: x359 :: x360 :: x361 :: x362 :: x363 :: x364 :: x365 :: x366 :: x367 :: x368 :: x369 :: x370 :: x371 :: x372 :: x373 :: x374 :: x375 :: x376 :: x377 :: x378 :: x379 :: x380 :: x381 :: x382 :: x383 :: x384 :: x385 :: x386 :: x387 :: x388 :: x389 :: x390 :: x391 :: x392 :: x393 :: x394 :: x395 :: x396 :: x397 :: x398 :: x399 :: x400 :: x401 :: x402 :: x403 :: x404 :: x405 :: x406 :: x407 :: x408 :: x409 :: x410 :: x411 :: x412 :: x413 :: x414 :: x415 :: x416 :: x417 :: x418 :: x419 :: x420 :: x421 :: x422 :: x423 :: x424 :: x425 :: x426 :: x427 :: x428 :: x429 :: x430 :: x431 :: x432 :: x433 :: x434 :: x435 :: x436 :: x437 :: x438 :: x439 :: x440 :: x441 :: x442 :: x443 :: x444 :: x445 :: x446 :: x447 :: x448 :: []), []⟩ w := by
  obtain ⟨t1, t2, _, _⟩ := hK.cells hk
  have mk : (k : Int) < KL.length := by omega
  clear hK
  conv => arg 2; arg 1; whnf
  go_loopw [33, 34, 35] (fun v u t wr => ∃ i q : Nat, i ≤ ns ∧ t = .int .i64 i ∧ v = .int .i64 (cntC x (kAt KL k).1 f4 f5 i) ∧ u = .int .i64 (cntE y (kAt KL k).1 f4 f5 b6 i) ∧ wr = w.drewN q) (fun _ _ t _ => ns - (intOf t).toNat)
  case atStart => exact ⟨0, 0, Nat.zero_le _, rfl, rfl, rfl, rfl⟩
  case round =>
    obtain ⟨i, q, hi, rfl, rfl, rfl, rfl⟩ := hrel
    by_cases hlt : i < ns
    · obtain ⟨b4, o4, rfl, r4⟩ := h4 (by omega)
      obtain ⟨b5, o5, rfl, r5⟩ := h5 (by omega)
      obtain ⟨bb, ob, rfl, r6⟩ := h6 (by omega)
      have s4 : (w.drewN q).cell? ⟨b4, o4 + i, none⟩ = some (.string (f4 i)) := r4 i (by omega)
      have s5 : (w.drewN q).cell? ⟨b5, o5 + i, none⟩ = some (.string (f5 i)) := r5 i (by omega)
      have s6 : (w.drewN q).cell? ⟨bb, ob + i, none⟩ = some (.bool (b6 i)) := r6 i (by omega)
      have m4 : (i : Int) < n4 := by omega
      have m5 : (i : Int) < n5 := by omega
      have m6 : (i : Int) < n6 := by omega
      have y1 : (w.drewN q).cell? ⟨g1, k, none⟩ = some (.string (kAt KL k).1.1) := t1
      have y2 : (w.drewN q).cell? ⟨g2, k, none⟩ = some (.string (kAt KL k).1.2) := t2
      clear r4 r5 r6 h4 h5 h6 hexit t1 t2
      obtain ⟨W, hW⟩ : ∃ W, W = w.drewN q := ⟨_, rfl⟩
      rw [← hW] at s4 s5 s6 y1 y2 ⊢
      have HW : Hid (W = w.drewN q) := hW
      clear hW
      by_cases hj : joins (f4 i) (f5 i) = true
      · by_cases g1e : ((f4 i).toList == (kAt KL k).1.1.toList) = true
        · by_cases g2e : ((f5 i).toList == (kAt KL k).1.2.toList) = true
          · have HY : Hid (joins (f4 i) (f5 i) = true ∧ eqK (f4 i, f5 i) (kAt KL k).1 = true) := ⟨hj, by rw [eqK_to g1e g2e]; rfl⟩
            by_cases hb : b6 i = true
            · rw [hb] at s6
              go_wp2_with fail
              go_quiet ((go_at_call 10; exact Calls.quiet_of_same (joins_is hj _)))
              go_wp2_with fail
              go_roundw
              case rel => exact ⟨i + 1, q + nq, by omega, by go_num, by rw [cntC, if_pos HY.out], by rw [cntE, if_pos HY.out, hb]; rfl, by rw [HW.out, World.drewN_drewN]⟩
              case measure => simp [intOf]; omega
            · rw [Bool.not_eq_true] at hb
              rw [hb] at s6
              go_wp2_with fail
              go_quiet ((go_at_call 10; exact Calls.quiet_of_same (joins_is hj _)))
              go_wp2_with fail
              go_roundw
              case rel => exact ⟨i + 1, q + nq, by omega, by go_num, by rw [cntC, if_pos HY.out], by rw [cntE, if_pos HY.out, hb]; rfl, by rw [HW.out, World.drewN_drewN]⟩
              case measure => simp [intOf]; omega
          · rw [Bool.not_eq_true] at g2e
            have HN : Hid (¬ (joins (f4 i) (f5 i) = true ∧ eqK (f4 i, f5 i) (kAt KL k).1 = true)) := by show ¬ _; rw [eqK_to g1e g2e]; simp
            go_wp2_with fail
            go_quiet ((go_at_call 10; exact Calls.quiet_of_same (joins_is hj _)))
            go_wp2_with fail
            go_roundw
            case rel => exact ⟨i + 1, q + nq, by omega, by go_num, by rw [cntC, if_neg HN.out], by rw [cntE, if_neg HN.out], by rw [HW.out, World.drewN_drewN]⟩
            case measure => simp [intOf]; omega
        · rw [Bool.not_eq_true] at g1e
          have HN : Hid (¬ (joins (f4 i) (f5 i) = true ∧ eqK (f4 i, f5 i) (kAt KL k).1 = true)) := by show ¬ _; rw [eqK_to1 g1e]; simp
          go_wp2_with fail
          go_quiet ((go_at_call 10; exact Calls.quiet_of_same (joins_is hj _)))
          go_wp2_with fail
          go_roundw
          case rel => exact ⟨i + 1, q + nq, by omega, by go_num, by rw [cntC, if_neg HN.out], by rw [cntE, if_neg HN.out], by rw [HW.out, World.drewN_drewN]⟩
          case measure => simp [intOf]; omega
      · rw [Bool.not_eq_true] at hj
        have HN : Hid (¬ (joins (f4 i) (f5 i) = true ∧ eqK (f4 i, f5 i) (kAt KL k).1 = true)) := by show ¬ _; rw [hj]; simp
        go_wp2_with fail
        go_quiet ((go_at_call 10; exact Calls.quiet_of_same (joins_is hj _)))
        go_wp2_with fail
        go_roundw
        case rel => exact ⟨i + 1, q + nq, by omega, by go_num, by rw [cntC, if_neg HN.out], by rw [cntE, if_neg HN.out], by rw [HW.out, World.drewN_drewN]⟩
        case measure => simp [intOf]; omega
    · have hkn : i = ns := by omega
      subst hkn
      go_wp2_with fail
      exact hexit _ _ _ _ _ _ _ _ _ _ _ _ _ _ _ _ _ _ _ _ _ _ _ _ _ _ _ _ _ _ _ _ _ _ _ _ _ _ _ _ _ _ _ _ _ q
end Go.Proofs.Qxb6619286a
