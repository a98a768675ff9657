import Derived.Test.Qxb6619286aLoops
namespace Go.Proofs.Qxb6619286a
open Go.RowKit

theorem eqK_at {k : ByteArray × ByteArray} {p' c' : ByteArray} {x y : Bool} (h1 : (k.1.toList == p'.toList) = x) (h2 : (k.2.toList == c'.toList) = y) : eqK k (p', c') = (x && y) := by
  unfold eqK; rw [h1, h2]
theorem eqK_at1 {k : ByteArray × ByteArray} {p' c' : ByteArray} (h1 : (k.1.toList == p'.toList) = false) : eqK k (p', c') = false := by
  unfold eqK; rw [h1]; rfl

set_option maxRecDepth 100000 in
set_option maxHeartbeats 4000000 in
theorem loop6 {x0 x1 x2 x3 x6 x7 x8 x9 x10 x11 x12 x13 x14 x15 x16 x17 x18 x19 x20 x21 x24 x25 x26 x27 x28 x32 x33 x34 x35 x36 x37 x38 x39 x40 x41 x42 x43 x44 x45 x46 x47 x48 x49 x50 x51 x52 x53 x54 x55 x56 x57 x58 x59 x60 x61 x62 x63 x64 x65 x66 x67 x68 x69 x70 x71 x72 x73 x74 x75 x76 x77 x78 x79 x80 x81 x82 x83 x84 x85 x86 x87 x88 x89 x90 x91 x92 x93 x94 x95 x96 x97 x98 x99 x100 x101 x102 x103 x104 x105 x106 x107 x108 x109 x110 x111 x112 x113 x114 x115 x116 x117 x118 x119 x120 x121 x122 x123 x124 x125 x126 x127 x128 x129 x130 x131 x132 x133 x134 x135 x136 x137 x138 x139 x140 x141 x142 x143 x144 x145 x146 x147 x148 x149 x150 x151 x152 x153 x154 x155 x156 x157 x158 x159 x160 x161 x162 x163 x164 x165 x166 x167 x168 x169 x170 x171 x172 x173 x174 x175 x176 x177 x178 x179 x180 x181 x182 x183 x184 x185 x186 x187 x188 x189 x190 x191 x192 x193 x194 x195 x196 x197 x198 x199 x200 x201 x202 x203 x204 x205 x206 x207 x208 x209 x210 x211 x212 x213 x214 x215 x216 x217 x218 x219 x220 x221 x222 x223 x224 x225 x226 x227 x228 x229 x230 x231 x232 x233 x234 x235 x236 x237 x238 x239 x240 x241 x242 x243 x244 x245 x246 x247 x248 x249 x250 x251 x252 x253 x254 x255 x256 x257 x258 x259 x260 x261 x262 x263 x264 x265 x266 x267 x268 x269 x270 x271 x272 x273 x274 x275 x276 x277 x278 x279 x280 x281 x282 x283 x284 x285 x286 x287 x288 x289 x290 x291 x292 x293 x294 x295 x296 x297 x298 x299 x300 x301 x302 x303 x304 x305 x306 x307 x308 x309 x310 x311 x312 x313 x314 x315 x316 x317 x318 x319 x320 x321 x322 x323 x324 x325 x326 x327 x328 x329 x330 x331 x332 x333 x334 x335 x336 x337 x338 x339 x340 x341 x342 x343 x344 x345 x346 x347 x348 x349 x350 x351 x352 x353 x354 x355 x356 x357 x358 x359 x360 x361 x362 x363 x364 x365 x366 x367 x368 x369 x370 x371 x372 x373 x374 x375 x376 x377 x378 x379 x380 x381 x382 x383 x384 x385 x386 x387 x388 x389 x390 x391 x392 x393 x394 x395 x396 x397 x398 x399 x400 x401 x402 x403 x404 x405 x406 x407 x408 x409 x410 x411 x412 x413 x414 x415 x416 x417 x418 x419 x420 x421 x422 x423 x424 x425 x426 x427 x428 x429 x430 x431 x432 x433 x434 x435 x436 x437 x438 x439 x440 x441 x442 x443 x444 x445 x446 x447 x448 : Value} {Q0 : Exit → Act → World → Prop} {a4 a5 : Option Addr} {n4 c4 n5 c5 i H g1 g2 g3 g4 cap : Nat} {KL : List ((ByteArray × ByteArray) × Int × Int)} {f4 f5 : Nat → ByteArray} {w : World} {lb : Bool} (hlb : listed KL (f4 i, f5 i) = lb)
    (h4 : Row w a4 n4 (SV f4)) (h5 : Row w a5 n5 (SV f5)) (e4 : i < n4) (e5 : i < n5) (hi : i ≤ 4096) (hlen : KL.length ≤ 8192) (hK : KRel w H g1 g2 g3 g4 cap KL)
    (hexit : ∀ (u31 u295 u296 u297 u298 u299 u300 u301 u302 u303 u304 u305 u306 u307 u308 u309 u310 u311 u312 u313 u314 u315 u316 u317 u318 u319 u320 : Value) (q : Nat), Q0 (.exit 10) ⟨List.toArray (x0 :: x1 :: x2 :: x3 :: (.slice a4 n4 c4) :: (.slice a5 n5 c5) :: x6 :: x7 :: x8 :: x9 :: x10 :: x11 :: x12 :: x13 :: x14 :: x15 :: x16 :: x17 :: x18 :: x19 :: x20 :: x21 :: (.slice (some ⟨g1, 0, none⟩) KL.length cap) :: (.slice (some ⟨g2, 0, none⟩) KL.length cap) :: x24 :: x25 :: x26 :: x27 :: x28 :: (.int .i64 i) :: (.bool lb) :: u31 :: x32 :: x33 :: x34 :: x35 :: x36 :: x37 :: x38 :: x39 :: x40 :: x41 :: x42 :: x43 :: x44 :: x45 :: x46 :: x47 :: x48 :: x49 :: x50 :: x51 :: x52 :: x53 :: x54 :: x55 :: x56 :: x57 :: x58 :: x59 :: x60 :: x61 :: x62 :: x63 :: x64 :: x65 :: x66 :: x67 :: x68 :: x69 :: x70 :: x71 :: x72 :: x73 :: x74 :: x75 :: x76 :: x77 :: x78 :: x79 :: x80 :: x81 :: x82 :: x83 :: x84 :: x85 :: x86 :: x87 :: x88 :: x89 :: x90 :: x91 :: x92 :: x93 :: x94 :: x95 :: x96 :: x97 :: x98 :: x99 :: x100 :: x101 :: x102 :: x103 :: x104 :: x105 :: x106 :: x107 :: x108 :: x109 :: x110 :: x111 :: x112 :: x113 :: x114 :: x115 :: x116 :: x117 :: x118 :: x119 :: x120 :: x121 :: x122 :: x123 :: x124 :: x125 :: x126 :: x127 :: x128 :: x129 :: x130 :: x131 :: x132 :: x133 :: x134 :: x135 :: x136 :: x137 :: x138 :: x139 :: x140 :: x141 :: x142 :: x143 :: x144 :: x145 :: x146 :: x147 :: x148 :: x149 :: x150 :: x151 :: x152 :: x153 :: x154 :: x155 :: x156 :: x157 :: x158 :: x159 :: x160 :: x161 :: x162 :: x163 :: x164 :: x165 :: x166 :: x167 :: x168 :: x169 :: x170 :: x171 :: x172 :: x173 :: x174 :: x175 :: x176 :: x177 :: x178 :: x179 :: x180 :: x181 :: x182 :: x183 :: x184 :: x185 :: x186 :: x187 :: x188 :: x189 :: x190 :: x191 :: x192 :: x193 :: x194 :: x195 :: x196 :: x197 :: x198 :: x199 :: x200 :: x201 :: x202 :: x203 :: x204 :: x205 :: x206 :: x207 :: x208 :: x209 :: x210 :: x211 :: x212 :: x213 :: x214 :: x215 :: x216 :: x217 :: x218 :: x219 :: x220 :: x221 :: x222 :: x223 :: x224 :: x225 :: x226 :: x227 :: x228 :: x229 :: x230 :: x231 :: x232 :: x233 :: x234 :: x235 :: x236 :: x237 :: x238 :: x239 :: x240 :: x241 :: x242 :: x243 :: x244 :: x245 :: x246 :: x247 :: x248 :: x249 :: x250 :: x251 :: x252 :: x253 :: x254 :: x255 :: x256 :: x257 :: x258 :: x259 :: x260 :: x261 :: x262 :: x263 :: x264 :: x265 :: x266 :: x267 :: x268 :: x269 :: x270 :: x271 :: x272 :: x273 :: x274 :: x275 :: x276 :: x277 :: x278 :: x279 :: x280 :: x281 :: x282 :: x283 :: x284 :: x285 :: x286 :: x287 :: x288 :: x289 :: x290 :: x291 :: x292 :: x293 :: x294 :: u295 :: u296 :: u297 :: u298 :: u299 :: u300 :: u301 :: u302 :: u303 :: u304 :: u305 :: u306 :: u307 :: u308 :: u309 :: u310 :: u311 :: u312 :: u313 :: u314 :: u315 :: u316 :: u317 :: u318 :: u319 :: u320 :: x321 :: x322 :: x323 :: x324 :: x325 :: x326 :: x327 :: x328 :: x329 :: x330 :: x331 :: x332 :: x333 :: x334 :: x335 :: x336 :: x337 :: x338 :: x339 :: x340 :: x341 :: x342 :: x343 :: x344 :: x345 :: x346 :: x347 :: x348 :: x349 :: x350 :: x351 :: x352 :: x353 :: x354 :: x355 :: x356 :: x357 :: x358 :: x359 :: x360 :: x361 :: x362 :: x363 :: x364 :: x365 :: x366 :: x367 :: x368 :: x369 :: x370 :: x371 :: x372 :: x373 :: x374 :: x375 :: x376 :: x377 :: x378 :: x379 :: x380 :: x381 :: x382 :: x383 :: x384 :: x385 :: x386 :: x387 :: x388 :: x389 :: x390 :: x391 :: x392 :: x393 :: x394 :: x395 :: x396 :: x397 :: x398 :: x399 :: x400 :: x401 :: x402 :: x403 :: x404 :: x405 :: x406 :: x407 :: x408 :: x409 :: x410 :: x411 :: x412 :: x413 :: x414 :: x415 :: x416 :: x417 :: x418 :: x419 :: x420 :: x421 :: x422 :: x423 :: x424 :: x425 :: x426 :: x427 :: x428 :: x429 :: x430 :: x431 :: x432 :: x433 :: x434 :: x435 :: x436 :: x437 :: x438 :: x439 :: x440 :: x441 :: x442 :: x443 :: x444 :: x445 :: x446 :: x447 :: x448 :: []), []⟩ (w.drewN q)) :
    Code.wp Try.prog (Code.loop (loopOf Try.f3 5)) Q0 ⟨List.toArray (x0 :: x1 :: x2 :: x3 :: (.slice a4 n4 c4) :: (.slice a5 n5 c5) :: x6 :: x7 :: x8 :: x9 :: x10 :: x11 :: x12 :: x13 :: x14 :: x15 :: x16 :: x17 :: x18 :: x19 :: x20 :: x21 :: (.slice (some ⟨g1, 0, none⟩) KL.length cap) :: (.slice (some ⟨g2, 0, none⟩) KL.length cap) :: x24 :: x25 :: x26 :: x27 :: x28 :: (.int .i64 i) :: (.bool false) :: (.int .i64 0) :: x32 :: x33 :: x34 :: x35 :: x36 :: x37 :: x38 :: x39 :: x40 :: x41 :: x42 :: x43 :: x44 :: x45 :: x46 :: x47 :: x48 :: x49 :: x50 :: x51 :: x52 :: x53 :: x54 :: x55 :: x56 :: x57 :: x58 :: x59 :: x60 :: x61 :: x62 :: x63 :: x64 :: x65 :: x66 :: x67 :: x68 :: x69 :: x70 :: x71 :: x72 :: x73 :: x74 :: x75 :: x76 :: x77 :: x78 :: x79 :: x80 :: x81 :: x82 :: x83 :: x84 :: x85 :: x86 :: x87 :: x88 :: x89 :: x90 :: x91 :: x92 :: x93 :: x94 :: x95 :: x96 :: x97 :: x98 :: x99 :: x100 :: x101 :: x102 :: x103 :: x104 :: x105 :: x106 :: x107 :: x108 :: x109 :: x110 :: x111 :: x112 :: x113 :: x114 :: x115 :: x116 :: x117 :: x118 :: x119 :: x120 :: x121 :: x122 :: x123 :: x124 :: x125 :: x126 :: x127 :: x128 :: x129 :: x130 :: x131 :: x132 :: x133 :: x134 :: x135 :: x136 :: x137 :: x138 :: x139 :: x140 :: x141 :: x142 :: x143 :: x144 :: x145 :: x146 :: x147 :: x148 :: x149 :: x150 :: x151 :: x152 :: x153 :: x154 :: x155 :: x156 :: x157 :: x158 :: x159 :: x160 :: x161 :: x162 :: x163 :: x164 :: x165 :: x166 :: x167 :: x168 :: x169 :: x170 :: x171 :: x172 :: x173 :: x174 :: x175 :: x176 :: x177 :: x178 :: x179 :: x180 :: x181 :: x182 :: x183 :: x184 :: x185 :: x186 :: x187 :: x188 :: x189 :: x190 :: x191 :: x192 :: x193 :: x194 :: x195 :: x196 :: x197 :: x198 :: x199 :: x200 :: x201 :: x202 :: x203 :: x204 :: x205 :: x206 :: x207 :: x208 :: x209 :: x210 :: x211 :: x212 :: x213 :: x214 :: x215 :: x216 :: x217 :: x218 :: x219 :: x220 :: x221 :: x222 :: x223 :: x224 :: x225 :: x226 :: x227 :: x228 :: x229 :: x230 :: x231 :: x232 :: x233 :: x234 :: x235 :: x236 :: x237 :: x238 :: x239 :: x240 :: x241 :: x242 :: x243 :: x244 :: x245 :: x246 :: x247 :: x248 :: x249 :: x250 :: x251 :: x252 :: x253 :: x254 :: x255 :: x256 :: x257 :: x258 :: x259 :: x260 :: x261 :: x262 :: x263 :: x264 :: x265 :: x266 :: x267 :: x268 :: x269 :: x270 :: x271 :: x272 :: x273 :: x274 :: x275 :: x276 :: x277 :: x278 :: x279 :: x280 :: x281 :: x282 :: x283 :: x284 :: x285 :: x286 :: x287 :: x288 :: x289 :: x290 :: x291 :: x292 :: x293 :: x294 :: x295 :: x296 :: x297 :: x298 :: x299 :: x300 :: x301 :: x302 :: x303 :: x304 :: x305 :: x306 :: x307 :: x308 :: x309 :: x310 :: x311 :: x312 :: x313 :: x314 :: x315 :: x316 :: x317 :: x318 :: x319 :: x320 :: x321 :: x322 :: x323 :: x324 :: x325 :: x326 :: x327 :: x328 :: x329 :: x330 :: x331 :: x332 :: x333 :: x334 :: x335 :: x336 :: x337 :: x338 :: x339 :: x340 :: x341 :: x342 :: x343 :: x344 :: x345 :: x346 :: x347 :: x348 :: x349 :: x350 :: x351 :: x352 :: x353 :: x354 :: x355 :: x356 :: x357 :: x358 :: x359 :: x360 :: x361 :: x362 :: x363 :: x364 :: x365 :: x366 :: x367 :: x368 :: x369 :: x370 :: x371 :: x372 :: x373 :: x374 :: x375 :: x376 :: x377 :: x378 :: x379 :: x380 :: x381 :: x382 :: x383 :: x384 :: x385 :: x386 :: x387 :: x388 :: x389 :: x390 :: x391 :: x392 :: x393 :: x394 :: x395 :: x396 :: x397 :: x398 :: x399 :: x400 :: x401 :: x402 :: x403 :: x404 :: x405 :: x406 :: x407 :: x408 :: x409 :: x410 :: x411 :: x412 :: x413 :: x414 :: x415 :: x416 :: x417 :: x418 :: x419 :: x420 :: x421 :: x422 :: x423 :: x424 :: x425 :: x426 :: x427 :: x428 :: x429 :: x430 :: x431 :: x432 :: x433 :: x434 :: x435 :: x436 :: x437 :: x438 :: x439 :: x440 :: x441 :: x442 :: x443 :: x444 :: x445 :: x446 :: x447 :: x448 :: []), []⟩ w := by
  subst hlb
  obtain ⟨b4, o4, rfl, r4⟩ := h4 (by omega)
  obtain ⟨b5, o5, rfl, r5⟩ := h5 (by omega)
  have s4 : w.cell? ⟨b4, o4 + i, none⟩ = some (.string (f4 i)) := r4 i (by omega)
  have s5 : w.cell? ⟨b5, o5 + i, none⟩ = some (.string (f5 i)) := r5 i (by omega)
  have m4 : (i : Int) < n4 := by omega
  have m5 : (i : Int) < n5 := by omega
  clear r4 r5 h4 h5
  conv => arg 2; arg 1; whnf
  go_loopw [30, 31] (fun v t wr => ∃ k q : Nat, k ≤ KL.length ∧ t = .int .i64 k ∧ v = .bool false ∧ wr = w.drewN q ∧ ∀ l, l < k → eqK (kAt KL l).1 (f4 i, f5 i) = false) (fun _ t _ => KL.length - (intOf t).toNat)
  case atStart => exact ⟨0, 0, Nat.zero_le _, rfl, rfl, rfl, fun l hl => absurd hl (Nat.not_lt_zero _)⟩
  case round =>
    obtain ⟨k, q, hk, rfl, rfl, rfl, hall⟩ := hrel
    have HA : Hid (∀ l, l < k → eqK (kAt KL l).1 (f4 i, f5 i) = false) := hall
    clear hall
    by_cases hlt : k < KL.length
    · obtain ⟨t1, t2, _, _⟩ := hK.cells hlt
      have mk : (k : Int) < KL.length := by omega
      clear hK
      by_cases g1e : ((kAt KL k).1.1.toList == (f4 i).toList) = true
      · by_cases g2e : ((kAt KL k).1.2.toList == (f5 i).toList) = true
        · have hlat : listed KL (f4 i, f5 i) = true := listed_yes hlt (by rw [eqK_at g1e g2e]; rfl)
          go_wp2_with fail
          go_quiet (fail)
          go_wp2_with fail
          rw [hlat] at hexit
          rw [World.drewN_drewN]
          exact hexit _ _ _ _ _ _ _ _ _ _ _ _ _ _ _ _ _ _ _ _ _ _ _ _ _ _ _ (q + nq)
        · rw [Bool.not_eq_true] at g2e
          have HN : Hid (eqK (kAt KL k).1 (f4 i, f5 i) = false) := by show _ = _; rw [eqK_at g1e g2e]; rfl
          clear hexit
          go_wp2_with fail
          go_quiet (fail)
          go_wp2_with fail
          go_roundw
          case rel => exact ⟨k + 1, q + nq, by omega, by go_num, rfl, rfl, fun l hl => by
            by_cases hlk : l = k
            · subst hlk; exact HN.out
            · exact HA.out l (by omega)⟩
          case measure => simp [intOf]; omega
      · rw [Bool.not_eq_true] at g1e
        have HN : Hid (eqK (kAt KL k).1 (f4 i, f5 i) = false) := eqK_at1 g1e
        clear hexit
        go_wp2_with fail
        go_quiet (fail)
        go_wp2_with fail
        go_roundw
        case rel => exact ⟨k + 1, q + nq, by omega, by go_num, rfl, rfl, fun l hl => by
          by_cases hlk : l = k
          · subst hlk; exact HN.out
          · exact HA.out l (by omega)⟩
        case measure => simp [intOf]; omega
    · have hlat : listed KL (f4 i, f5 i) = false := listed_no fun l hl => HA.out l (by omega)
      go_wp2_with fail
      rw [hlat] at hexit
      exact hexit _ _ _ _ _ _ _ _ _ _ _ _ _ _ _ _ _ _ _ _ _ _ _ _ _ _ _ q
end Go.Proofs.Qxb6619286a
