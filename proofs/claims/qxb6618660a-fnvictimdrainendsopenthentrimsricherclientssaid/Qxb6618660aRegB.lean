/- The region of law B's inner loop that asks 'zstands': in three ways. -/
import Derived.Test.Qxb6618660aQuiet
import Derived.BigQuiet
import Derived.Deep.RegionHeld3
namespace Go.Proofs.Qxb6618660a
open Go.RowKit Go.MuLone Go.Maps Go.WideMaps
set_option linter.unusedVariables false
set_option linter.unusedSimpArgs false

/-- What the region's reads find. -/
def Reads (w5 : World) (b o wb i j : Nat) (cc : Int) (H : Nat → VH) : Prop := w5.cell? ⟨b, o + j * 5, none⟩ = some (.string (H j).client) ∧ w5.cell? ⟨b, o + i * 5, none⟩ = some (.string (H i).client) ∧ w5.cell? ⟨wb, j, none⟩ = some (.bool false) ∧ w5.cell? ⟨b, o + j * 5 + 1, none⟩ = some (.int .i64 cc) ∧ w5.cell? ⟨b, o + j * 5 + 2, none⟩ = some (.int .i64 (H j).st) ∧ w5.cell? ⟨b, o + j * 5 + 3, none⟩ = some (.bool (H j).yields) ∧ w5.cell? ⟨b, o + j * 5 + 4, none⟩ = some (.bool false)

set_option maxRecDepth 100000 in
set_option maxHeartbeats 4000000 in
theorem r256_no {id : Nat} {ps : String} (wr : World) (b o n cap wb i j sN : Nat) (rem T cc sv : Int) (H : Nat → VH) {u1 u2 u3 u4 u5 u6 u7 u8 u9 u10 u11 u12 u13 u14 u15 u16 u17 u18 u20 u22 u25 u28 u29 u30 u31 u32 u33 u34 u35 u36 u37 u38 u39 u40 u41 u42 u43 u44 u45 u46 u47 u48 u49 u50 u51 u52 u53 u54 u55 u56 u57 u58 u59 u60 u61 u62 u63 u64 u65 u66 u67 u68 u69 u70 u71 u72 u73 u74 u75 u76 u77 u78 u79 u80 u81 u82 u83 u84 u85 u86 u87 u88 u89 u90 u91 u92 u93 u94 u95 u96 u97 u98 u99 u100 u101 u102 u103 u104 u105 u106 u107 u108 u109 u110 u111 u112 u113 u114 u115 u116 u117 u118 u119 u120 u121 u122 u123 u124 u125 u126 u127 u128 u129 u130 u131 u132 u133 u134 u135 u136 u137 u138 u139 u140 u141 u142 u143 u144 u145 u146 u147 u148 u149 u150 u151 u152 u153 u154 u155 u156 u157 u158 u159 u160 u161 u162 u163 u164 u165 u166 u167 u168 u169 u170 u171 u172 u173 u174 u175 u176 u177 u178 u179 u180 u181 u182 u183 u184 u185 u186 u187 u188 u189 u190 u191 u192 u193 u194 u195 u196 u197 u198 u199 u200 u201 u202 u203 u204 u205 u206 u207 u208 u209 u210 u211 u212 u213 u214 u215 u216 u217 u218 u219 u220 u221 u222 u223 u224 u225 u226 u227 u228 u229 u230 u231 u232 u233 u234 u235 u236 u237 u238 u239 u240 u241 u242 u243 u244 u245 u246 u247 u248 u249 u250 u251 u252 u253 u254 u255 u256 u257 u258 u259 u260 u261 u262 u263 u264 u265 u266 u267 u268 u269 u270 u271 u272 u273 u274 u275 u276 u277 u278 u279 u280 u281 u282 u283 u284 u285 u286 u287 u288 u289 u290 u291 u292 u293 u294 u295 u296 u297 u298 u299 u300 u301 u302 u303 u304 u305 u306 u307 u308 u309 u310 u311 u312 u313 u314 u315 u316 u317 u318 u319 u320 u321 u322 u323 u324 u325 u326 u327 x328 x329 x330 x331 x332 x333 x334 x335 x336 x337 x338 x339 x340 x341 x342 x343 x344 x345 x346 x347 x348 x349 x350 x351 x352 x353 x354 x355 x356 x357 x358 x359 x360 x361 x362 x363 x364 x365 x366 x367 x368 x369 x370 x371 x372 x373 x374 x375 x376 x377 x378 x379 x380 x381 x382 x383 x384 x385 x386 x387 x388 x389 x390 x391 x392 x393 x394 x395 x396 x397 x398 x399 x400 : Value} (Q : Exit → Act → World → Prop) (hpq : ∀ (c : _) (a : Act) (d : Option Tmp) (v : Value) (w : World), Q (.panic c) (a.put d v) w → Q (.panic c) a w) (lj : j < n) (li : i < n) (hn : n ≤ 1024)
    (e3 : ((H j).client.toList == (H i).client.toList) = true) (hz : 0 < cc) (hse : (sv == (sN : Int)) = false)
    (KJ : Hid (∀ (w5 : World), Below wr.drew.heap.size wr.drew w5 → Reads w5 b o wb i j cc H))
    (ZS : Hid (Calls Try.prog 27 #[.agg #[.string (H j).client, .int .i64 cc, .int .i64 (H j).st, .bool (H j).yields, .bool false]] wr.drew fun e w' => e = .returned (.int .i64 sv) ∧ Below wr.drew.heap.size wr.drew w'))
    (hQ : ∀ (w7 : World), Below wr.drew.heap.size wr.drew w7 → ∀ (v328 v329 v330 v331 v332 v333 v334 v335 v336 v337 v338 v339 v340 v341 v342 v343 v344 v345 v346 v347 v348 v349 v350 v351 v352 v353 v354 v355 v356 v357 v358 v359 v360 v361 v362 v363 v364 v365 v366 v367 v368 v369 v370 v371 v372 v373 v374 : Value), Q .normal { tmps := List.toArray (.slice (some ⟨b, o, none⟩) n cap :: u1 :: u2 :: u3 :: u4 :: u5 :: u6 :: u7 :: u8 :: u9 :: u10 :: u11 :: u12 :: u13 :: u14 :: u15 :: u16 :: u17 :: u18 :: .slice (some ⟨wb, 0, none⟩) n n :: u20 :: .int .i64 T :: u22 :: .int .i64 (i : Nat) :: .int .i64 rem :: u25 :: .int .i64 (sN : Nat) :: .int .i64 (j : Nat) :: u28 :: u29 :: u30 :: u31 :: u32 :: u33 :: u34 :: u35 :: u36 :: u37 :: u38 :: u39 :: u40 :: u41 :: u42 :: u43 :: u44 :: u45 :: u46 :: u47 :: u48 :: u49 :: u50 :: u51 :: u52 :: u53 :: u54 :: u55 :: u56 :: u57 :: u58 :: u59 :: u60 :: u61 :: u62 :: u63 :: u64 :: u65 :: u66 :: u67 :: u68 :: u69 :: u70 :: u71 :: u72 :: u73 :: u74 :: u75 :: u76 :: u77 :: u78 :: u79 :: u80 :: u81 :: u82 :: u83 :: u84 :: u85 :: u86 :: u87 :: u88 :: u89 :: u90 :: u91 :: u92 :: u93 :: u94 :: u95 :: u96 :: u97 :: u98 :: u99 :: u100 :: u101 :: u102 :: u103 :: u104 :: u105 :: u106 :: u107 :: u108 :: u109 :: u110 :: u111 :: u112 :: u113 :: u114 :: u115 :: u116 :: u117 :: u118 :: u119 :: u120 :: u121 :: u122 :: u123 :: u124 :: u125 :: u126 :: u127 :: u128 :: u129 :: u130 :: u131 :: u132 :: u133 :: u134 :: u135 :: u136 :: u137 :: u138 :: u139 :: u140 :: u141 :: u142 :: u143 :: u144 :: u145 :: u146 :: u147 :: u148 :: u149 :: u150 :: u151 :: u152 :: u153 :: u154 :: u155 :: u156 :: u157 :: u158 :: u159 :: u160 :: u161 :: u162 :: u163 :: u164 :: u165 :: u166 :: u167 :: u168 :: u169 :: u170 :: u171 :: u172 :: u173 :: u174 :: u175 :: u176 :: u177 :: u178 :: u179 :: u180 :: u181 :: u182 :: u183 :: u184 :: u185 :: u186 :: u187 :: u188 :: u189 :: u190 :: u191 :: u192 :: u193 :: u194 :: u195 :: u196 :: u197 :: u198 :: u199 :: u200 :: u201 :: u202 :: u203 :: u204 :: u205 :: u206 :: u207 :: u208 :: u209 :: u210 :: u211 :: u212 :: u213 :: u214 :: u215 :: u216 :: u217 :: u218 :: u219 :: u220 :: u221 :: u222 :: u223 :: u224 :: u225 :: u226 :: u227 :: u228 :: u229 :: u230 :: u231 :: u232 :: u233 :: u234 :: u235 :: u236 :: u237 :: u238 :: u239 :: u240 :: u241 :: u242 :: u243 :: u244 :: u245 :: u246 :: u247 :: u248 :: u249 :: u250 :: u251 :: u252 :: u253 :: u254 :: u255 :: u256 :: u257 :: u258 :: u259 :: u260 :: u261 :: u262 :: u263 :: u264 :: u265 :: u266 :: u267 :: u268 :: u269 :: u270 :: u271 :: u272 :: u273 :: u274 :: u275 :: u276 :: u277 :: u278 :: u279 :: u280 :: u281 :: u282 :: u283 :: u284 :: u285 :: u286 :: u287 :: u288 :: u289 :: u290 :: u291 :: u292 :: u293 :: u294 :: u295 :: u296 :: u297 :: u298 :: u299 :: u300 :: u301 :: u302 :: u303 :: u304 :: u305 :: u306 :: u307 :: u308 :: u309 :: u310 :: u311 :: u312 :: u313 :: u314 :: u315 :: u316 :: u317 :: u318 :: u319 :: u320 :: u321 :: u322 :: u323 :: u324 :: u325 :: u326 :: u327 :: v328 :: v329 :: v330 :: v331 :: v332 :: v333 :: v334 :: v335 :: v336 :: v337 :: v338 :: v339 :: v340 :: v341 :: v342 :: v343 :: v344 :: v345 :: v346 :: v347 :: v348 :: v349 :: v350 :: v351 :: v352 :: v353 :: v354 :: v355 :: v356 :: v357 :: v358 :: v359 :: v360 :: v361 :: v362 :: v363 :: v364 :: v365 :: v366 :: v367 :: v368 :: v369 :: v370 :: v371 :: v372 :: v373 :: v374 :: .bool false :: x376 :: x377 :: x378 :: x379 :: x380 :: x381 :: x382 :: x383 :: x384 :: x385 :: x386 :: x387 :: x388 :: x389 :: x390 :: x391 :: x392 :: x393 :: x394 :: x395 :: x396 :: x397 :: x398 :: x399 :: x400 :: []), defers := [] } w7) :
    Code.wp Try.prog (Code.region id (List.toArray ({ dst := some 328, op := Op.move (Operand.tmp 0), type := 32, pos := ps, after := #[], guard := none } ::
      { dst := some 329, op := Op.move (Operand.tmp 27), type := 3, pos := ps, after := #[], guard := none } ::
      { dst := some 330, op := Op.indexAddr 32 (Operand.tmp 328) (Operand.tmp 329), type := 0, pos := ps, after := #[{ on := 0, ground := Ground.data }, { on := 1, ground := Ground.data }], guard := none } ::
      { dst := some 331, op := Op.fieldAddr 35 (Operand.tmp 330) 0, type := 0, pos := ps, after := #[{ on := 2, ground := Ground.data }], guard := none } ::
      { dst := some 332, op := Op.load 9 (Operand.tmp 331), type := 9, pos := ps, after := #[{ on := 3, ground := Ground.data }], guard := none } ::
      { dst := some 333, op := Op.move (Operand.tmp 0), type := 32, pos := ps, after := #[], guard := none } ::
      { dst := some 334, op := Op.move (Operand.tmp 23), type := 3, pos := ps, after := #[], guard := none } ::
      { dst := some 335, op := Op.indexAddr 32 (Operand.tmp 333) (Operand.tmp 334), type := 0, pos := ps, after := #[{ on := 5, ground := Ground.data }, { on := 6, ground := Ground.data }], guard := none } ::
      { dst := some 336, op := Op.fieldAddr 35 (Operand.tmp 335) 0, type := 0, pos := ps, after := #[{ on := 7, ground := Ground.data }], guard := none } ::
      { dst := some 337, op := Op.load 9 (Operand.tmp 336), type := 9, pos := ps, after := #[{ on := 8, ground := Ground.data }], guard := none } ::
      { dst := some 338, op := Op.binOp BinOp.eql 9 (Operand.tmp 332) (Operand.tmp 337) 9, type := 4, pos := ps, after := #[{ on := 4, ground := Ground.data }, { on := 9, ground := Ground.data }], guard := none } ::
      { dst := some 339, op := Op.move (Operand.tmp 338), type := 4, pos := ps, after := #[{ on := 10, ground := Ground.data }], guard := none } ::
      { dst := some 340, op := Op.move (Operand.tmp 19), type := 43, pos := ps, after := #[{ on := 11, ground := Ground.guard }], guard := some (11, true) } ::
      { dst := some 341, op := Op.move (Operand.tmp 27), type := 3, pos := ps, after := #[{ on := 11, ground := Ground.guard }], guard := some (11, true) } ::
      { dst := some 342, op := Op.indexAddr 43 (Operand.tmp 340) (Operand.tmp 341), type := 0, pos := ps, after := #[{ on := 12, ground := Ground.data }, { on := 13, ground := Ground.data }, { on := 11, ground := Ground.guard }], guard := some (11, true) } ::
      { dst := some 343, op := Op.load 4 (Operand.tmp 342), type := 4, pos := ps, after := #[{ on := 14, ground := Ground.data }, { on := 11, ground := Ground.guard }], guard := some (11, true) } ::
      { dst := some 344, op := Op.unOp UnOp.not 4 (Operand.tmp 343), type := 4, pos := ps, after := #[{ on := 15, ground := Ground.data }, { on := 11, ground := Ground.guard }], guard := some (11, true) } ::
      { dst := some 345, op := Op.pick (Operand.tmp 339) (Operand.tmp 344) (Operand.const (Value.bool false)), type := 4, pos := ps, after := #[{ on := 11, ground := Ground.data }, { on := 16, ground := Ground.data }], guard := none } ::
      { dst := some 346, op := Op.move (Operand.tmp 345), type := 4, pos := ps, after := #[{ on := 17, ground := Ground.data }, { on := 11, ground := Ground.chain }], guard := none } ::
      { dst := some 347, op := Op.move (Operand.tmp 0), type := 32, pos := ps, after := #[{ on := 18, ground := Ground.guard }], guard := some (18, true) } ::
      { dst := some 348, op := Op.move (Operand.tmp 27), type := 3, pos := ps, after := #[{ on := 18, ground := Ground.guard }], guard := some (18, true) } ::
      { dst := some 349, op := Op.indexAddr 32 (Operand.tmp 347) (Operand.tmp 348), type := 0, pos := ps, after := #[{ on := 19, ground := Ground.data }, { on := 20, ground := Ground.data }, { on := 18, ground := Ground.guard }], guard := some (18, true) } ::
      { dst := some 350, op := Op.fieldAddr 35 (Operand.tmp 349) 4, type := 0, pos := ps, after := #[{ on := 21, ground := Ground.data }, { on := 18, ground := Ground.guard }], guard := some (18, true) } ::
      { dst := some 351, op := Op.load 4 (Operand.tmp 350), type := 4, pos := ps, after := #[{ on := 22, ground := Ground.data }, { on := 18, ground := Ground.guard }], guard := some (18, true) } ::
      { dst := some 352, op := Op.unOp UnOp.not 4 (Operand.tmp 351), type := 4, pos := ps, after := #[{ on := 23, ground := Ground.data }, { on := 18, ground := Ground.guard }], guard := some (18, true) } ::
      { dst := some 353, op := Op.pick (Operand.tmp 346) (Operand.tmp 352) (Operand.const (Value.bool false)), type := 4, pos := ps, after := #[{ on := 18, ground := Ground.data }, { on := 24, ground := Ground.data }], guard := none } ::
      { dst := some 354, op := Op.move (Operand.tmp 353), type := 4, pos := ps, after := #[{ on := 25, ground := Ground.data }, { on := 18, ground := Ground.chain }], guard := none } ::
      { dst := some 355, op := Op.move (Operand.tmp 0), type := 32, pos := ps, after := #[{ on := 26, ground := Ground.guard }], guard := some (26, true) } ::
      { dst := some 356, op := Op.move (Operand.tmp 27), type := 3, pos := ps, after := #[{ on := 26, ground := Ground.guard }], guard := some (26, true) } ::
      { dst := some 357, op := Op.indexAddr 32 (Operand.tmp 355) (Operand.tmp 356), type := 0, pos := ps, after := #[{ on := 27, ground := Ground.data }, { on := 28, ground := Ground.data }, { on := 26, ground := Ground.guard }], guard := some (26, true) } ::
      { dst := some 358, op := Op.fieldAddr 35 (Operand.tmp 357) 1, type := 0, pos := ps, after := #[{ on := 29, ground := Ground.data }, { on := 26, ground := Ground.guard }], guard := some (26, true) } ::
      { dst := some 359, op := Op.load 2 (Operand.tmp 358), type := 2, pos := ps, after := #[{ on := 30, ground := Ground.data }, { on := 26, ground := Ground.guard }], guard := some (26, true) } ::
      { dst := some 360, op := Op.binOp BinOp.gtr 2 (Operand.tmp 359) (Operand.const (Value.int IntKind.i64 0)) 2, type := 4, pos := ps, after := #[{ on := 31, ground := Ground.data }, { on := 26, ground := Ground.guard }], guard := some (26, true) } ::
      { dst := some 361, op := Op.pick (Operand.tmp 354) (Operand.tmp 360) (Operand.const (Value.bool false)), type := 4, pos := ps, after := #[{ on := 26, ground := Ground.data }, { on := 32, ground := Ground.data }], guard := none } ::
      { dst := some 362, op := Op.move (Operand.tmp 361), type := 4, pos := ps, after := #[{ on := 33, ground := Ground.data }, { on := 26, ground := Ground.chain }], guard := none } ::
      { dst := some 363, op := Op.move (Operand.tmp 0), type := 32, pos := ps, after := #[{ on := 34, ground := Ground.guard }], guard := some (34, true) } ::
      { dst := some 364, op := Op.move (Operand.tmp 27), type := 3, pos := ps, after := #[{ on := 34, ground := Ground.guard }], guard := some (34, true) } ::
      { dst := some 365, op := Op.indexAddr 32 (Operand.tmp 363) (Operand.tmp 364), type := 0, pos := ps, after := #[{ on := 35, ground := Ground.data }, { on := 36, ground := Ground.data }, { on := 34, ground := Ground.guard }], guard := some (34, true) } ::
      { dst := some 366, op := Op.load 35 (Operand.tmp 365), type := 35, pos := ps, after := #[{ on := 37, ground := Ground.data }, { on := 34, ground := Ground.guard }], guard := some (34, true) } ::
      { dst := some 367, op := Op.call { callee := Callee.value (Operand.func 27), args := #[Operand.tmp 366], argTypes := #[35] }, type := 3, pos := ps, after := #[{ on := 38, ground := Ground.data }, { on := 34, ground := Ground.chain }, { on := 34, ground := Ground.guard }], guard := some (34, true) } ::
      { dst := some 368, op := Op.move (Operand.tmp 26), type := 3, pos := ps, after := #[{ on := 34, ground := Ground.guard }], guard := some (34, true) } ::
      { dst := some 369, op := Op.binOp BinOp.eql 3 (Operand.tmp 367) (Operand.tmp 368) 3, type := 4, pos := ps, after := #[{ on := 39, ground := Ground.data }, { on := 40, ground := Ground.data }, { on := 34, ground := Ground.guard }], guard := some (34, true) } ::
      { dst := some 370, op := Op.pick (Operand.tmp 362) (Operand.tmp 369) (Operand.const (Value.bool false)), type := 4, pos := ps, after := #[{ on := 34, ground := Ground.data }, { on := 41, ground := Ground.data }], guard := none } ::
      { dst := some 371, op := Op.move (Operand.tmp 370), type := 4, pos := ps, after := #[{ on := 42, ground := Ground.data }, { on := 39, ground := Ground.chain }], guard := none } ::
      { dst := some 372, op := Op.move (Operand.tmp 24), type := 2, pos := ps, after := #[{ on := 43, ground := Ground.guard }], guard := some (43, true) } ::
      { dst := some 373, op := Op.move (Operand.tmp 21), type := 2, pos := ps, after := #[{ on := 43, ground := Ground.guard }], guard := some (43, true) } ::
      { dst := some 374, op := Op.binOp BinOp.gtr 2 (Operand.tmp 372) (Operand.tmp 373) 2, type := 4, pos := ps, after := #[{ on := 44, ground := Ground.data }, { on := 45, ground := Ground.data }, { on := 43, ground := Ground.guard }], guard := some (43, true) } ::
      { dst := some 375, op := Op.pick (Operand.tmp 371) (Operand.tmp 374) (Operand.const (Value.bool false)), type := 4, pos := ps, after := #[{ on := 43, ground := Ground.data }, { on := 46, ground := Ground.data }], guard := none } :: [])) true) Q { tmps := List.toArray (.slice (some ⟨b, o, none⟩) n cap :: u1 :: u2 :: u3 :: u4 :: u5 :: u6 :: u7 :: u8 :: u9 :: u10 :: u11 :: u12 :: u13 :: u14 :: u15 :: u16 :: u17 :: u18 :: .slice (some ⟨wb, 0, none⟩) n n :: u20 :: .int .i64 T :: u22 :: .int .i64 (i : Nat) :: .int .i64 rem :: u25 :: .int .i64 (sN : Nat) :: .int .i64 (j : Nat) :: u28 :: u29 :: u30 :: u31 :: u32 :: u33 :: u34 :: u35 :: u36 :: u37 :: u38 :: u39 :: u40 :: u41 :: u42 :: u43 :: u44 :: u45 :: u46 :: u47 :: u48 :: u49 :: u50 :: u51 :: u52 :: u53 :: u54 :: u55 :: u56 :: u57 :: u58 :: u59 :: u60 :: u61 :: u62 :: u63 :: u64 :: u65 :: u66 :: u67 :: u68 :: u69 :: u70 :: u71 :: u72 :: u73 :: u74 :: u75 :: u76 :: u77 :: u78 :: u79 :: u80 :: u81 :: u82 :: u83 :: u84 :: u85 :: u86 :: u87 :: u88 :: u89 :: u90 :: u91 :: u92 :: u93 :: u94 :: u95 :: u96 :: u97 :: u98 :: u99 :: u100 :: u101 :: u102 :: u103 :: u104 :: u105 :: u106 :: u107 :: u108 :: u109 :: u110 :: u111 :: u112 :: u113 :: u114 :: u115 :: u116 :: u117 :: u118 :: u119 :: u120 :: u121 :: u122 :: u123 :: u124 :: u125 :: u126 :: u127 :: u128 :: u129 :: u130 :: u131 :: u132 :: u133 :: u134 :: u135 :: u136 :: u137 :: u138 :: u139 :: u140 :: u141 :: u142 :: u143 :: u144 :: u145 :: u146 :: u147 :: u148 :: u149 :: u150 :: u151 :: u152 :: u153 :: u154 :: u155 :: u156 :: u157 :: u158 :: u159 :: u160 :: u161 :: u162 :: u163 :: u164 :: u165 :: u166 :: u167 :: u168 :: u169 :: u170 :: u171 :: u172 :: u173 :: u174 :: u175 :: u176 :: u177 :: u178 :: u179 :: u180 :: u181 :: u182 :: u183 :: u184 :: u185 :: u186 :: u187 :: u188 :: u189 :: u190 :: u191 :: u192 :: u193 :: u194 :: u195 :: u196 :: u197 :: u198 :: u199 :: u200 :: u201 :: u202 :: u203 :: u204 :: u205 :: u206 :: u207 :: u208 :: u209 :: u210 :: u211 :: u212 :: u213 :: u214 :: u215 :: u216 :: u217 :: u218 :: u219 :: u220 :: u221 :: u222 :: u223 :: u224 :: u225 :: u226 :: u227 :: u228 :: u229 :: u230 :: u231 :: u232 :: u233 :: u234 :: u235 :: u236 :: u237 :: u238 :: u239 :: u240 :: u241 :: u242 :: u243 :: u244 :: u245 :: u246 :: u247 :: u248 :: u249 :: u250 :: u251 :: u252 :: u253 :: u254 :: u255 :: u256 :: u257 :: u258 :: u259 :: u260 :: u261 :: u262 :: u263 :: u264 :: u265 :: u266 :: u267 :: u268 :: u269 :: u270 :: u271 :: u272 :: u273 :: u274 :: u275 :: u276 :: u277 :: u278 :: u279 :: u280 :: u281 :: u282 :: u283 :: u284 :: u285 :: u286 :: u287 :: u288 :: u289 :: u290 :: u291 :: u292 :: u293 :: u294 :: u295 :: u296 :: u297 :: u298 :: u299 :: u300 :: u301 :: u302 :: u303 :: u304 :: u305 :: u306 :: u307 :: u308 :: u309 :: u310 :: u311 :: u312 :: u313 :: u314 :: u315 :: u316 :: u317 :: u318 :: u319 :: u320 :: u321 :: u322 :: u323 :: u324 :: u325 :: u326 :: u327 :: x328 :: x329 :: x330 :: x331 :: x332 :: x333 :: x334 :: x335 :: x336 :: x337 :: x338 :: x339 :: x340 :: x341 :: x342 :: x343 :: x344 :: x345 :: x346 :: x347 :: x348 :: x349 :: x350 :: x351 :: x352 :: x353 :: x354 :: x355 :: x356 :: x357 :: x358 :: x359 :: x360 :: x361 :: x362 :: x363 :: x364 :: x365 :: x366 :: x367 :: x368 :: x369 :: x370 :: x371 :: x372 :: x373 :: x374 :: x375 :: x376 :: x377 :: x378 :: x379 :: x380 :: x381 :: x382 :: x383 :: x384 :: x385 :: x386 :: x387 :: x388 :: x389 :: x390 :: x391 :: x392 :: x393 :: x394 :: x395 :: x396 :: x397 :: x398 :: x399 :: x400 :: []), defers := [] } wr := by
  have hS0 : Reads wr.drew b o wb i j cc H := unhide KJ _ (Below.refl _ _)
  refine wp_region_held_drew (S := fun w5 => w5.cell? ⟨b, o + j * 5, none⟩ = some (.string (H j).client) ∧ w5.cell? ⟨b, o + i * 5, none⟩ = some (.string (H i).client) ∧ w5.cell? ⟨wb, j, none⟩ = some (.bool false) ∧ w5.cell? ⟨b, o + j * 5 + 1, none⟩ = some (.int .i64 cc) ∧ w5.cell? ⟨b, o + j * 5 + 2, none⟩ = some (.int .i64 (H j).st) ∧ w5.cell? ⟨b, o + j * 5 + 3, none⟩ = some (.bool (H j).yields) ∧ w5.cell? ⟨b, o + j * 5 + 4, none⟩ = some (.bool false)) (by kernel_rfl) hS0 (fun hHeld => ?_)
  refine wpAnyH_take (i := 0) (oi := { dst := some 328, op := Op.move (Operand.tmp 0), type := 32, pos := ps, after := #[], guard := none }) (v := ?_) rfl (by kernel_rfl) (by kernel_rfl) (by kernel_rfl) (fun _ _ _ h => hpq _ _ _ _ _ h) (Or.inl ⟨by kernel_rfl, ?_⟩) (by assumption) ?_
  rotate_left 1
  · (intro w hSw; (try dsimp only at hSw); go_simp); first | done | (with_reducible rfl)
  try simp only [Act.put, List.setIfInBounds_toArray, List.set_cons_zero, List.set_cons_succ]
  refine wpAnyH_take (i := 1) (oi := { dst := some 329, op := Op.move (Operand.tmp 27), type := 3, pos := ps, after := #[], guard := none }) (v := ?_) rfl (by kernel_rfl) (by kernel_rfl) (by kernel_rfl) (fun _ _ _ h => hpq _ _ _ _ _ h) (Or.inl ⟨by kernel_rfl, ?_⟩) (by assumption) ?_
  rotate_left 1
  · (intro w hSw; (try dsimp only at hSw); go_simp); first | done | (with_reducible rfl)
  try simp only [Act.put, List.setIfInBounds_toArray, List.set_cons_zero, List.set_cons_succ]
  refine wpAnyH_take (i := 2) (oi := { dst := some 330, op := Op.indexAddr 32 (Operand.tmp 328) (Operand.tmp 329), type := 0, pos := ps, after := #[{ on := 0, ground := Ground.data }, { on := 1, ground := Ground.data }], guard := none }) (v := ?_) rfl (by kernel_rfl) (by kernel_rfl) (by kernel_rfl) (fun _ _ _ h => hpq _ _ _ _ _ h) (Or.inl ⟨by kernel_rfl, ?_⟩) (by assumption) ?_
  rotate_left 1
  · (intro w hSw; (try dsimp only at hSw); go_simp); first | done | (with_reducible rfl)
  try simp only [Act.put, List.setIfInBounds_toArray, List.set_cons_zero, List.set_cons_succ]
  refine wpAnyH_take (i := 3) (oi := { dst := some 331, op := Op.fieldAddr 35 (Operand.tmp 330) 0, type := 0, pos := ps, after := #[{ on := 2, ground := Ground.data }], guard := none }) (v := ?_) rfl (by kernel_rfl) (by kernel_rfl) (by kernel_rfl) (fun _ _ _ h => hpq _ _ _ _ _ h) (Or.inl ⟨by kernel_rfl, ?_⟩) (by assumption) ?_
  rotate_left 1
  · (intro w hSw; (try dsimp only at hSw); go_simp); first | done | (with_reducible rfl)
  try simp only [Act.put, List.setIfInBounds_toArray, List.set_cons_zero, List.set_cons_succ]
  refine wpAnyH_take (i := 4) (oi := { dst := some 332, op := Op.load 9 (Operand.tmp 331), type := 9, pos := ps, after := #[{ on := 3, ground := Ground.data }], guard := none }) (v := ?_) rfl (by kernel_rfl) (by kernel_rfl) (by kernel_rfl) (fun _ _ _ h => hpq _ _ _ _ _ h) (Or.inl ⟨by kernel_rfl, ?_⟩) (by assumption) ?_
  rotate_left 1
  · (intro w hSw; (try dsimp only at hSw); go_simp); first | done | (with_reducible rfl)
  try simp only [Act.put, List.setIfInBounds_toArray, List.set_cons_zero, List.set_cons_succ]
  refine wpAnyH_take (i := 5) (oi := { dst := some 333, op := Op.move (Operand.tmp 0), type := 32, pos := ps, after := #[], guard := none }) (v := ?_) rfl (by kernel_rfl) (by kernel_rfl) (by kernel_rfl) (fun _ _ _ h => hpq _ _ _ _ _ h) (Or.inl ⟨by kernel_rfl, ?_⟩) (by assumption) ?_
  rotate_left 1
  · (intro w hSw; (try dsimp only at hSw); go_simp); first | done | (with_reducible rfl)
  try simp only [Act.put, List.setIfInBounds_toArray, List.set_cons_zero, List.set_cons_succ]
  refine wpAnyH_take (i := 6) (oi := { dst := some 334, op := Op.move (Operand.tmp 23), type := 3, pos := ps, after := #[], guard := none }) (v := ?_) rfl (by kernel_rfl) (by kernel_rfl) (by kernel_rfl) (fun _ _ _ h => hpq _ _ _ _ _ h) (Or.inl ⟨by kernel_rfl, ?_⟩) (by assumption) ?_
  rotate_left 1
  · (intro w hSw; (try dsimp only at hSw); go_simp); first | done | (with_reducible rfl)
  try simp only [Act.put, List.setIfInBounds_toArray, List.set_cons_zero, List.set_cons_succ]
  refine wpAnyH_take (i := 7) (oi := { dst := some 335, op := Op.indexAddr 32 (Operand.tmp 333) (Operand.tmp 334), type := 0, pos := ps, after := #[{ on := 5, ground := Ground.data }, { on := 6, ground := Ground.data }], guard := none }) (v := ?_) rfl (by kernel_rfl) (by kernel_rfl) (by kernel_rfl) (fun _ _ _ h => hpq _ _ _ _ _ h) (Or.inl ⟨by kernel_rfl, ?_⟩) (by assumption) ?_
  rotate_left 1
  · (intro w hSw; (try dsimp only at hSw); go_simp); first | done | (with_reducible rfl)
  try simp only [Act.put, List.setIfInBounds_toArray, List.set_cons_zero, List.set_cons_succ]
  refine wpAnyH_take (i := 8) (oi := { dst := some 336, op := Op.fieldAddr 35 (Operand.tmp 335) 0, type := 0, pos := ps, after := #[{ on := 7, ground := Ground.data }], guard := none }) (v := ?_) rfl (by kernel_rfl) (by kernel_rfl) (by kernel_rfl) (fun _ _ _ h => hpq _ _ _ _ _ h) (Or.inl ⟨by kernel_rfl, ?_⟩) (by assumption) ?_
  rotate_left 1
  · (intro w hSw; (try dsimp only at hSw); go_simp); first | done | (with_reducible rfl)
  try simp only [Act.put, List.setIfInBounds_toArray, List.set_cons_zero, List.set_cons_succ]
  refine wpAnyH_take (i := 9) (oi := { dst := some 337, op := Op.load 9 (Operand.tmp 336), type := 9, pos := ps, after := #[{ on := 8, ground := Ground.data }], guard := none }) (v := ?_) rfl (by kernel_rfl) (by kernel_rfl) (by kernel_rfl) (fun _ _ _ h => hpq _ _ _ _ _ h) (Or.inl ⟨by kernel_rfl, ?_⟩) (by assumption) ?_
  rotate_left 1
  · (intro w hSw; (try dsimp only at hSw); go_simp); first | done | (with_reducible rfl)
  try simp only [Act.put, List.setIfInBounds_toArray, List.set_cons_zero, List.set_cons_succ]
  refine wpAnyH_take (i := 10) (oi := { dst := some 338, op := Op.binOp BinOp.eql 9 (Operand.tmp 332) (Operand.tmp 337) 9, type := 4, pos := ps, after := #[{ on := 4, ground := Ground.data }, { on := 9, ground := Ground.data }], guard := none }) (v := ?_) rfl (by kernel_rfl) (by kernel_rfl) (by kernel_rfl) (fun _ _ _ h => hpq _ _ _ _ _ h) (Or.inl ⟨by kernel_rfl, ?_⟩) (by assumption) ?_
  rotate_left 1
  · (intro w hSw; (try dsimp only at hSw); go_simp); first | done | (with_reducible rfl)
  try simp only [Act.put, List.setIfInBounds_toArray, List.set_cons_zero, List.set_cons_succ]
  refine wpAnyH_take (i := 11) (oi := { dst := some 339, op := Op.move (Operand.tmp 338), type := 4, pos := ps, after := #[{ on := 10, ground := Ground.data }], guard := none }) (v := ?_) rfl (by kernel_rfl) (by kernel_rfl) (by kernel_rfl) (fun _ _ _ h => hpq _ _ _ _ _ h) (Or.inl ⟨by kernel_rfl, ?_⟩) (by assumption) ?_
  rotate_left 1
  · (intro w hSw; (try dsimp only at hSw); go_simp); first | done | (with_reducible rfl)
  try simp only [Act.put, List.setIfInBounds_toArray, List.set_cons_zero, List.set_cons_succ]
  refine wpAnyH_take (i := 12) (oi := { dst := some 340, op := Op.move (Operand.tmp 19), type := 43, pos := ps, after := #[{ on := 11, ground := Ground.guard }], guard := some (11, true) }) (v := ?_) rfl (by kernel_rfl) (by kernel_rfl) (by kernel_rfl) (fun _ _ _ h => hpq _ _ _ _ _ h) (Or.inl ⟨by kernel_rfl, ?_⟩) (by assumption) ?_
  rotate_left 1
  · (intro w hSw; (try dsimp only at hSw); go_simp); first | done | (with_reducible rfl)
  try simp only [Act.put, List.setIfInBounds_toArray, List.set_cons_zero, List.set_cons_succ]
  refine wpAnyH_take (i := 13) (oi := { dst := some 341, op := Op.move (Operand.tmp 27), type := 3, pos := ps, after := #[{ on := 11, ground := Ground.guard }], guard := some (11, true) }) (v := ?_) rfl (by kernel_rfl) (by kernel_rfl) (by kernel_rfl) (fun _ _ _ h => hpq _ _ _ _ _ h) (Or.inl ⟨by kernel_rfl, ?_⟩) (by assumption) ?_
  rotate_left 1
  · (intro w hSw; (try dsimp only at hSw); go_simp); first | done | (with_reducible rfl)
  try simp only [Act.put, List.setIfInBounds_toArray, List.set_cons_zero, List.set_cons_succ]
  refine wpAnyH_take (i := 14) (oi := { dst := some 342, op := Op.indexAddr 43 (Operand.tmp 340) (Operand.tmp 341), type := 0, pos := ps, after := #[{ on := 12, ground := Ground.data }, { on := 13, ground := Ground.data }, { on := 11, ground := Ground.guard }], guard := some (11, true) }) (v := ?_) rfl (by kernel_rfl) (by kernel_rfl) (by kernel_rfl) (fun _ _ _ h => hpq _ _ _ _ _ h) (Or.inl ⟨by kernel_rfl, ?_⟩) (by assumption) ?_
  rotate_left 1
  · (intro w hSw; (try dsimp only at hSw); go_simp); first | done | (with_reducible rfl)
  try simp only [Act.put, List.setIfInBounds_toArray, List.set_cons_zero, List.set_cons_succ]
  refine wpAnyH_take (i := 15) (oi := { dst := some 343, op := Op.load 4 (Operand.tmp 342), type := 4, pos := ps, after := #[{ on := 14, ground := Ground.data }, { on := 11, ground := Ground.guard }], guard := some (11, true) }) (v := ?_) rfl (by kernel_rfl) (by kernel_rfl) (by kernel_rfl) (fun _ _ _ h => hpq _ _ _ _ _ h) (Or.inl ⟨by kernel_rfl, ?_⟩) (by assumption) ?_
  rotate_left 1
  · (intro w hSw; (try dsimp only at hSw); go_simp); first | done | (with_reducible rfl)
  try simp only [Act.put, List.setIfInBounds_toArray, List.set_cons_zero, List.set_cons_succ]
  refine wpAnyH_take (i := 16) (oi := { dst := some 344, op := Op.unOp UnOp.not 4 (Operand.tmp 343), type := 4, pos := ps, after := #[{ on := 15, ground := Ground.data }, { on := 11, ground := Ground.guard }], guard := some (11, true) }) (v := ?_) rfl (by kernel_rfl) (by kernel_rfl) (by kernel_rfl) (fun _ _ _ h => hpq _ _ _ _ _ h) (Or.inl ⟨by kernel_rfl, ?_⟩) (by assumption) ?_
  rotate_left 1
  · (intro w hSw; (try dsimp only at hSw); go_simp); first | done | (with_reducible rfl)
  try simp only [Act.put, List.setIfInBounds_toArray, List.set_cons_zero, List.set_cons_succ]
  refine wpAnyH_take (i := 17) (oi := { dst := some 345, op := Op.pick (Operand.tmp 339) (Operand.tmp 344) (Operand.const (Value.bool false)), type := 4, pos := ps, after := #[{ on := 11, ground := Ground.data }, { on := 16, ground := Ground.data }], guard := none }) (v := ?_) rfl (by kernel_rfl) (by kernel_rfl) (by kernel_rfl) (fun _ _ _ h => hpq _ _ _ _ _ h) (Or.inl ⟨by kernel_rfl, ?_⟩) (by assumption) ?_
  rotate_left 1
  · (intro w hSw; (try dsimp only at hSw); go_simp); first | done | (with_reducible rfl)
  try simp only [Act.put, List.setIfInBounds_toArray, List.set_cons_zero, List.set_cons_succ]
  refine wpAnyH_take (i := 18) (oi := { dst := some 346, op := Op.move (Operand.tmp 345), type := 4, pos := ps, after := #[{ on := 17, ground := Ground.data }, { on := 11, ground := Ground.chain }], guard := none }) (v := ?_) rfl (by kernel_rfl) (by kernel_rfl) (by kernel_rfl) (fun _ _ _ h => hpq _ _ _ _ _ h) (Or.inl ⟨by kernel_rfl, ?_⟩) (by assumption) ?_
  rotate_left 1
  · (intro w hSw; (try dsimp only at hSw); go_simp); first | done | (with_reducible rfl)
  try simp only [Act.put, List.setIfInBounds_toArray, List.set_cons_zero, List.set_cons_succ]
  refine wpAnyH_take (i := 19) (oi := { dst := some 347, op := Op.move (Operand.tmp 0), type := 32, pos := ps, after := #[{ on := 18, ground := Ground.guard }], guard := some (18, true) }) (v := ?_) rfl (by kernel_rfl) (by kernel_rfl) (by kernel_rfl) (fun _ _ _ h => hpq _ _ _ _ _ h) (Or.inl ⟨by kernel_rfl, ?_⟩) (by assumption) ?_
  rotate_left 1
  · (intro w hSw; (try dsimp only at hSw); go_simp); first | done | (with_reducible rfl)
  try simp only [Act.put, List.setIfInBounds_toArray, List.set_cons_zero, List.set_cons_succ]
  refine wpAnyH_take (i := 20) (oi := { dst := some 348, op := Op.move (Operand.tmp 27), type := 3, pos := ps, after := #[{ on := 18, ground := Ground.guard }], guard := some (18, true) }) (v := ?_) rfl (by kernel_rfl) (by kernel_rfl) (by kernel_rfl) (fun _ _ _ h => hpq _ _ _ _ _ h) (Or.inl ⟨by kernel_rfl, ?_⟩) (by assumption) ?_
  rotate_left 1
  · (intro w hSw; (try dsimp only at hSw); go_simp); first | done | (with_reducible rfl)
  try simp only [Act.put, List.setIfInBounds_toArray, List.set_cons_zero, List.set_cons_succ]
  refine wpAnyH_take (i := 21) (oi := { dst := some 349, op := Op.indexAddr 32 (Operand.tmp 347) (Operand.tmp 348), type := 0, pos := ps, after := #[{ on := 19, ground := Ground.data }, { on := 20, ground := Ground.data }, { on := 18, ground := Ground.guard }], guard := some (18, true) }) (v := ?_) rfl (by kernel_rfl) (by kernel_rfl) (by kernel_rfl) (fun _ _ _ h => hpq _ _ _ _ _ h) (Or.inl ⟨by kernel_rfl, ?_⟩) (by assumption) ?_
  rotate_left 1
  · (intro w hSw; (try dsimp only at hSw); go_simp); first | done | (with_reducible rfl)
  try simp only [Act.put, List.setIfInBounds_toArray, List.set_cons_zero, List.set_cons_succ]
  refine wpAnyH_take (i := 22) (oi := { dst := some 350, op := Op.fieldAddr 35 (Operand.tmp 349) 4, type := 0, pos := ps, after := #[{ on := 21, ground := Ground.data }, { on := 18, ground := Ground.guard }], guard := some (18, true) }) (v := ?_) rfl (by kernel_rfl) (by kernel_rfl) (by kernel_rfl) (fun _ _ _ h => hpq _ _ _ _ _ h) (Or.inl ⟨by kernel_rfl, ?_⟩) (by assumption) ?_
  rotate_left 1
  · (intro w hSw; (try dsimp only at hSw); go_simp); first | done | (with_reducible rfl)
  try simp only [Act.put, List.setIfInBounds_toArray, List.set_cons_zero, List.set_cons_succ]
  refine wpAnyH_take (i := 23) (oi := { dst := some 351, op := Op.load 4 (Operand.tmp 350), type := 4, pos := ps, after := #[{ on := 22, ground := Ground.data }, { on := 18, ground := Ground.guard }], guard := some (18, true) }) (v := ?_) rfl (by kernel_rfl) (by kernel_rfl) (by kernel_rfl) (fun _ _ _ h => hpq _ _ _ _ _ h) (Or.inl ⟨by kernel_rfl, ?_⟩) (by assumption) ?_
  rotate_left 1
  · (intro w hSw; (try dsimp only at hSw); go_simp); first | done | (with_reducible rfl)
  try simp only [Act.put, List.setIfInBounds_toArray, List.set_cons_zero, List.set_cons_succ]
  refine wpAnyH_take (i := 24) (oi := { dst := some 352, op := Op.unOp UnOp.not 4 (Operand.tmp 351), type := 4, pos := ps, after := #[{ on := 23, ground := Ground.data }, { on := 18, ground := Ground.guard }], guard := some (18, true) }) (v := ?_) rfl (by kernel_rfl) (by kernel_rfl) (by kernel_rfl) (fun _ _ _ h => hpq _ _ _ _ _ h) (Or.inl ⟨by kernel_rfl, ?_⟩) (by assumption) ?_
  rotate_left 1
  · (intro w hSw; (try dsimp only at hSw); go_simp); first | done | (with_reducible rfl)
  try simp only [Act.put, List.setIfInBounds_toArray, List.set_cons_zero, List.set_cons_succ]
  refine wpAnyH_take (i := 25) (oi := { dst := some 353, op := Op.pick (Operand.tmp 346) (Operand.tmp 352) (Operand.const (Value.bool false)), type := 4, pos := ps, after := #[{ on := 18, ground := Ground.data }, { on := 24, ground := Ground.data }], guard := none }) (v := ?_) rfl (by kernel_rfl) (by kernel_rfl) (by kernel_rfl) (fun _ _ _ h => hpq _ _ _ _ _ h) (Or.inl ⟨by kernel_rfl, ?_⟩) (by assumption) ?_
  rotate_left 1
  · (intro w hSw; (try dsimp only at hSw); go_simp); first | done | (with_reducible rfl)
  try simp only [Act.put, List.setIfInBounds_toArray, List.set_cons_zero, List.set_cons_succ]
  refine wpAnyH_take (i := 26) (oi := { dst := some 354, op := Op.move (Operand.tmp 353), type := 4, pos := ps, after := #[{ on := 25, ground := Ground.data }, { on := 18, ground := Ground.chain }], guard := none }) (v := ?_) rfl (by kernel_rfl) (by kernel_rfl) (by kernel_rfl) (fun _ _ _ h => hpq _ _ _ _ _ h) (Or.inl ⟨by kernel_rfl, ?_⟩) (by assumption) ?_
  rotate_left 1
  · (intro w hSw; (try dsimp only at hSw); go_simp); first | done | (with_reducible rfl)
  try simp only [Act.put, List.setIfInBounds_toArray, List.set_cons_zero, List.set_cons_succ]
  refine wpAnyH_take (i := 27) (oi := { dst := some 355, op := Op.move (Operand.tmp 0), type := 32, pos := ps, after := #[{ on := 26, ground := Ground.guard }], guard := some (26, true) }) (v := ?_) rfl (by kernel_rfl) (by kernel_rfl) (by kernel_rfl) (fun _ _ _ h => hpq _ _ _ _ _ h) (Or.inl ⟨by kernel_rfl, ?_⟩) (by assumption) ?_
  rotate_left 1
  · (intro w hSw; (try dsimp only at hSw); go_simp); first | done | (with_reducible rfl)
  try simp only [Act.put, List.setIfInBounds_toArray, List.set_cons_zero, List.set_cons_succ]
  refine wpAnyH_take (i := 28) (oi := { dst := some 356, op := Op.move (Operand.tmp 27), type := 3, pos := ps, after := #[{ on := 26, ground := Ground.guard }], guard := some (26, true) }) (v := ?_) rfl (by kernel_rfl) (by kernel_rfl) (by kernel_rfl) (fun _ _ _ h => hpq _ _ _ _ _ h) (Or.inl ⟨by kernel_rfl, ?_⟩) (by assumption) ?_
  rotate_left 1
  · (intro w hSw; (try dsimp only at hSw); go_simp); first | done | (with_reducible rfl)
  try simp only [Act.put, List.setIfInBounds_toArray, List.set_cons_zero, List.set_cons_succ]
  refine wpAnyH_take (i := 29) (oi := { dst := some 357, op := Op.indexAddr 32 (Operand.tmp 355) (Operand.tmp 356), type := 0, pos := ps, after := #[{ on := 27, ground := Ground.data }, { on := 28, ground := Ground.data }, { on := 26, ground := Ground.guard }], guard := some (26, true) }) (v := ?_) rfl (by kernel_rfl) (by kernel_rfl) (by kernel_rfl) (fun _ _ _ h => hpq _ _ _ _ _ h) (Or.inl ⟨by kernel_rfl, ?_⟩) (by assumption) ?_
  rotate_left 1
  · (intro w hSw; (try dsimp only at hSw); go_simp); first | done | (with_reducible rfl)
  try simp only [Act.put, List.setIfInBounds_toArray, List.set_cons_zero, List.set_cons_succ]
  refine wpAnyH_take (i := 30) (oi := { dst := some 358, op := Op.fieldAddr 35 (Operand.tmp 357) 1, type := 0, pos := ps, after := #[{ on := 29, ground := Ground.data }, { on := 26, ground := Ground.guard }], guard := some (26, true) }) (v := ?_) rfl (by kernel_rfl) (by kernel_rfl) (by kernel_rfl) (fun _ _ _ h => hpq _ _ _ _ _ h) (Or.inl ⟨by kernel_rfl, ?_⟩) (by assumption) ?_
  rotate_left 1
  · (intro w hSw; (try dsimp only at hSw); go_simp); first | done | (with_reducible rfl)
  try simp only [Act.put, List.setIfInBounds_toArray, List.set_cons_zero, List.set_cons_succ]
  refine wpAnyH_take (i := 31) (oi := { dst := some 359, op := Op.load 2 (Operand.tmp 358), type := 2, pos := ps, after := #[{ on := 30, ground := Ground.data }, { on := 26, ground := Ground.guard }], guard := some (26, true) }) (v := ?_) rfl (by kernel_rfl) (by kernel_rfl) (by kernel_rfl) (fun _ _ _ h => hpq _ _ _ _ _ h) (Or.inl ⟨by kernel_rfl, ?_⟩) (by assumption) ?_
  rotate_left 1
  · (intro w hSw; (try dsimp only at hSw); go_simp); first | done | (with_reducible rfl)
  try simp only [Act.put, List.setIfInBounds_toArray, List.set_cons_zero, List.set_cons_succ]
  refine wpAnyH_take (i := 32) (oi := { dst := some 360, op := Op.binOp BinOp.gtr 2 (Operand.tmp 359) (Operand.const (Value.int IntKind.i64 0)) 2, type := 4, pos := ps, after := #[{ on := 31, ground := Ground.data }, { on := 26, ground := Ground.guard }], guard := some (26, true) }) (v := ?_) rfl (by kernel_rfl) (by kernel_rfl) (by kernel_rfl) (fun _ _ _ h => hpq _ _ _ _ _ h) (Or.inl ⟨by kernel_rfl, ?_⟩) (by assumption) ?_
  rotate_left 1
  · (intro w hSw; (try dsimp only at hSw); go_simp); first | done | (with_reducible rfl)
  try simp only [Act.put, List.setIfInBounds_toArray, List.set_cons_zero, List.set_cons_succ]
  refine wpAnyH_take (i := 33) (oi := { dst := some 361, op := Op.pick (Operand.tmp 354) (Operand.tmp 360) (Operand.const (Value.bool false)), type := 4, pos := ps, after := #[{ on := 26, ground := Ground.data }, { on := 32, ground := Ground.data }], guard := none }) (v := ?_) rfl (by kernel_rfl) (by kernel_rfl) (by kernel_rfl) (fun _ _ _ h => hpq _ _ _ _ _ h) (Or.inl ⟨by kernel_rfl, ?_⟩) (by assumption) ?_
  rotate_left 1
  · (intro w hSw; (try dsimp only at hSw); go_simp); first | done | (with_reducible rfl)
  try simp only [Act.put, List.setIfInBounds_toArray, List.set_cons_zero, List.set_cons_succ]
  refine wpAnyH_take (i := 34) (oi := { dst := some 362, op := Op.move (Operand.tmp 361), type := 4, pos := ps, after := #[{ on := 33, ground := Ground.data }, { on := 26, ground := Ground.chain }], guard := none }) (v := ?_) rfl (by kernel_rfl) (by kernel_rfl) (by kernel_rfl) (fun _ _ _ h => hpq _ _ _ _ _ h) (Or.inl ⟨by kernel_rfl, ?_⟩) (by assumption) ?_
  rotate_left 1
  · (intro w hSw; (try dsimp only at hSw); go_simp); first | done | (with_reducible rfl)
  try simp only [Act.put, List.setIfInBounds_toArray, List.set_cons_zero, List.set_cons_succ]
  refine wpAnyH_take (i := 35) (oi := { dst := some 363, op := Op.move (Operand.tmp 0), type := 32, pos := ps, after := #[{ on := 34, ground := Ground.guard }], guard := some (34, true) }) (v := ?_) rfl (by kernel_rfl) (by kernel_rfl) (by kernel_rfl) (fun _ _ _ h => hpq _ _ _ _ _ h) (Or.inl ⟨by kernel_rfl, ?_⟩) (by assumption) ?_
  rotate_left 1
  · (intro w hSw; (try dsimp only at hSw); go_simp); first | done | (with_reducible rfl)
  try simp only [Act.put, List.setIfInBounds_toArray, List.set_cons_zero, List.set_cons_succ]
  refine wpAnyH_take (i := 36) (oi := { dst := some 364, op := Op.move (Operand.tmp 27), type := 3, pos := ps, after := #[{ on := 34, ground := Ground.guard }], guard := some (34, true) }) (v := ?_) rfl (by kernel_rfl) (by kernel_rfl) (by kernel_rfl) (fun _ _ _ h => hpq _ _ _ _ _ h) (Or.inl ⟨by kernel_rfl, ?_⟩) (by assumption) ?_
  rotate_left 1
  · (intro w hSw; (try dsimp only at hSw); go_simp); first | done | (with_reducible rfl)
  try simp only [Act.put, List.setIfInBounds_toArray, List.set_cons_zero, List.set_cons_succ]
  refine wpAnyH_take (i := 37) (oi := { dst := some 365, op := Op.indexAddr 32 (Operand.tmp 363) (Operand.tmp 364), type := 0, pos := ps, after := #[{ on := 35, ground := Ground.data }, { on := 36, ground := Ground.data }, { on := 34, ground := Ground.guard }], guard := some (34, true) }) (v := ?_) rfl (by kernel_rfl) (by kernel_rfl) (by kernel_rfl) (fun _ _ _ h => hpq _ _ _ _ _ h) (Or.inl ⟨by kernel_rfl, ?_⟩) (by assumption) ?_
  rotate_left 1
  · (intro w hSw; (try dsimp only at hSw); go_simp); first | done | (with_reducible rfl)
  try simp only [Act.put, List.setIfInBounds_toArray, List.set_cons_zero, List.set_cons_succ]
  refine wpAnyH_take (i := 38) (oi := { dst := some 366, op := Op.load 35 (Operand.tmp 365), type := 35, pos := ps, after := #[{ on := 37, ground := Ground.data }, { on := 34, ground := Ground.guard }], guard := some (34, true) }) (v := ?_) rfl (by kernel_rfl) (by kernel_rfl) (by kernel_rfl) (fun _ _ _ h => hpq _ _ _ _ _ h) (Or.inl ⟨by kernel_rfl, ?_⟩) (by assumption) ?_
  rotate_left 1
  · (intro w hSw; (try dsimp only at hSw); go_simp); first | done | (with_reducible rfl)
  try simp only [Act.put, List.setIfInBounds_toArray, List.set_cons_zero, List.set_cons_succ]
  refine wpAnyH_take (i := 40) (oi := { dst := some 368, op := Op.move (Operand.tmp 26), type := 3, pos := ps, after := #[{ on := 34, ground := Ground.guard }], guard := some (34, true) }) (v := ?_) rfl (by kernel_rfl) (by kernel_rfl) (by kernel_rfl) (fun _ _ _ h => hpq _ _ _ _ _ h) (Or.inl ⟨by kernel_rfl, ?_⟩) (by assumption) ?_
  rotate_left 1
  · (intro w hSw; (try dsimp only at hSw); go_simp); first | done | (with_reducible rfl)
  try simp only [Act.put, List.setIfInBounds_toArray, List.set_cons_zero, List.set_cons_succ]
  refine wpAnyH_ready (rs := [39]) (by kernel_rfl) (by simp) ?_
  refine AllReadyH.cons (o := { dst := some 367, op := Op.call { callee := Callee.value (Operand.func 27), args := #[Operand.tmp 366], argTypes := #[35] }, type := 3, pos := ps, after := #[{ on := 38, ground := Ground.data }, { on := 34, ground := Ground.chain }, { on := 34, ground := Ground.guard }], guard := some (34, true) }) rfl (fun K hK => ?_) AllReadyH.nil
  go_simp
  (go_at_call 27; refine (unhide ZS).mono ?_; rintro e w7 ⟨rfl, hb7⟩)
  go_wp2_with fail
  refine hK.out _ _ ?_ (fun hHeld => ?_)
  · exact unhide KJ _ hb7
  clear hK K
  try simp only [Act.put, List.setIfInBounds_toArray, List.set_cons_zero, List.set_cons_succ]
  refine wpAnyH_take (i := 41) (oi := { dst := some 369, op := Op.binOp BinOp.eql 3 (Operand.tmp 367) (Operand.tmp 368) 3, type := 4, pos := ps, after := #[{ on := 39, ground := Ground.data }, { on := 40, ground := Ground.data }, { on := 34, ground := Ground.guard }], guard := some (34, true) }) (v := ?_) rfl (by kernel_rfl) (by kernel_rfl) (by kernel_rfl) (fun _ _ _ h => hpq _ _ _ _ _ h) (Or.inl ⟨by kernel_rfl, ?_⟩) (by assumption) ?_
  rotate_left 1
  · (intro w hSw; (try dsimp only at hSw); go_simp); first | done | (with_reducible rfl)
  try simp only [Act.put, List.setIfInBounds_toArray, List.set_cons_zero, List.set_cons_succ]
  refine wpAnyH_take (i := 42) (oi := { dst := some 370, op := Op.pick (Operand.tmp 362) (Operand.tmp 369) (Operand.const (Value.bool false)), type := 4, pos := ps, after := #[{ on := 34, ground := Ground.data }, { on := 41, ground := Ground.data }], guard := none }) (v := ?_) rfl (by kernel_rfl) (by kernel_rfl) (by kernel_rfl) (fun _ _ _ h => hpq _ _ _ _ _ h) (Or.inl ⟨by kernel_rfl, ?_⟩) (by assumption) ?_
  rotate_left 1
  · (intro w hSw; (try dsimp only at hSw); go_simp); first | done | (with_reducible rfl)
  try simp only [Act.put, List.setIfInBounds_toArray, List.set_cons_zero, List.set_cons_succ]
  refine wpAnyH_take (i := 43) (oi := { dst := some 371, op := Op.move (Operand.tmp 370), type := 4, pos := ps, after := #[{ on := 42, ground := Ground.data }, { on := 39, ground := Ground.chain }], guard := none }) (v := ?_) rfl (by kernel_rfl) (by kernel_rfl) (by kernel_rfl) (fun _ _ _ h => hpq _ _ _ _ _ h) (Or.inl ⟨by kernel_rfl, ?_⟩) (by assumption) ?_
  rotate_left 1
  · (intro w hSw; (try dsimp only at hSw); go_simp); first | done | (with_reducible rfl)
  try simp only [Act.put, List.setIfInBounds_toArray, List.set_cons_zero, List.set_cons_succ]
  refine wpAnyH_take (i := 44) (oi := { dst := some 372, op := Op.move (Operand.tmp 24), type := 2, pos := ps, after := #[{ on := 43, ground := Ground.guard }], guard := some (43, true) }) (v := undef) rfl (by kernel_rfl) (by kernel_rfl) (by kernel_rfl) (fun _ _ _ h => hpq _ _ _ _ _ h) (Or.inr ⟨by kernel_rfl, rfl⟩) (by assumption) ?_
  try simp only [Act.put, List.setIfInBounds_toArray, List.set_cons_zero, List.set_cons_succ]
  refine wpAnyH_take (i := 45) (oi := { dst := some 373, op := Op.move (Operand.tmp 21), type := 2, pos := ps, after := #[{ on := 43, ground := Ground.guard }], guard := some (43, true) }) (v := undef) rfl (by kernel_rfl) (by kernel_rfl) (by kernel_rfl) (fun _ _ _ h => hpq _ _ _ _ _ h) (Or.inr ⟨by kernel_rfl, rfl⟩) (by assumption) ?_
  try simp only [Act.put, List.setIfInBounds_toArray, List.set_cons_zero, List.set_cons_succ]
  refine wpAnyH_take (i := 46) (oi := { dst := some 374, op := Op.binOp BinOp.gtr 2 (Operand.tmp 372) (Operand.tmp 373) 2, type := 4, pos := ps, after := #[{ on := 44, ground := Ground.data }, { on := 45, ground := Ground.data }, { on := 43, ground := Ground.guard }], guard := some (43, true) }) (v := undef) rfl (by kernel_rfl) (by kernel_rfl) (by kernel_rfl) (fun _ _ _ h => hpq _ _ _ _ _ h) (Or.inr ⟨by kernel_rfl, rfl⟩) (by assumption) ?_
  try simp only [Act.put, List.setIfInBounds_toArray, List.set_cons_zero, List.set_cons_succ]
  refine wpAnyH_take (i := 47) (oi := { dst := some 375, op := Op.pick (Operand.tmp 371) (Operand.tmp 374) (Operand.const (Value.bool false)), type := 4, pos := ps, after := #[{ on := 43, ground := Ground.data }, { on := 46, ground := Ground.data }], guard := none }) (v := ?_) rfl (by kernel_rfl) (by kernel_rfl) (by kernel_rfl) (fun _ _ _ h => hpq _ _ _ _ _ h) (Or.inl ⟨by kernel_rfl, ?_⟩) (by assumption) ?_
  rotate_left 1
  · (intro w hSw; (try dsimp only at hSw); go_simp); first | done | (with_reducible rfl)
  try simp only [Act.put, List.setIfInBounds_toArray, List.set_cons_zero, List.set_cons_succ]
  refine wpAnyH_done (by kernel_rfl) ?_ _
  exact hQ _ hb7 _ _ _ _ _ _ _ _ _ _ _ _ _ _ _ _ _ _ _ _ _ _ _ _ _ _ _ _ _ _ _ _ _ _ _ _ _ _ _ _ _ _ _ _ _ _ _ 

set_option maxRecDepth 100000 in
set_option maxHeartbeats 4000000 in
theorem r256_hit {id : Nat} {ps : String} (wr : World) (b o n cap wb i j sN : Nat) (rem T cc sv : Int) (H : Nat → VH) {u1 u2 u3 u4 u5 u6 u7 u8 u9 u10 u11 u12 u13 u14 u15 u16 u17 u18 u20 u22 u25 u28 u29 u30 u31 u32 u33 u34 u35 u36 u37 u38 u39 u40 u41 u42 u43 u44 u45 u46 u47 u48 u49 u50 u51 u52 u53 u54 u55 u56 u57 u58 u59 u60 u61 u62 u63 u64 u65 u66 u67 u68 u69 u70 u71 u72 u73 u74 u75 u76 u77 u78 u79 u80 u81 u82 u83 u84 u85 u86 u87 u88 u89 u90 u91 u92 u93 u94 u95 u96 u97 u98 u99 u100 u101 u102 u103 u104 u105 u106 u107 u108 u109 u110 u111 u112 u113 u114 u115 u116 u117 u118 u119 u120 u121 u122 u123 u124 u125 u126 u127 u128 u129 u130 u131 u132 u133 u134 u135 u136 u137 u138 u139 u140 u141 u142 u143 u144 u145 u146 u147 u148 u149 u150 u151 u152 u153 u154 u155 u156 u157 u158 u159 u160 u161 u162 u163 u164 u165 u166 u167 u168 u169 u170 u171 u172 u173 u174 u175 u176 u177 u178 u179 u180 u181 u182 u183 u184 u185 u186 u187 u188 u189 u190 u191 u192 u193 u194 u195 u196 u197 u198 u199 u200 u201 u202 u203 u204 u205 u206 u207 u208 u209 u210 u211 u212 u213 u214 u215 u216 u217 u218 u219 u220 u221 u222 u223 u224 u225 u226 u227 u228 u229 u230 u231 u232 u233 u234 u235 u236 u237 u238 u239 u240 u241 u242 u243 u244 u245 u246 u247 u248 u249 u250 u251 u252 u253 u254 u255 u256 u257 u258 u259 u260 u261 u262 u263 u264 u265 u266 u267 u268 u269 u270 u271 u272 u273 u274 u275 u276 u277 u278 u279 u280 u281 u282 u283 u284 u285 u286 u287 u288 u289 u290 u291 u292 u293 u294 u295 u296 u297 u298 u299 u300 u301 u302 u303 u304 u305 u306 u307 u308 u309 u310 u311 u312 u313 u314 u315 u316 u317 u318 u319 u320 u321 u322 u323 u324 u325 u326 u327 x328 x329 x330 x331 x332 x333 x334 x335 x336 x337 x338 x339 x340 x341 x342 x343 x344 x345 x346 x347 x348 x349 x350 x351 x352 x353 x354 x355 x356 x357 x358 x359 x360 x361 x362 x363 x364 x365 x366 x367 x368 x369 x370 x371 x372 x373 x374 x375 x376 x377 x378 x379 x380 x381 x382 x383 x384 x385 x386 x387 x388 x389 x390 x391 x392 x393 x394 x395 x396 x397 x398 x399 x400 : Value} (Q : Exit → Act → World → Prop) (hpq : ∀ (c : _) (a : Act) (d : Option Tmp) (v : Value) (w : World), Q (.panic c) (a.put d v) w → Q (.panic c) a w) (lj : j < n) (li : i < n) (hn : n ≤ 1024)
    (e3 : ((H j).client.toList == (H i).client.toList) = true) (hz : 0 < cc) (hse : (sv == (sN : Int)) = true) (hrt : T < rem)
    (KJ : Hid (∀ (w5 : World), Below wr.drew.heap.size wr.drew w5 → Reads w5 b o wb i j cc H))
    (ZS : Hid (Calls Try.prog 27 #[.agg #[.string (H j).client, .int .i64 cc, .int .i64 (H j).st, .bool (H j).yields, .bool false]] wr.drew fun e w' => e = .returned (.int .i64 sv) ∧ Below wr.drew.heap.size wr.drew w'))
    (hQ : ∀ (w7 : World), Below wr.drew.heap.size wr.drew w7 → ∀ (v328 v329 v330 v331 v332 v333 v334 v335 v336 v337 v338 v339 v340 v341 v342 v343 v344 v345 v346 v347 v348 v349 v350 v351 v352 v353 v354 v355 v356 v357 v358 v359 v360 v361 v362 v363 v364 v365 v366 v367 v368 v369 v370 v371 v372 v373 v374 : Value), Q .normal { tmps := List.toArray (.slice (some ⟨b, o, none⟩) n cap :: u1 :: u2 :: u3 :: u4 :: u5 :: u6 :: u7 :: u8 :: u9 :: u10 :: u11 :: u12 :: u13 :: u14 :: u15 :: u16 :: u17 :: u18 :: .slice (some ⟨wb, 0, none⟩) n n :: u20 :: .int .i64 T :: u22 :: .int .i64 (i : Nat) :: .int .i64 rem :: u25 :: .int .i64 (sN : Nat) :: .int .i64 (j : Nat) :: u28 :: u29 :: u30 :: u31 :: u32 :: u33 :: u34 :: u35 :: u36 :: u37 :: u38 :: u39 :: u40 :: u41 :: u42 :: u43 :: u44 :: u45 :: u46 :: u47 :: u48 :: u49 :: u50 :: u51 :: u52 :: u53 :: u54 :: u55 :: u56 :: u57 :: u58 :: u59 :: u60 :: u61 :: u62 :: u63 :: u64 :: u65 :: u66 :: u67 :: u68 :: u69 :: u70 :: u71 :: u72 :: u73 :: u74 :: u75 :: u76 :: u77 :: u78 :: u79 :: u80 :: u81 :: u82 :: u83 :: u84 :: u85 :: u86 :: u87 :: u88 :: u89 :: u90 :: u91 :: u92 :: u93 :: u94 :: u95 :: u96 :: u97 :: u98 :: u99 :: u100 :: u101 :: u102 :: u103 :: u104 :: u105 :: u106 :: u107 :: u108 :: u109 :: u110 :: u111 :: u112 :: u113 :: u114 :: u115 :: u116 :: u117 :: u118 :: u119 :: u120 :: u121 :: u122 :: u123 :: u124 :: u125 :: u126 :: u127 :: u128 :: u129 :: u130 :: u131 :: u132 :: u133 :: u134 :: u135 :: u136 :: u137 :: u138 :: u139 :: u140 :: u141 :: u142 :: u143 :: u144 :: u145 :: u146 :: u147 :: u148 :: u149 :: u150 :: u151 :: u152 :: u153 :: u154 :: u155 :: u156 :: u157 :: u158 :: u159 :: u160 :: u161 :: u162 :: u163 :: u164 :: u165 :: u166 :: u167 :: u168 :: u169 :: u170 :: u171 :: u172 :: u173 :: u174 :: u175 :: u176 :: u177 :: u178 :: u179 :: u180 :: u181 :: u182 :: u183 :: u184 :: u185 :: u186 :: u187 :: u188 :: u189 :: u190 :: u191 :: u192 :: u193 :: u194 :: u195 :: u196 :: u197 :: u198 :: u199 :: u200 :: u201 :: u202 :: u203 :: u204 :: u205 :: u206 :: u207 :: u208 :: u209 :: u210 :: u211 :: u212 :: u213 :: u214 :: u215 :: u216 :: u217 :: u218 :: u219 :: u220 :: u221 :: u222 :: u223 :: u224 :: u225 :: u226 :: u227 :: u228 :: u229 :: u230 :: u231 :: u232 :: u233 :: u234 :: u235 :: u236 :: u237 :: u238 :: u239 :: u240 :: u241 :: u242 :: u243 :: u244 :: u245 :: u246 :: u247 :: u248 :: u249 :: u250 :: u251 :: u252 :: u253 :: u254 :: u255 :: u256 :: u257 :: u258 :: u259 :: u260 :: u261 :: u262 :: u263 :: u264 :: u265 :: u266 :: u267 :: u268 :: u269 :: u270 :: u271 :: u272 :: u273 :: u274 :: u275 :: u276 :: u277 :: u278 :: u279 :: u280 :: u281 :: u282 :: u283 :: u284 :: u285 :: u286 :: u287 :: u288 :: u289 :: u290 :: u291 :: u292 :: u293 :: u294 :: u295 :: u296 :: u297 :: u298 :: u299 :: u300 :: u301 :: u302 :: u303 :: u304 :: u305 :: u306 :: u307 :: u308 :: u309 :: u310 :: u311 :: u312 :: u313 :: u314 :: u315 :: u316 :: u317 :: u318 :: u319 :: u320 :: u321 :: u322 :: u323 :: u324 :: u325 :: u326 :: u327 :: v328 :: v329 :: v330 :: v331 :: v332 :: v333 :: v334 :: v335 :: v336 :: v337 :: v338 :: v339 :: v340 :: v341 :: v342 :: v343 :: v344 :: v345 :: v346 :: v347 :: v348 :: v349 :: v350 :: v351 :: v352 :: v353 :: v354 :: v355 :: v356 :: v357 :: v358 :: v359 :: v360 :: v361 :: v362 :: v363 :: v364 :: v365 :: v366 :: v367 :: v368 :: v369 :: v370 :: v371 :: v372 :: v373 :: v374 :: .bool true :: x376 :: x377 :: x378 :: x379 :: x380 :: x381 :: x382 :: x383 :: x384 :: x385 :: x386 :: x387 :: x388 :: x389 :: x390 :: x391 :: x392 :: x393 :: x394 :: x395 :: x396 :: x397 :: x398 :: x399 :: x400 :: []), defers := [] } w7) :
    Code.wp Try.prog (Code.region id (List.toArray ({ dst := some 328, op := Op.move (Operand.tmp 0), type := 32, pos := ps, after := #[], guard := none } ::
      { dst := some 329, op := Op.move (Operand.tmp 27), type := 3, pos := ps, after := #[], guard := none } ::
      { dst := some 330, op := Op.indexAddr 32 (Operand.tmp 328) (Operand.tmp 329), type := 0, pos := ps, after := #[{ on := 0, ground := Ground.data }, { on := 1, ground := Ground.data }], guard := none } ::
      { dst := some 331, op := Op.fieldAddr 35 (Operand.tmp 330) 0, type := 0, pos := ps, after := #[{ on := 2, ground := Ground.data }], guard := none } ::
      { dst := some 332, op := Op.load 9 (Operand.tmp 331), type := 9, pos := ps, after := #[{ on := 3, ground := Ground.data }], guard := none } ::
      { dst := some 333, op := Op.move (Operand.tmp 0), type := 32, pos := ps, after := #[], guard := none } ::
      { dst := some 334, op := Op.move (Operand.tmp 23), type := 3, pos := ps, after := #[], guard := none } ::
      { dst := some 335, op := Op.indexAddr 32 (Operand.tmp 333) (Operand.tmp 334), type := 0, pos := ps, after := #[{ on := 5, ground := Ground.data }, { on := 6, ground := Ground.data }], guard := none } ::
      { dst := some 336, op := Op.fieldAddr 35 (Operand.tmp 335) 0, type := 0, pos := ps, after := #[{ on := 7, ground := Ground.data }], guard := none } ::
      { dst := some 337, op := Op.load 9 (Operand.tmp 336), type := 9, pos := ps, after := #[{ on := 8, ground := Ground.data }], guard := none } ::
      { dst := some 338, op := Op.binOp BinOp.eql 9 (Operand.tmp 332) (Operand.tmp 337) 9, type := 4, pos := ps, after := #[{ on := 4, ground := Ground.data }, { on := 9, ground := Ground.data }], guard := none } ::
      { dst := some 339, op := Op.move (Operand.tmp 338), type := 4, pos := ps, after := #[{ on := 10, ground := Ground.data }], guard := none } ::
      { dst := some 340, op := Op.move (Operand.tmp 19), type := 43, pos := ps, after := #[{ on := 11, ground := Ground.guard }], guard := some (11, true) } ::
      { dst := some 341, op := Op.move (Operand.tmp 27), type := 3, pos := ps, after := #[{ on := 11, ground := Ground.guard }], guard := some (11, true) } ::
      { dst := some 342, op := Op.indexAddr 43 (Operand.tmp 340) (Operand.tmp 341), type := 0, pos := ps, after := #[{ on := 12, ground := Ground.data }, { on := 13, ground := Ground.data }, { on := 11, ground := Ground.guard }], guard := some (11, true) } ::
      { dst := some 343, op := Op.load 4 (Operand.tmp 342), type := 4, pos := ps, after := #[{ on := 14, ground := Ground.data }, { on := 11, ground := Ground.guard }], guard := some (11, true) } ::
      { dst := some 344, op := Op.unOp UnOp.not 4 (Operand.tmp 343), type := 4, pos := ps, after := #[{ on := 15, ground := Ground.data }, { on := 11, ground := Ground.guard }], guard := some (11, true) } ::
      { dst := some 345, op := Op.pick (Operand.tmp 339) (Operand.tmp 344) (Operand.const (Value.bool false)), type := 4, pos := ps, after := #[{ on := 11, ground := Ground.data }, { on := 16, ground := Ground.data }], guard := none } ::
      { dst := some 346, op := Op.move (Operand.tmp 345), type := 4, pos := ps, after := #[{ on := 17, ground := Ground.data }, { on := 11, ground := Ground.chain }], guard := none } ::
      { dst := some 347, op := Op.move (Operand.tmp 0), type := 32, pos := ps, after := #[{ on := 18, ground := Ground.guard }], guard := some (18, true) } ::
      { dst := some 348, op := Op.move (Operand.tmp 27), type := 3, pos := ps, after := #[{ on := 18, ground := Ground.guard }], guard := some (18, true) } ::
      { dst := some 349, op := Op.indexAddr 32 (Operand.tmp 347) (Operand.tmp 348), type := 0, pos := ps, after := #[{ on := 19, ground := Ground.data }, { on := 20, ground := Ground.data }, { on := 18, ground := Ground.guard }], guard := some (18, true) } ::
      { dst := some 350, op := Op.fieldAddr 35 (Operand.tmp 349) 4, type := 0, pos := ps, after := #[{ on := 21, ground := Ground.data }, { on := 18, ground := Ground.guard }], guard := some (18, true) } ::
      { dst := some 351, op := Op.load 4 (Operand.tmp 350), type := 4, pos := ps, after := #[{ on := 22, ground := Ground.data }, { on := 18, ground := Ground.guard }], guard := some (18, true) } ::
      { dst := some 352, op := Op.unOp UnOp.not 4 (Operand.tmp 351), type := 4, pos := ps, after := #[{ on := 23, ground := Ground.data }, { on := 18, ground := Ground.guard }], guard := some (18, true) } ::
      { dst := some 353, op := Op.pick (Operand.tmp 346) (Operand.tmp 352) (Operand.const (Value.bool false)), type := 4, pos := ps, after := #[{ on := 18, ground := Ground.data }, { on := 24, ground := Ground.data }], guard := none } ::
      { dst := some 354, op := Op.move (Operand.tmp 353), type := 4, pos := ps, after := #[{ on := 25, ground := Ground.data }, { on := 18, ground := Ground.chain }], guard := none } ::
      { dst := some 355, op := Op.move (Operand.tmp 0), type := 32, pos := ps, after := #[{ on := 26, ground := Ground.guard }], guard := some (26, true) } ::
      { dst := some 356, op := Op.move (Operand.tmp 27), type := 3, pos := ps, after := #[{ on := 26, ground := Ground.guard }], guard := some (26, true) } ::
      { dst := some 357, op := Op.indexAddr 32 (Operand.tmp 355) (Operand.tmp 356), type := 0, pos := ps, after := #[{ on := 27, ground := Ground.data }, { on := 28, ground := Ground.data }, { on := 26, ground := Ground.guard }], guard := some (26, true) } ::
      { dst := some 358, op := Op.fieldAddr 35 (Operand.tmp 357) 1, type := 0, pos := ps, after := #[{ on := 29, ground := Ground.data }, { on := 26, ground := Ground.guard }], guard := some (26, true) } ::
      { dst := some 359, op := Op.load 2 (Operand.tmp 358), type := 2, pos := ps, after := #[{ on := 30, ground := Ground.data }, { on := 26, ground := Ground.guard }], guard := some (26, true) } ::
      { dst := some 360, op := Op.binOp BinOp.gtr 2 (Operand.tmp 359) (Operand.const (Value.int IntKind.i64 0)) 2, type := 4, pos := ps, after := #[{ on := 31, ground := Ground.data }, { on := 26, ground := Ground.guard }], guard := some (26, true) } ::
      { dst := some 361, op := Op.pick (Operand.tmp 354) (Operand.tmp 360) (Operand.const (Value.bool false)), type := 4, pos := ps, after := #[{ on := 26, ground := Ground.data }, { on := 32, ground := Ground.data }], guard := none } ::
      { dst := some 362, op := Op.move (Operand.tmp 361), type := 4, pos := ps, after := #[{ on := 33, ground := Ground.data }, { on := 26, ground := Ground.chain }], guard := none } ::
      { dst := some 363, op := Op.move (Operand.tmp 0), type := 32, pos := ps, after := #[{ on := 34, ground := Ground.guard }], guard := some (34, true) } ::
      { dst := some 364, op := Op.move (Operand.tmp 27), type := 3, pos := ps, after := #[{ on := 34, ground := Ground.guard }], guard := some (34, true) } ::
      { dst := some 365, op := Op.indexAddr 32 (Operand.tmp 363) (Operand.tmp 364), type := 0, pos := ps, after := #[{ on := 35, ground := Ground.data }, { on := 36, ground := Ground.data }, { on := 34, ground := Ground.guard }], guard := some (34, true) } ::
      { dst := some 366, op := Op.load 35 (Operand.tmp 365), type := 35, pos := ps, after := #[{ on := 37, ground := Ground.data }, { on := 34, ground := Ground.guard }], guard := some (34, true) } ::
      { dst := some 367, op := Op.call { callee := Callee.value (Operand.func 27), args := #[Operand.tmp 366], argTypes := #[35] }, type := 3, pos := ps, after := #[{ on := 38, ground := Ground.data }, { on := 34, ground := Ground.chain }, { on := 34, ground := Ground.guard }], guard := some (34, true) } ::
      { dst := some 368, op := Op.move (Operand.tmp 26), type := 3, pos := ps, after := #[{ on := 34, ground := Ground.guard }], guard := some (34, true) } ::
      { dst := some 369, op := Op.binOp BinOp.eql 3 (Operand.tmp 367) (Operand.tmp 368) 3, type := 4, pos := ps, after := #[{ on := 39, ground := Ground.data }, { on := 40, ground := Ground.data }, { on := 34, ground := Ground.guard }], guard := some (34, true) } ::
      { dst := some 370, op := Op.pick (Operand.tmp 362) (Operand.tmp 369) (Operand.const (Value.bool false)), type := 4, pos := ps, after := #[{ on := 34, ground := Ground.data }, { on := 41, ground := Ground.data }], guard := none } ::
      { dst := some 371, op := Op.move (Operand.tmp 370), type := 4, pos := ps, after := #[{ on := 42, ground := Ground.data }, { on := 39, ground := Ground.chain }], guard := none } ::
      { dst := some 372, op := Op.move (Operand.tmp 24), type := 2, pos := ps, after := #[{ on := 43, ground := Ground.guard }], guard := some (43, true) } ::
      { dst := some 373, op := Op.move (Operand.tmp 21), type := 2, pos := ps, after := #[{ on := 43, ground := Ground.guard }], guard := some (43, true) } ::
      { dst := some 374, op := Op.binOp BinOp.gtr 2 (Operand.tmp 372) (Operand.tmp 373) 2, type := 4, pos := ps, after := #[{ on := 44, ground := Ground.data }, { on := 45, ground := Ground.data }, { on := 43, ground := Ground.guard }], guard := some (43, true) } ::
      { dst := some 375, op := Op.pick (Operand.tmp 371) (Operand.tmp 374) (Operand.const (Value.bool false)), type := 4, pos := ps, after := #[{ on := 43, ground := Ground.data }, { on := 46, ground := Ground.data }], guard := none } :: [])) true) Q { tmps := List.toArray (.slice (some ⟨b, o, none⟩) n cap :: u1 :: u2 :: u3 :: u4 :: u5 :: u6 :: u7 :: u8 :: u9 :: u10 :: u11 :: u12 :: u13 :: u14 :: u15 :: u16 :: u17 :: u18 :: .slice (some ⟨wb, 0, none⟩) n n :: u20 :: .int .i64 T :: u22 :: .int .i64 (i : Nat) :: .int .i64 rem :: u25 :: .int .i64 (sN : Nat) :: .int .i64 (j : Nat) :: u28 :: u29 :: u30 :: u31 :: u32 :: u33 :: u34 :: u35 :: u36 :: u37 :: u38 :: u39 :: u40 :: u41 :: u42 :: u43 :: u44 :: u45 :: u46 :: u47 :: u48 :: u49 :: u50 :: u51 :: u52 :: u53 :: u54 :: u55 :: u56 :: u57 :: u58 :: u59 :: u60 :: u61 :: u62 :: u63 :: u64 :: u65 :: u66 :: u67 :: u68 :: u69 :: u70 :: u71 :: u72 :: u73 :: u74 :: u75 :: u76 :: u77 :: u78 :: u79 :: u80 :: u81 :: u82 :: u83 :: u84 :: u85 :: u86 :: u87 :: u88 :: u89 :: u90 :: u91 :: u92 :: u93 :: u94 :: u95 :: u96 :: u97 :: u98 :: u99 :: u100 :: u101 :: u102 :: u103 :: u104 :: u105 :: u106 :: u107 :: u108 :: u109 :: u110 :: u111 :: u112 :: u113 :: u114 :: u115 :: u116 :: u117 :: u118 :: u119 :: u120 :: u121 :: u122 :: u123 :: u124 :: u125 :: u126 :: u127 :: u128 :: u129 :: u130 :: u131 :: u132 :: u133 :: u134 :: u135 :: u136 :: u137 :: u138 :: u139 :: u140 :: u141 :: u142 :: u143 :: u144 :: u145 :: u146 :: u147 :: u148 :: u149 :: u150 :: u151 :: u152 :: u153 :: u154 :: u155 :: u156 :: u157 :: u158 :: u159 :: u160 :: u161 :: u162 :: u163 :: u164 :: u165 :: u166 :: u167 :: u168 :: u169 :: u170 :: u171 :: u172 :: u173 :: u174 :: u175 :: u176 :: u177 :: u178 :: u179 :: u180 :: u181 :: u182 :: u183 :: u184 :: u185 :: u186 :: u187 :: u188 :: u189 :: u190 :: u191 :: u192 :: u193 :: u194 :: u195 :: u196 :: u197 :: u198 :: u199 :: u200 :: u201 :: u202 :: u203 :: u204 :: u205 :: u206 :: u207 :: u208 :: u209 :: u210 :: u211 :: u212 :: u213 :: u214 :: u215 :: u216 :: u217 :: u218 :: u219 :: u220 :: u221 :: u222 :: u223 :: u224 :: u225 :: u226 :: u227 :: u228 :: u229 :: u230 :: u231 :: u232 :: u233 :: u234 :: u235 :: u236 :: u237 :: u238 :: u239 :: u240 :: u241 :: u242 :: u243 :: u244 :: u245 :: u246 :: u247 :: u248 :: u249 :: u250 :: u251 :: u252 :: u253 :: u254 :: u255 :: u256 :: u257 :: u258 :: u259 :: u260 :: u261 :: u262 :: u263 :: u264 :: u265 :: u266 :: u267 :: u268 :: u269 :: u270 :: u271 :: u272 :: u273 :: u274 :: u275 :: u276 :: u277 :: u278 :: u279 :: u280 :: u281 :: u282 :: u283 :: u284 :: u285 :: u286 :: u287 :: u288 :: u289 :: u290 :: u291 :: u292 :: u293 :: u294 :: u295 :: u296 :: u297 :: u298 :: u299 :: u300 :: u301 :: u302 :: u303 :: u304 :: u305 :: u306 :: u307 :: u308 :: u309 :: u310 :: u311 :: u312 :: u313 :: u314 :: u315 :: u316 :: u317 :: u318 :: u319 :: u320 :: u321 :: u322 :: u323 :: u324 :: u325 :: u326 :: u327 :: x328 :: x329 :: x330 :: x331 :: x332 :: x333 :: x334 :: x335 :: x336 :: x337 :: x338 :: x339 :: x340 :: x341 :: x342 :: x343 :: x344 :: x345 :: x346 :: x347 :: x348 :: x349 :: x350 :: x351 :: x352 :: x353 :: x354 :: x355 :: x356 :: x357 :: x358 :: x359 :: x360 :: x361 :: x362 :: x363 :: x364 :: x365 :: x366 :: x367 :: x368 :: x369 :: x370 :: x371 :: x372 :: x373 :: x374 :: x375 :: x376 :: x377 :: x378 :: x379 :: x380 :: x381 :: x382 :: x383 :: x384 :: x385 :: x386 :: x387 :: x388 :: x389 :: x390 :: x391 :: x392 :: x393 :: x394 :: x395 :: x396 :: x397 :: x398 :: x399 :: x400 :: []), defers := [] } wr := by
  have hS0 : Reads wr.drew b o wb i j cc H := unhide KJ _ (Below.refl _ _)
  refine wp_region_held_drew (S := fun w5 => w5.cell? ⟨b, o + j * 5, none⟩ = some (.string (H j).client) ∧ w5.cell? ⟨b, o + i * 5, none⟩ = some (.string (H i).client) ∧ w5.cell? ⟨wb, j, none⟩ = some (.bool false) ∧ w5.cell? ⟨b, o + j * 5 + 1, none⟩ = some (.int .i64 cc) ∧ w5.cell? ⟨b, o + j * 5 + 2, none⟩ = some (.int .i64 (H j).st) ∧ w5.cell? ⟨b, o + j * 5 + 3, none⟩ = some (.bool (H j).yields) ∧ w5.cell? ⟨b, o + j * 5 + 4, none⟩ = some (.bool false)) (by kernel_rfl) hS0 (fun hHeld => ?_)
  refine wpAnyH_take (i := 0) (oi := { dst := some 328, op := Op.move (Operand.tmp 0), type := 32, pos := ps, after := #[], guard := none }) (v := ?_) rfl (by kernel_rfl) (by kernel_rfl) (by kernel_rfl) (fun _ _ _ h => hpq _ _ _ _ _ h) (Or.inl ⟨by kernel_rfl, ?_⟩) (by assumption) ?_
  rotate_left 1
  · (intro w hSw; (try dsimp only at hSw); go_simp); first | done | (with_reducible rfl)
  try simp only [Act.put, List.setIfInBounds_toArray, List.set_cons_zero, List.set_cons_succ]
  refine wpAnyH_take (i := 1) (oi := { dst := some 329, op := Op.move (Operand.tmp 27), type := 3, pos := ps, after := #[], guard := none }) (v := ?_) rfl (by kernel_rfl) (by kernel_rfl) (by kernel_rfl) (fun _ _ _ h => hpq _ _ _ _ _ h) (Or.inl ⟨by kernel_rfl, ?_⟩) (by assumption) ?_
  rotate_left 1
  · (intro w hSw; (try dsimp only at hSw); go_simp); first | done | (with_reducible rfl)
  try simp only [Act.put, List.setIfInBounds_toArray, List.set_cons_zero, List.set_cons_succ]
  refine wpAnyH_take (i := 2) (oi := { dst := some 330, op := Op.indexAddr 32 (Operand.tmp 328) (Operand.tmp 329), type := 0, pos := ps, after := #[{ on := 0, ground := Ground.data }, { on := 1, ground := Ground.data }], guard := none }) (v := ?_) rfl (by kernel_rfl) (by kernel_rfl) (by kernel_rfl) (fun _ _ _ h => hpq _ _ _ _ _ h) (Or.inl ⟨by kernel_rfl, ?_⟩) (by assumption) ?_
  rotate_left 1
  · (intro w hSw; (try dsimp only at hSw); go_simp); first | done | (with_reducible rfl)
  try simp only [Act.put, List.setIfInBounds_toArray, List.set_cons_zero, List.set_cons_succ]
  refine wpAnyH_take (i := 3) (oi := { dst := some 331, op := Op.fieldAddr 35 (Operand.tmp 330) 0, type := 0, pos := ps, after := #[{ on := 2, ground := Ground.data }], guard := none }) (v := ?_) rfl (by kernel_rfl) (by kernel_rfl) (by kernel_rfl) (fun _ _ _ h => hpq _ _ _ _ _ h) (Or.inl ⟨by kernel_rfl, ?_⟩) (by assumption) ?_
  rotate_left 1
  · (intro w hSw; (try dsimp only at hSw); go_simp); first | done | (with_reducible rfl)
  try simp only [Act.put, List.setIfInBounds_toArray, List.set_cons_zero, List.set_cons_succ]
  refine wpAnyH_take (i := 4) (oi := { dst := some 332, op := Op.load 9 (Operand.tmp 331), type := 9, pos := ps, after := #[{ on := 3, ground := Ground.data }], guard := none }) (v := ?_) rfl (by kernel_rfl) (by kernel_rfl) (by kernel_rfl) (fun _ _ _ h => hpq _ _ _ _ _ h) (Or.inl ⟨by kernel_rfl, ?_⟩) (by assumption) ?_
  rotate_left 1
  · (intro w hSw; (try dsimp only at hSw); go_simp); first | done | (with_reducible rfl)
  try simp only [Act.put, List.setIfInBounds_toArray, List.set_cons_zero, List.set_cons_succ]
  refine wpAnyH_take (i := 5) (oi := { dst := some 333, op := Op.move (Operand.tmp 0), type := 32, pos := ps, after := #[], guard := none }) (v := ?_) rfl (by kernel_rfl) (by kernel_rfl) (by kernel_rfl) (fun _ _ _ h => hpq _ _ _ _ _ h) (Or.inl ⟨by kernel_rfl, ?_⟩) (by assumption) ?_
  rotate_left 1
  · (intro w hSw; (try dsimp only at hSw); go_simp); first | done | (with_reducible rfl)
  try simp only [Act.put, List.setIfInBounds_toArray, List.set_cons_zero, List.set_cons_succ]
  refine wpAnyH_take (i := 6) (oi := { dst := some 334, op := Op.move (Operand.tmp 23), type := 3, pos := ps, after := #[], guard := none }) (v := ?_) rfl (by kernel_rfl) (by kernel_rfl) (by kernel_rfl) (fun _ _ _ h => hpq _ _ _ _ _ h) (Or.inl ⟨by kernel_rfl, ?_⟩) (by assumption) ?_
  rotate_left 1
  · (intro w hSw; (try dsimp only at hSw); go_simp); first | done | (with_reducible rfl)
  try simp only [Act.put, List.setIfInBounds_toArray, List.set_cons_zero, List.set_cons_succ]
  refine wpAnyH_take (i := 7) (oi := { dst := some 335, op := Op.indexAddr 32 (Operand.tmp 333) (Operand.tmp 334), type := 0, pos := ps, after := #[{ on := 5, ground := Ground.data }, { on := 6, ground := Ground.data }], guard := none }) (v := ?_) rfl (by kernel_rfl) (by kernel_rfl) (by kernel_rfl) (fun _ _ _ h => hpq _ _ _ _ _ h) (Or.inl ⟨by kernel_rfl, ?_⟩) (by assumption) ?_
  rotate_left 1
  · (intro w hSw; (try dsimp only at hSw); go_simp); first | done | (with_reducible rfl)
  try simp only [Act.put, List.setIfInBounds_toArray, List.set_cons_zero, List.set_cons_succ]
  refine wpAnyH_take (i := 8) (oi := { dst := some 336, op := Op.fieldAddr 35 (Operand.tmp 335) 0, type := 0, pos := ps, after := #[{ on := 7, ground := Ground.data }], guard := none }) (v := ?_) rfl (by kernel_rfl) (by kernel_rfl) (by kernel_rfl) (fun _ _ _ h => hpq _ _ _ _ _ h) (Or.inl ⟨by kernel_rfl, ?_⟩) (by assumption) ?_
  rotate_left 1
  · (intro w hSw; (try dsimp only at hSw); go_simp); first | done | (with_reducible rfl)
  try simp only [Act.put, List.setIfInBounds_toArray, List.set_cons_zero, List.set_cons_succ]
  refine wpAnyH_take (i := 9) (oi := { dst := some 337, op := Op.load 9 (Operand.tmp 336), type := 9, pos := ps, after := #[{ on := 8, ground := Ground.data }], guard := none }) (v := ?_) rfl (by kernel_rfl) (by kernel_rfl) (by kernel_rfl) (fun _ _ _ h => hpq _ _ _ _ _ h) (Or.inl ⟨by kernel_rfl, ?_⟩) (by assumption) ?_
  rotate_left 1
  · (intro w hSw; (try dsimp only at hSw); go_simp); first | done | (with_reducible rfl)
  try simp only [Act.put, List.setIfInBounds_toArray, List.set_cons_zero, List.set_cons_succ]
  refine wpAnyH_take (i := 10) (oi := { dst := some 338, op := Op.binOp BinOp.eql 9 (Operand.tmp 332) (Operand.tmp 337) 9, type := 4, pos := ps, after := #[{ on := 4, ground := Ground.data }, { on := 9, ground := Ground.data }], guard := none }) (v := ?_) rfl (by kernel_rfl) (by kernel_rfl) (by kernel_rfl) (fun _ _ _ h => hpq _ _ _ _ _ h) (Or.inl ⟨by kernel_rfl, ?_⟩) (by assumption) ?_
  rotate_left 1
  · (intro w hSw; (try dsimp only at hSw); go_simp); first | done | (with_reducible rfl)
  try simp only [Act.put, List.setIfInBounds_toArray, List.set_cons_zero, List.set_cons_succ]
  refine wpAnyH_take (i := 11) (oi := { dst := some 339, op := Op.move (Operand.tmp 338), type := 4, pos := ps, after := #[{ on := 10, ground := Ground.data }], guard := none }) (v := ?_) rfl (by kernel_rfl) (by kernel_rfl) (by kernel_rfl) (fun _ _ _ h => hpq _ _ _ _ _ h) (Or.inl ⟨by kernel_rfl, ?_⟩) (by assumption) ?_
  rotate_left 1
  · (intro w hSw; (try dsimp only at hSw); go_simp); first | done | (with_reducible rfl)
  try simp only [Act.put, List.setIfInBounds_toArray, List.set_cons_zero, List.set_cons_succ]
  refine wpAnyH_take (i := 12) (oi := { dst := some 340, op := Op.move (Operand.tmp 19), type := 43, pos := ps, after := #[{ on := 11, ground := Ground.guard }], guard := some (11, true) }) (v := ?_) rfl (by kernel_rfl) (by kernel_rfl) (by kernel_rfl) (fun _ _ _ h => hpq _ _ _ _ _ h) (Or.inl ⟨by kernel_rfl, ?_⟩) (by assumption) ?_
  rotate_left 1
  · (intro w hSw; (try dsimp only at hSw); go_simp); first | done | (with_reducible rfl)
  try simp only [Act.put, List.setIfInBounds_toArray, List.set_cons_zero, List.set_cons_succ]
  refine wpAnyH_take (i := 13) (oi := { dst := some 341, op := Op.move (Operand.tmp 27), type := 3, pos := ps, after := #[{ on := 11, ground := Ground.guard }], guard := some (11, true) }) (v := ?_) rfl (by kernel_rfl) (by kernel_rfl) (by kernel_rfl) (fun _ _ _ h => hpq _ _ _ _ _ h) (Or.inl ⟨by kernel_rfl, ?_⟩) (by assumption) ?_
  rotate_left 1
  · (intro w hSw; (try dsimp only at hSw); go_simp); first | done | (with_reducible rfl)
  try simp only [Act.put, List.setIfInBounds_toArray, List.set_cons_zero, List.set_cons_succ]
  refine wpAnyH_take (i := 14) (oi := { dst := some 342, op := Op.indexAddr 43 (Operand.tmp 340) (Operand.tmp 341), type := 0, pos := ps, after := #[{ on := 12, ground := Ground.data }, { on := 13, ground := Ground.data }, { on := 11, ground := Ground.guard }], guard := some (11, true) }) (v := ?_) rfl (by kernel_rfl) (by kernel_rfl) (by kernel_rfl) (fun _ _ _ h => hpq _ _ _ _ _ h) (Or.inl ⟨by kernel_rfl, ?_⟩) (by assumption) ?_
  rotate_left 1
  · (intro w hSw; (try dsimp only at hSw); go_simp); first | done | (with_reducible rfl)
  try simp only [Act.put, List.setIfInBounds_toArray, List.set_cons_zero, List.set_cons_succ]
  refine wpAnyH_take (i := 15) (oi := { dst := some 343, op := Op.load 4 (Operand.tmp 342), type := 4, pos := ps, after := #[{ on := 14, ground := Ground.data }, { on := 11, ground := Ground.guard }], guard := some (11, true) }) (v := ?_) rfl (by kernel_rfl) (by kernel_rfl) (by kernel_rfl) (fun _ _ _ h => hpq _ _ _ _ _ h) (Or.inl ⟨by kernel_rfl, ?_⟩) (by assumption) ?_
  rotate_left 1
  · (intro w hSw; (try dsimp only at hSw); go_simp); first | done | (with_reducible rfl)
  try simp only [Act.put, List.setIfInBounds_toArray, List.set_cons_zero, List.set_cons_succ]
  refine wpAnyH_take (i := 16) (oi := { dst := some 344, op := Op.unOp UnOp.not 4 (Operand.tmp 343), type := 4, pos := ps, after := #[{ on := 15, ground := Ground.data }, { on := 11, ground := Ground.guard }], guard := some (11, true) }) (v := ?_) rfl (by kernel_rfl) (by kernel_rfl) (by kernel_rfl) (fun _ _ _ h => hpq _ _ _ _ _ h) (Or.inl ⟨by kernel_rfl, ?_⟩) (by assumption) ?_
  rotate_left 1
  · (intro w hSw; (try dsimp only at hSw); go_simp); first | done | (with_reducible rfl)
  try simp only [Act.put, List.setIfInBounds_toArray, List.set_cons_zero, List.set_cons_succ]
  refine wpAnyH_take (i := 17) (oi := { dst := some 345, op := Op.pick (Operand.tmp 339) (Operand.tmp 344) (Operand.const (Value.bool false)), type := 4, pos := ps, after := #[{ on := 11, ground := Ground.data }, { on := 16, ground := Ground.data }], guard := none }) (v := ?_) rfl (by kernel_rfl) (by kernel_rfl) (by kernel_rfl) (fun _ _ _ h => hpq _ _ _ _ _ h) (Or.inl ⟨by kernel_rfl, ?_⟩) (by assumption) ?_
  rotate_left 1
  · (intro w hSw; (try dsimp only at hSw); go_simp); first | done | (with_reducible rfl)
  try simp only [Act.put, List.setIfInBounds_toArray, List.set_cons_zero, List.set_cons_succ]
  refine wpAnyH_take (i := 18) (oi := { dst := some 346, op := Op.move (Operand.tmp 345), type := 4, pos := ps, after := #[{ on := 17, ground := Ground.data }, { on := 11, ground := Ground.chain }], guard := none }) (v := ?_) rfl (by kernel_rfl) (by kernel_rfl) (by kernel_rfl) (fun _ _ _ h => hpq _ _ _ _ _ h) (Or.inl ⟨by kernel_rfl, ?_⟩) (by assumption) ?_
  rotate_left 1
  · (intro w hSw; (try dsimp only at hSw); go_simp); first | done | (with_reducible rfl)
  try simp only [Act.put, List.setIfInBounds_toArray, List.set_cons_zero, List.set_cons_succ]
  refine wpAnyH_take (i := 19) (oi := { dst := some 347, op := Op.move (Operand.tmp 0), type := 32, pos := ps, after := #[{ on := 18, ground := Ground.guard }], guard := some (18, true) }) (v := ?_) rfl (by kernel_rfl) (by kernel_rfl) (by kernel_rfl) (fun _ _ _ h => hpq _ _ _ _ _ h) (Or.inl ⟨by kernel_rfl, ?_⟩) (by assumption) ?_
  rotate_left 1
  · (intro w hSw; (try dsimp only at hSw); go_simp); first | done | (with_reducible rfl)
  try simp only [Act.put, List.setIfInBounds_toArray, List.set_cons_zero, List.set_cons_succ]
  refine wpAnyH_take (i := 20) (oi := { dst := some 348, op := Op.move (Operand.tmp 27), type := 3, pos := ps, after := #[{ on := 18, ground := Ground.guard }], guard := some (18, true) }) (v := ?_) rfl (by kernel_rfl) (by kernel_rfl) (by kernel_rfl) (fun _ _ _ h => hpq _ _ _ _ _ h) (Or.inl ⟨by kernel_rfl, ?_⟩) (by assumption) ?_
  rotate_left 1
  · (intro w hSw; (try dsimp only at hSw); go_simp); first | done | (with_reducible rfl)
  try simp only [Act.put, List.setIfInBounds_toArray, List.set_cons_zero, List.set_cons_succ]
  refine wpAnyH_take (i := 21) (oi := { dst := some 349, op := Op.indexAddr 32 (Operand.tmp 347) (Operand.tmp 348), type := 0, pos := ps, after := #[{ on := 19, ground := Ground.data }, { on := 20, ground := Ground.data }, { on := 18, ground := Ground.guard }], guard := some (18, true) }) (v := ?_) rfl (by kernel_rfl) (by kernel_rfl) (by kernel_rfl) (fun _ _ _ h => hpq _ _ _ _ _ h) (Or.inl ⟨by kernel_rfl, ?_⟩) (by assumption) ?_
  rotate_left 1
  · (intro w hSw; (try dsimp only at hSw); go_simp); first | done | (with_reducible rfl)
  try simp only [Act.put, List.setIfInBounds_toArray, List.set_cons_zero, List.set_cons_succ]
  refine wpAnyH_take (i := 22) (oi := { dst := some 350, op := Op.fieldAddr 35 (Operand.tmp 349) 4, type := 0, pos := ps, after := #[{ on := 21, ground := Ground.data }, { on := 18, ground := Ground.guard }], guard := some (18, true) }) (v := ?_) rfl (by kernel_rfl) (by kernel_rfl) (by kernel_rfl) (fun _ _ _ h => hpq _ _ _ _ _ h) (Or.inl ⟨by kernel_rfl, ?_⟩) (by assumption) ?_
  rotate_left 1
  · (intro w hSw; (try dsimp only at hSw); go_simp); first | done | (with_reducible rfl)
  try simp only [Act.put, List.setIfInBounds_toArray, List.set_cons_zero, List.set_cons_succ]
  refine wpAnyH_take (i := 23) (oi := { dst := some 351, op := Op.load 4 (Operand.tmp 350), type := 4, pos := ps, after := #[{ on := 22, ground := Ground.data }, { on := 18, ground := Ground.guard }], guard := some (18, true) }) (v := ?_) rfl (by kernel_rfl) (by kernel_rfl) (by kernel_rfl) (fun _ _ _ h => hpq _ _ _ _ _ h) (Or.inl ⟨by kernel_rfl, ?_⟩) (by assumption) ?_
  rotate_left 1
  · (intro w hSw; (try dsimp only at hSw); go_simp); first | done | (with_reducible rfl)
  try simp only [Act.put, List.setIfInBounds_toArray, List.set_cons_zero, List.set_cons_succ]
  refine wpAnyH_take (i := 24) (oi := { dst := some 352, op := Op.unOp UnOp.not 4 (Operand.tmp 351), type := 4, pos := ps, after := #[{ on := 23, ground := Ground.data }, { on := 18, ground := Ground.guard }], guard := some (18, true) }) (v := ?_) rfl (by kernel_rfl) (by kernel_rfl) (by kernel_rfl) (fun _ _ _ h => hpq _ _ _ _ _ h) (Or.inl ⟨by kernel_rfl, ?_⟩) (by assumption) ?_
  rotate_left 1
  · (intro w hSw; (try dsimp only at hSw); go_simp); first | done | (with_reducible rfl)
  try simp only [Act.put, List.setIfInBounds_toArray, List.set_cons_zero, List.set_cons_succ]
  refine wpAnyH_take (i := 25) (oi := { dst := some 353, op := Op.pick (Operand.tmp 346) (Operand.tmp 352) (Operand.const (Value.bool false)), type := 4, pos := ps, after := #[{ on := 18, ground := Ground.data }, { on := 24, ground := Ground.data }], guard := none }) (v := ?_) rfl (by kernel_rfl) (by kernel_rfl) (by kernel_rfl) (fun _ _ _ h => hpq _ _ _ _ _ h) (Or.inl ⟨by kernel_rfl, ?_⟩) (by assumption) ?_
  rotate_left 1
  · (intro w hSw; (try dsimp only at hSw); go_simp); first | done | (with_reducible rfl)
  try simp only [Act.put, List.setIfInBounds_toArray, List.set_cons_zero, List.set_cons_succ]
  refine wpAnyH_take (i := 26) (oi := { dst := some 354, op := Op.move (Operand.tmp 353), type := 4, pos := ps, after := #[{ on := 25, ground := Ground.data }, { on := 18, ground := Ground.chain }], guard := none }) (v := ?_) rfl (by kernel_rfl) (by kernel_rfl) (by kernel_rfl) (fun _ _ _ h => hpq _ _ _ _ _ h) (Or.inl ⟨by kernel_rfl, ?_⟩) (by assumption) ?_
  rotate_left 1
  · (intro w hSw; (try dsimp only at hSw); go_simp); first | done | (with_reducible rfl)
  try simp only [Act.put, List.setIfInBounds_toArray, List.set_cons_zero, List.set_cons_succ]
  refine wpAnyH_take (i := 27) (oi := { dst := some 355, op := Op.move (Operand.tmp 0), type := 32, pos := ps, after := #[{ on := 26, ground := Ground.guard }], guard := some (26, true) }) (v := ?_) rfl (by kernel_rfl) (by kernel_rfl) (by kernel_rfl) (fun _ _ _ h => hpq _ _ _ _ _ h) (Or.inl ⟨by kernel_rfl, ?_⟩) (by assumption) ?_
  rotate_left 1
  · (intro w hSw; (try dsimp only at hSw); go_simp); first | done | (with_reducible rfl)
  try simp only [Act.put, List.setIfInBounds_toArray, List.set_cons_zero, List.set_cons_succ]
  refine wpAnyH_take (i := 28) (oi := { dst := some 356, op := Op.move (Operand.tmp 27), type := 3, pos := ps, after := #[{ on := 26, ground := Ground.guard }], guard := some (26, true) }) (v := ?_) rfl (by kernel_rfl) (by kernel_rfl) (by kernel_rfl) (fun _ _ _ h => hpq _ _ _ _ _ h) (Or.inl ⟨by kernel_rfl, ?_⟩) (by assumption) ?_
  rotate_left 1
  · (intro w hSw; (try dsimp only at hSw); go_simp); first | done | (with_reducible rfl)
  try simp only [Act.put, List.setIfInBounds_toArray, List.set_cons_zero, List.set_cons_succ]
  refine wpAnyH_take (i := 29) (oi := { dst := some 357, op := Op.indexAddr 32 (Operand.tmp 355) (Operand.tmp 356), type := 0, pos := ps, after := #[{ on := 27, ground := Ground.data }, { on := 28, ground := Ground.data }, { on := 26, ground := Ground.guard }], guard := some (26, true) }) (v := ?_) rfl (by kernel_rfl) (by kernel_rfl) (by kernel_rfl) (fun _ _ _ h => hpq _ _ _ _ _ h) (Or.inl ⟨by kernel_rfl, ?_⟩) (by assumption) ?_
  rotate_left 1
  · (intro w hSw; (try dsimp only at hSw); go_simp); first | done | (with_reducible rfl)
  try simp only [Act.put, List.setIfInBounds_toArray, List.set_cons_zero, List.set_cons_succ]
  refine wpAnyH_take (i := 30) (oi := { dst := some 358, op := Op.fieldAddr 35 (Operand.tmp 357) 1, type := 0, pos := ps, after := #[{ on := 29, ground := Ground.data }, { on := 26, ground := Ground.guard }], guard := some (26, true) }) (v := ?_) rfl (by kernel_rfl) (by kernel_rfl) (by kernel_rfl) (fun _ _ _ h => hpq _ _ _ _ _ h) (Or.inl ⟨by kernel_rfl, ?_⟩) (by assumption) ?_
  rotate_left 1
  · (intro w hSw; (try dsimp only at hSw); go_simp); first | done | (with_reducible rfl)
  try simp only [Act.put, List.setIfInBounds_toArray, List.set_cons_zero, List.set_cons_succ]
  refine wpAnyH_take (i := 31) (oi := { dst := some 359, op := Op.load 2 (Operand.tmp 358), type := 2, pos := ps, after := #[{ on := 30, ground := Ground.data }, { on := 26, ground := Ground.guard }], guard := some (26, true) }) (v := ?_) rfl (by kernel_rfl) (by kernel_rfl) (by kernel_rfl) (fun _ _ _ h => hpq _ _ _ _ _ h) (Or.inl ⟨by kernel_rfl, ?_⟩) (by assumption) ?_
  rotate_left 1
  · (intro w hSw; (try dsimp only at hSw); go_simp); first | done | (with_reducible rfl)
  try simp only [Act.put, List.setIfInBounds_toArray, List.set_cons_zero, List.set_cons_succ]
  refine wpAnyH_take (i := 32) (oi := { dst := some 360, op := Op.binOp BinOp.gtr 2 (Operand.tmp 359) (Operand.const (Value.int IntKind.i64 0)) 2, type := 4, pos := ps, after := #[{ on := 31, ground := Ground.data }, { on := 26, ground := Ground.guard }], guard := some (26, true) }) (v := ?_) rfl (by kernel_rfl) (by kernel_rfl) (by kernel_rfl) (fun _ _ _ h => hpq _ _ _ _ _ h) (Or.inl ⟨by kernel_rfl, ?_⟩) (by assumption) ?_
  rotate_left 1
  · (intro w hSw; (try dsimp only at hSw); go_simp); first | done | (with_reducible rfl)
  try simp only [Act.put, List.setIfInBounds_toArray, List.set_cons_zero, List.set_cons_succ]
  refine wpAnyH_take (i := 33) (oi := { dst := some 361, op := Op.pick (Operand.tmp 354) (Operand.tmp 360) (Operand.const (Value.bool false)), type := 4, pos := ps, after := #[{ on := 26, ground := Ground.data }, { on := 32, ground := Ground.data }], guard := none }) (v := ?_) rfl (by kernel_rfl) (by kernel_rfl) (by kernel_rfl) (fun _ _ _ h => hpq _ _ _ _ _ h) (Or.inl ⟨by kernel_rfl, ?_⟩) (by assumption) ?_
  rotate_left 1
  · (intro w hSw; (try dsimp only at hSw); go_simp); first | done | (with_reducible rfl)
  try simp only [Act.put, List.setIfInBounds_toArray, List.set_cons_zero, List.set_cons_succ]
  refine wpAnyH_take (i := 34) (oi := { dst := some 362, op := Op.move (Operand.tmp 361), type := 4, pos := ps, after := #[{ on := 33, ground := Ground.data }, { on := 26, ground := Ground.chain }], guard := none }) (v := ?_) rfl (by kernel_rfl) (by kernel_rfl) (by kernel_rfl) (fun _ _ _ h => hpq _ _ _ _ _ h) (Or.inl ⟨by kernel_rfl, ?_⟩) (by assumption) ?_
  rotate_left 1
  · (intro w hSw; (try dsimp only at hSw); go_simp); first | done | (with_reducible rfl)
  try simp only [Act.put, List.setIfInBounds_toArray, List.set_cons_zero, List.set_cons_succ]
  refine wpAnyH_take (i := 35) (oi := { dst := some 363, op := Op.move (Operand.tmp 0), type := 32, pos := ps, after := #[{ on := 34, ground := Ground.guard }], guard := some (34, true) }) (v := ?_) rfl (by kernel_rfl) (by kernel_rfl) (by kernel_rfl) (fun _ _ _ h => hpq _ _ _ _ _ h) (Or.inl ⟨by kernel_rfl, ?_⟩) (by assumption) ?_
  rotate_left 1
  · (intro w hSw; (try dsimp only at hSw); go_simp); first | done | (with_reducible rfl)
  try simp only [Act.put, List.setIfInBounds_toArray, List.set_cons_zero, List.set_cons_succ]
  refine wpAnyH_take (i := 36) (oi := { dst := some 364, op := Op.move (Operand.tmp 27), type := 3, pos := ps, after := #[{ on := 34, ground := Ground.guard }], guard := some (34, true) }) (v := ?_) rfl (by kernel_rfl) (by kernel_rfl) (by kernel_rfl) (fun _ _ _ h => hpq _ _ _ _ _ h) (Or.inl ⟨by kernel_rfl, ?_⟩) (by assumption) ?_
  rotate_left 1
  · (intro w hSw; (try dsimp only at hSw); go_simp); first | done | (with_reducible rfl)
  try simp only [Act.put, List.setIfInBounds_toArray, List.set_cons_zero, List.set_cons_succ]
  refine wpAnyH_take (i := 37) (oi := { dst := some 365, op := Op.indexAddr 32 (Operand.tmp 363) (Operand.tmp 364), type := 0, pos := ps, after := #[{ on := 35, ground := Ground.data }, { on := 36, ground := Ground.data }, { on := 34, ground := Ground.guard }], guard := some (34, true) }) (v := ?_) rfl (by kernel_rfl) (by kernel_rfl) (by kernel_rfl) (fun _ _ _ h => hpq _ _ _ _ _ h) (Or.inl ⟨by kernel_rfl, ?_⟩) (by assumption) ?_
  rotate_left 1
  · (intro w hSw; (try dsimp only at hSw); go_simp); first | done | (with_reducible rfl)
  try simp only [Act.put, List.setIfInBounds_toArray, List.set_cons_zero, List.set_cons_succ]
  refine wpAnyH_take (i := 38) (oi := { dst := some 366, op := Op.load 35 (Operand.tmp 365), type := 35, pos := ps, after := #[{ on := 37, ground := Ground.data }, { on := 34, ground := Ground.guard }], guard := some (34, true) }) (v := ?_) rfl (by kernel_rfl) (by kernel_rfl) (by kernel_rfl) (fun _ _ _ h => hpq _ _ _ _ _ h) (Or.inl ⟨by kernel_rfl, ?_⟩) (by assumption) ?_
  rotate_left 1
  · (intro w hSw; (try dsimp only at hSw); go_simp); first | done | (with_reducible rfl)
  try simp only [Act.put, List.setIfInBounds_toArray, List.set_cons_zero, List.set_cons_succ]
  refine wpAnyH_take (i := 40) (oi := { dst := some 368, op := Op.move (Operand.tmp 26), type := 3, pos := ps, after := #[{ on := 34, ground := Ground.guard }], guard := some (34, true) }) (v := ?_) rfl (by kernel_rfl) (by kernel_rfl) (by kernel_rfl) (fun _ _ _ h => hpq _ _ _ _ _ h) (Or.inl ⟨by kernel_rfl, ?_⟩) (by assumption) ?_
  rotate_left 1
  · (intro w hSw; (try dsimp only at hSw); go_simp); first | done | (with_reducible rfl)
  try simp only [Act.put, List.setIfInBounds_toArray, List.set_cons_zero, List.set_cons_succ]
  refine wpAnyH_ready (rs := [39]) (by kernel_rfl) (by simp) ?_
  refine AllReadyH.cons (o := { dst := some 367, op := Op.call { callee := Callee.value (Operand.func 27), args := #[Operand.tmp 366], argTypes := #[35] }, type := 3, pos := ps, after := #[{ on := 38, ground := Ground.data }, { on := 34, ground := Ground.chain }, { on := 34, ground := Ground.guard }], guard := some (34, true) }) rfl (fun K hK => ?_) AllReadyH.nil
  go_simp
  (go_at_call 27; refine (unhide ZS).mono ?_; rintro e w7 ⟨rfl, hb7⟩)
  go_wp2_with fail
  refine hK.out _ _ ?_ (fun hHeld => ?_)
  · exact unhide KJ _ hb7
  clear hK K
  try simp only [Act.put, List.setIfInBounds_toArray, List.set_cons_zero, List.set_cons_succ]
  refine wpAnyH_take (i := 41) (oi := { dst := some 369, op := Op.binOp BinOp.eql 3 (Operand.tmp 367) (Operand.tmp 368) 3, type := 4, pos := ps, after := #[{ on := 39, ground := Ground.data }, { on := 40, ground := Ground.data }, { on := 34, ground := Ground.guard }], guard := some (34, true) }) (v := ?_) rfl (by kernel_rfl) (by kernel_rfl) (by kernel_rfl) (fun _ _ _ h => hpq _ _ _ _ _ h) (Or.inl ⟨by kernel_rfl, ?_⟩) (by assumption) ?_
  rotate_left 1
  · (intro w hSw; (try dsimp only at hSw); go_simp); first | done | (with_reducible rfl)
  try simp only [Act.put, List.setIfInBounds_toArray, List.set_cons_zero, List.set_cons_succ]
  refine wpAnyH_take (i := 42) (oi := { dst := some 370, op := Op.pick (Operand.tmp 362) (Operand.tmp 369) (Operand.const (Value.bool false)), type := 4, pos := ps, after := #[{ on := 34, ground := Ground.data }, { on := 41, ground := Ground.data }], guard := none }) (v := ?_) rfl (by kernel_rfl) (by kernel_rfl) (by kernel_rfl) (fun _ _ _ h => hpq _ _ _ _ _ h) (Or.inl ⟨by kernel_rfl, ?_⟩) (by assumption) ?_
  rotate_left 1
  · (intro w hSw; (try dsimp only at hSw); go_simp); first | done | (with_reducible rfl)
  try simp only [Act.put, List.setIfInBounds_toArray, List.set_cons_zero, List.set_cons_succ]
  refine wpAnyH_take (i := 43) (oi := { dst := some 371, op := Op.move (Operand.tmp 370), type := 4, pos := ps, after := #[{ on := 42, ground := Ground.data }, { on := 39, ground := Ground.chain }], guard := none }) (v := ?_) rfl (by kernel_rfl) (by kernel_rfl) (by kernel_rfl) (fun _ _ _ h => hpq _ _ _ _ _ h) (Or.inl ⟨by kernel_rfl, ?_⟩) (by assumption) ?_
  rotate_left 1
  · (intro w hSw; (try dsimp only at hSw); go_simp); first | done | (with_reducible rfl)
  try simp only [Act.put, List.setIfInBounds_toArray, List.set_cons_zero, List.set_cons_succ]
  refine wpAnyH_take (i := 44) (oi := { dst := some 372, op := Op.move (Operand.tmp 24), type := 2, pos := ps, after := #[{ on := 43, ground := Ground.guard }], guard := some (43, true) }) (v := ?_) rfl (by kernel_rfl) (by kernel_rfl) (by kernel_rfl) (fun _ _ _ h => hpq _ _ _ _ _ h) (Or.inl ⟨by kernel_rfl, ?_⟩) (by assumption) ?_
  rotate_left 1
  · (intro w hSw; (try dsimp only at hSw); go_simp); first | done | (with_reducible rfl)
  try simp only [Act.put, List.setIfInBounds_toArray, List.set_cons_zero, List.set_cons_succ]
  refine wpAnyH_take (i := 45) (oi := { dst := some 373, op := Op.move (Operand.tmp 21), type := 2, pos := ps, after := #[{ on := 43, ground := Ground.guard }], guard := some (43, true) }) (v := ?_) rfl (by kernel_rfl) (by kernel_rfl) (by kernel_rfl) (fun _ _ _ h => hpq _ _ _ _ _ h) (Or.inl ⟨by kernel_rfl, ?_⟩) (by assumption) ?_
  rotate_left 1
  · (intro w hSw; (try dsimp only at hSw); go_simp); first | done | (with_reducible rfl)
  try simp only [Act.put, List.setIfInBounds_toArray, List.set_cons_zero, List.set_cons_succ]
  refine wpAnyH_take (i := 46) (oi := { dst := some 374, op := Op.binOp BinOp.gtr 2 (Operand.tmp 372) (Operand.tmp 373) 2, type := 4, pos := ps, after := #[{ on := 44, ground := Ground.data }, { on := 45, ground := Ground.data }, { on := 43, ground := Ground.guard }], guard := some (43, true) }) (v := ?_) rfl (by kernel_rfl) (by kernel_rfl) (by kernel_rfl) (fun _ _ _ h => hpq _ _ _ _ _ h) (Or.inl ⟨by kernel_rfl, ?_⟩) (by assumption) ?_
  rotate_left 1
  · (intro w hSw; (try dsimp only at hSw); go_simp); first | done | (with_reducible rfl)
  try simp only [Act.put, List.setIfInBounds_toArray, List.set_cons_zero, List.set_cons_succ]
  refine wpAnyH_take (i := 47) (oi := { dst := some 375, op := Op.pick (Operand.tmp 371) (Operand.tmp 374) (Operand.const (Value.bool false)), type := 4, pos := ps, after := #[{ on := 43, ground := Ground.data }, { on := 46, ground := Ground.data }], guard := none }) (v := ?_) rfl (by kernel_rfl) (by kernel_rfl) (by kernel_rfl) (fun _ _ _ h => hpq _ _ _ _ _ h) (Or.inl ⟨by kernel_rfl, ?_⟩) (by assumption) ?_
  rotate_left 1
  · (intro w hSw; (try dsimp only at hSw); go_simp); first | done | (with_reducible rfl)
  try simp only [Act.put, List.setIfInBounds_toArray, List.set_cons_zero, List.set_cons_succ]
  refine wpAnyH_done (by kernel_rfl) ?_ _
  exact hQ _ hb7 _ _ _ _ _ _ _ _ _ _ _ _ _ _ _ _ _ _ _ _ _ _ _ _ _ _ _ _ _ _ _ _ _ _ _ _ _ _ _ _ _ _ _ _ _ _ _ 

set_option maxRecDepth 100000 in
set_option maxHeartbeats 4000000 in
theorem r256_miss {id : Nat} {ps : String} (wr : World) (b o n cap wb i j sN : Nat) (rem T cc sv : Int) (H : Nat → VH) {u1 u2 u3 u4 u5 u6 u7 u8 u9 u10 u11 u12 u13 u14 u15 u16 u17 u18 u20 u22 u25 u28 u29 u30 u31 u32 u33 u34 u35 u36 u37 u38 u39 u40 u41 u42 u43 u44 u45 u46 u47 u48 u49 u50 u51 u52 u53 u54 u55 u56 u57 u58 u59 u60 u61 u62 u63 u64 u65 u66 u67 u68 u69 u70 u71 u72 u73 u74 u75 u76 u77 u78 u79 u80 u81 u82 u83 u84 u85 u86 u87 u88 u89 u90 u91 u92 u93 u94 u95 u96 u97 u98 u99 u100 u101 u102 u103 u104 u105 u106 u107 u108 u109 u110 u111 u112 u113 u114 u115 u116 u117 u118 u119 u120 u121 u122 u123 u124 u125 u126 u127 u128 u129 u130 u131 u132 u133 u134 u135 u136 u137 u138 u139 u140 u141 u142 u143 u144 u145 u146 u147 u148 u149 u150 u151 u152 u153 u154 u155 u156 u157 u158 u159 u160 u161 u162 u163 u164 u165 u166 u167 u168 u169 u170 u171 u172 u173 u174 u175 u176 u177 u178 u179 u180 u181 u182 u183 u184 u185 u186 u187 u188 u189 u190 u191 u192 u193 u194 u195 u196 u197 u198 u199 u200 u201 u202 u203 u204 u205 u206 u207 u208 u209 u210 u211 u212 u213 u214 u215 u216 u217 u218 u219 u220 u221 u222 u223 u224 u225 u226 u227 u228 u229 u230 u231 u232 u233 u234 u235 u236 u237 u238 u239 u240 u241 u242 u243 u244 u245 u246 u247 u248 u249 u250 u251 u252 u253 u254 u255 u256 u257 u258 u259 u260 u261 u262 u263 u264 u265 u266 u267 u268 u269 u270 u271 u272 u273 u274 u275 u276 u277 u278 u279 u280 u281 u282 u283 u284 u285 u286 u287 u288 u289 u290 u291 u292 u293 u294 u295 u296 u297 u298 u299 u300 u301 u302 u303 u304 u305 u306 u307 u308 u309 u310 u311 u312 u313 u314 u315 u316 u317 u318 u319 u320 u321 u322 u323 u324 u325 u326 u327 x328 x329 x330 x331 x332 x333 x334 x335 x336 x337 x338 x339 x340 x341 x342 x343 x344 x345 x346 x347 x348 x349 x350 x351 x352 x353 x354 x355 x356 x357 x358 x359 x360 x361 x362 x363 x364 x365 x366 x367 x368 x369 x370 x371 x372 x373 x374 x375 x376 x377 x378 x379 x380 x381 x382 x383 x384 x385 x386 x387 x388 x389 x390 x391 x392 x393 x394 x395 x396 x397 x398 x399 x400 : Value} (Q : Exit → Act → World → Prop) (hpq : ∀ (c : _) (a : Act) (d : Option Tmp) (v : Value) (w : World), Q (.panic c) (a.put d v) w → Q (.panic c) a w) (lj : j < n) (li : i < n) (hn : n ≤ 1024)
    (e3 : ((H j).client.toList == (H i).client.toList) = true) (hz : 0 < cc) (hse : (sv == (sN : Int)) = true) (hrt : decide (T < rem) = false)
    (KJ : Hid (∀ (w5 : World), Below wr.drew.heap.size wr.drew w5 → Reads w5 b o wb i j cc H))
    (ZS : Hid (Calls Try.prog 27 #[.agg #[.string (H j).client, .int .i64 cc, .int .i64 (H j).st, .bool (H j).yields, .bool false]] wr.drew fun e w' => e = .returned (.int .i64 sv) ∧ Below wr.drew.heap.size wr.drew w'))
    (hQ : ∀ (w7 : World), Below wr.drew.heap.size wr.drew w7 → ∀ (v328 v329 v330 v331 v332 v333 v334 v335 v336 v337 v338 v339 v340 v341 v342 v343 v344 v345 v346 v347 v348 v349 v350 v351 v352 v353 v354 v355 v356 v357 v358 v359 v360 v361 v362 v363 v364 v365 v366 v367 v368 v369 v370 v371 v372 v373 v374 : Value), Q .normal { tmps := List.toArray (.slice (some ⟨b, o, none⟩) n cap :: u1 :: u2 :: u3 :: u4 :: u5 :: u6 :: u7 :: u8 :: u9 :: u10 :: u11 :: u12 :: u13 :: u14 :: u15 :: u16 :: u17 :: u18 :: .slice (some ⟨wb, 0, none⟩) n n :: u20 :: .int .i64 T :: u22 :: .int .i64 (i : Nat) :: .int .i64 rem :: u25 :: .int .i64 (sN : Nat) :: .int .i64 (j : Nat) :: u28 :: u29 :: u30 :: u31 :: u32 :: u33 :: u34 :: u35 :: u36 :: u37 :: u38 :: u39 :: u40 :: u41 :: u42 :: u43 :: u44 :: u45 :: u46 :: u47 :: u48 :: u49 :: u50 :: u51 :: u52 :: u53 :: u54 :: u55 :: u56 :: u57 :: u58 :: u59 :: u60 :: u61 :: u62 :: u63 :: u64 :: u65 :: u66 :: u67 :: u68 :: u69 :: u70 :: u71 :: u72 :: u73 :: u74 :: u75 :: u76 :: u77 :: u78 :: u79 :: u80 :: u81 :: u82 :: u83 :: u84 :: u85 :: u86 :: u87 :: u88 :: u89 :: u90 :: u91 :: u92 :: u93 :: u94 :: u95 :: u96 :: u97 :: u98 :: u99 :: u100 :: u101 :: u102 :: u103 :: u104 :: u105 :: u106 :: u107 :: u108 :: u109 :: u110 :: u111 :: u112 :: u113 :: u114 :: u115 :: u116 :: u117 :: u118 :: u119 :: u120 :: u121 :: u122 :: u123 :: u124 :: u125 :: u126 :: u127 :: u128 :: u129 :: u130 :: u131 :: u132 :: u133 :: u134 :: u135 :: u136 :: u137 :: u138 :: u139 :: u140 :: u141 :: u142 :: u143 :: u144 :: u145 :: u146 :: u147 :: u148 :: u149 :: u150 :: u151 :: u152 :: u153 :: u154 :: u155 :: u156 :: u157 :: u158 :: u159 :: u160 :: u161 :: u162 :: u163 :: u164 :: u165 :: u166 :: u167 :: u168 :: u169 :: u170 :: u171 :: u172 :: u173 :: u174 :: u175 :: u176 :: u177 :: u178 :: u179 :: u180 :: u181 :: u182 :: u183 :: u184 :: u185 :: u186 :: u187 :: u188 :: u189 :: u190 :: u191 :: u192 :: u193 :: u194 :: u195 :: u196 :: u197 :: u198 :: u199 :: u200 :: u201 :: u202 :: u203 :: u204 :: u205 :: u206 :: u207 :: u208 :: u209 :: u210 :: u211 :: u212 :: u213 :: u214 :: u215 :: u216 :: u217 :: u218 :: u219 :: u220 :: u221 :: u222 :: u223 :: u224 :: u225 :: u226 :: u227 :: u228 :: u229 :: u230 :: u231 :: u232 :: u233 :: u234 :: u235 :: u236 :: u237 :: u238 :: u239 :: u240 :: u241 :: u242 :: u243 :: u244 :: u245 :: u246 :: u247 :: u248 :: u249 :: u250 :: u251 :: u252 :: u253 :: u254 :: u255 :: u256 :: u257 :: u258 :: u259 :: u260 :: u261 :: u262 :: u263 :: u264 :: u265 :: u266 :: u267 :: u268 :: u269 :: u270 :: u271 :: u272 :: u273 :: u274 :: u275 :: u276 :: u277 :: u278 :: u279 :: u280 :: u281 :: u282 :: u283 :: u284 :: u285 :: u286 :: u287 :: u288 :: u289 :: u290 :: u291 :: u292 :: u293 :: u294 :: u295 :: u296 :: u297 :: u298 :: u299 :: u300 :: u301 :: u302 :: u303 :: u304 :: u305 :: u306 :: u307 :: u308 :: u309 :: u310 :: u311 :: u312 :: u313 :: u314 :: u315 :: u316 :: u317 :: u318 :: u319 :: u320 :: u321 :: u322 :: u323 :: u324 :: u325 :: u326 :: u327 :: v328 :: v329 :: v330 :: v331 :: v332 :: v333 :: v334 :: v335 :: v336 :: v337 :: v338 :: v339 :: v340 :: v341 :: v342 :: v343 :: v344 :: v345 :: v346 :: v347 :: v348 :: v349 :: v350 :: v351 :: v352 :: v353 :: v354 :: v355 :: v356 :: v357 :: v358 :: v359 :: v360 :: v361 :: v362 :: v363 :: v364 :: v365 :: v366 :: v367 :: v368 :: v369 :: v370 :: v371 :: v372 :: v373 :: v374 :: .bool false :: x376 :: x377 :: x378 :: x379 :: x380 :: x381 :: x382 :: x383 :: x384 :: x385 :: x386 :: x387 :: x388 :: x389 :: x390 :: x391 :: x392 :: x393 :: x394 :: x395 :: x396 :: x397 :: x398 :: x399 :: x400 :: []), defers := [] } w7) :
    Code.wp Try.prog (Code.region id (List.toArray ({ dst := some 328, op := Op.move (Operand.tmp 0), type := 32, pos := ps, after := #[], guard := none } ::
      { dst := some 329, op := Op.move (Operand.tmp 27), type := 3, pos := ps, after := #[], guard := none } ::
      { dst := some 330, op := Op.indexAddr 32 (Operand.tmp 328) (Operand.tmp 329), type := 0, pos := ps, after := #[{ on := 0, ground := Ground.data }, { on := 1, ground := Ground.data }], guard := none } ::
      { dst := some 331, op := Op.fieldAddr 35 (Operand.tmp 330) 0, type := 0, pos := ps, after := #[{ on := 2, ground := Ground.data }], guard := none } ::
      { dst := some 332, op := Op.load 9 (Operand.tmp 331), type := 9, pos := ps, after := #[{ on := 3, ground := Ground.data }], guard := none } ::
      { dst := some 333, op := Op.move (Operand.tmp 0), type := 32, pos := ps, after := #[], guard := none } ::
      { dst := some 334, op := Op.move (Operand.tmp 23), type := 3, pos := ps, after := #[], guard := none } ::
      { dst := some 335, op := Op.indexAddr 32 (Operand.tmp 333) (Operand.tmp 334), type := 0, pos := ps, after := #[{ on := 5, ground := Ground.data }, { on := 6, ground := Ground.data }], guard := none } ::
      { dst := some 336, op := Op.fieldAddr 35 (Operand.tmp 335) 0, type := 0, pos := ps, after := #[{ on := 7, ground := Ground.data }], guard := none } ::
      { dst := some 337, op := Op.load 9 (Operand.tmp 336), type := 9, pos := ps, after := #[{ on := 8, ground := Ground.data }], guard := none } ::
      { dst := some 338, op := Op.binOp BinOp.eql 9 (Operand.tmp 332) (Operand.tmp 337) 9, type := 4, pos := ps, after := #[{ on := 4, ground := Ground.data }, { on := 9, ground := Ground.data }], guard := none } ::
      { dst := some 339, op := Op.move (Operand.tmp 338), type := 4, pos := ps, after := #[{ on := 10, ground := Ground.data }], guard := none } ::
      { dst := some 340, op := Op.move (Operand.tmp 19), type := 43, pos := ps, after := #[{ on := 11, ground := Ground.guard }], guard := some (11, true) } ::
      { dst := some 341, op := Op.move (Operand.tmp 27), type := 3, pos := ps, after := #[{ on := 11, ground := Ground.guard }], guard := some (11, true) } ::
      { dst := some 342, op := Op.indexAddr 43 (Operand.tmp 340) (Operand.tmp 341), type := 0, pos := ps, after := #[{ on := 12, ground := Ground.data }, { on := 13, ground := Ground.data }, { on := 11, ground := Ground.guard }], guard := some (11, true) } ::
      { dst := some 343, op := Op.load 4 (Operand.tmp 342), type := 4, pos := ps, after := #[{ on := 14, ground := Ground.data }, { on := 11, ground := Ground.guard }], guard := some (11, true) } ::
      { dst := some 344, op := Op.unOp UnOp.not 4 (Operand.tmp 343), type := 4, pos := ps, after := #[{ on := 15, ground := Ground.data }, { on := 11, ground := Ground.guard }], guard := some (11, true) } ::
      { dst := some 345, op := Op.pick (Operand.tmp 339) (Operand.tmp 344) (Operand.const (Value.bool false)), type := 4, pos := ps, after := #[{ on := 11, ground := Ground.data }, { on := 16, ground := Ground.data }], guard := none } ::
      { dst := some 346, op := Op.move (Operand.tmp 345), type := 4, pos := ps, after := #[{ on := 17, ground := Ground.data }, { on := 11, ground := Ground.chain }], guard := none } ::
      { dst := some 347, op := Op.move (Operand.tmp 0), type := 32, pos := ps, after := #[{ on := 18, ground := Ground.guard }], guard := some (18, true) } ::
      { dst := some 348, op := Op.move (Operand.tmp 27), type := 3, pos := ps, after := #[{ on := 18, ground := Ground.guard }], guard := some (18, true) } ::
      { dst := some 349, op := Op.indexAddr 32 (Operand.tmp 347) (Operand.tmp 348), type := 0, pos := ps, after := #[{ on := 19, ground := Ground.data }, { on := 20, ground := Ground.data }, { on := 18, ground := Ground.guard }], guard := some (18, true) } ::
      { dst := some 350, op := Op.fieldAddr 35 (Operand.tmp 349) 4, type := 0, pos := ps, after := #[{ on := 21, ground := Ground.data }, { on := 18, ground := Ground.guard }], guard := some (18, true) } ::
      { dst := some 351, op := Op.load 4 (Operand.tmp 350), type := 4, pos := ps, after := #[{ on := 22, ground := Ground.data }, { on := 18, ground := Ground.guard }], guard := some (18, true) } ::
      { dst := some 352, op := Op.unOp UnOp.not 4 (Operand.tmp 351), type := 4, pos := ps, after := #[{ on := 23, ground := Ground.data }, { on := 18, ground := Ground.guard }], guard := some (18, true) } ::
      { dst := some 353, op := Op.pick (Operand.tmp 346) (Operand.tmp 352) (Operand.const (Value.bool false)), type := 4, pos := ps, after := #[{ on := 18, ground := Ground.data }, { on := 24, ground := Ground.data }], guard := none } ::
      { dst := some 354, op := Op.move (Operand.tmp 353), type := 4, pos := ps, after := #[{ on := 25, ground := Ground.data }, { on := 18, ground := Ground.chain }], guard := none } ::
      { dst := some 355, op := Op.move (Operand.tmp 0), type := 32, pos := ps, after := #[{ on := 26, ground := Ground.guard }], guard := some (26, true) } ::
      { dst := some 356, op := Op.move (Operand.tmp 27), type := 3, pos := ps, after := #[{ on := 26, ground := Ground.guard }], guard := some (26, true) } ::
      { dst := some 357, op := Op.indexAddr 32 (Operand.tmp 355) (Operand.tmp 356), type := 0, pos := ps, after := #[{ on := 27, ground := Ground.data }, { on := 28, ground := Ground.data }, { on := 26, ground := Ground.guard }], guard := some (26, true) } ::
      { dst := some 358, op := Op.fieldAddr 35 (Operand.tmp 357) 1, type := 0, pos := ps, after := #[{ on := 29, ground := Ground.data }, { on := 26, ground := Ground.guard }], guard := some (26, true) } ::
      { dst := some 359, op := Op.load 2 (Operand.tmp 358), type := 2, pos := ps, after := #[{ on := 30, ground := Ground.data }, { on := 26, ground := Ground.guard }], guard := some (26, true) } ::
      { dst := some 360, op := Op.binOp BinOp.gtr 2 (Operand.tmp 359) (Operand.const (Value.int IntKind.i64 0)) 2, type := 4, pos := ps, after := #[{ on := 31, ground := Ground.data }, { on := 26, ground := Ground.guard }], guard := some (26, true) } ::
      { dst := some 361, op := Op.pick (Operand.tmp 354) (Operand.tmp 360) (Operand.const (Value.bool false)), type := 4, pos := ps, after := #[{ on := 26, ground := Ground.data }, { on := 32, ground := Ground.data }], guard := none } ::
      { dst := some 362, op := Op.move (Operand.tmp 361), type := 4, pos := ps, after := #[{ on := 33, ground := Ground.data }, { on := 26, ground := Ground.chain }], guard := none } ::
      { dst := some 363, op := Op.move (Operand.tmp 0), type := 32, pos := ps, after := #[{ on := 34, ground := Ground.guard }], guard := some (34, true) } ::
      { dst := some 364, op := Op.move (Operand.tmp 27), type := 3, pos := ps, after := #[{ on := 34, ground := Ground.guard }], guard := some (34, true) } ::
      { dst := some 365, op := Op.indexAddr 32 (Operand.tmp 363) (Operand.tmp 364), type := 0, pos := ps, after := #[{ on := 35, ground := Ground.data }, { on := 36, ground := Ground.data }, { on := 34, ground := Ground.guard }], guard := some (34, true) } ::
      { dst := some 366, op := Op.load 35 (Operand.tmp 365), type := 35, pos := ps, after := #[{ on := 37, ground := Ground.data }, { on := 34, ground := Ground.guard }], guard := some (34, true) } ::
      { dst := some 367, op := Op.call { callee := Callee.value (Operand.func 27), args := #[Operand.tmp 366], argTypes := #[35] }, type := 3, pos := ps, after := #[{ on := 38, ground := Ground.data }, { on := 34, ground := Ground.chain }, { on := 34, ground := Ground.guard }], guard := some (34, true) } ::
      { dst := some 368, op := Op.move (Operand.tmp 26), type := 3, pos := ps, after := #[{ on := 34, ground := Ground.guard }], guard := some (34, true) } ::
      { dst := some 369, op := Op.binOp BinOp.eql 3 (Operand.tmp 367) (Operand.tmp 368) 3, type := 4, pos := ps, after := #[{ on := 39, ground := Ground.data }, { on := 40, ground := Ground.data }, { on := 34, ground := Ground.guard }], guard := some (34, true) } ::
      { dst := some 370, op := Op.pick (Operand.tmp 362) (Operand.tmp 369) (Operand.const (Value.bool false)), type := 4, pos := ps, after := #[{ on := 34, ground := Ground.data }, { on := 41, ground := Ground.data }], guard := none } ::
      { dst := some 371, op := Op.move (Operand.tmp 370), type := 4, pos := ps, after := #[{ on := 42, ground := Ground.data }, { on := 39, ground := Ground.chain }], guard := none } ::
      { dst := some 372, op := Op.move (Operand.tmp 24), type := 2, pos := ps, after := #[{ on := 43, ground := Ground.guard }], guard := some (43, true) } ::
      { dst := some 373, op := Op.move (Operand.tmp 21), type := 2, pos := ps, after := #[{ on := 43, ground := Ground.guard }], guard := some (43, true) } ::
      { dst := some 374, op := Op.binOp BinOp.gtr 2 (Operand.tmp 372) (Operand.tmp 373) 2, type := 4, pos := ps, after := #[{ on := 44, ground := Ground.data }, { on := 45, ground := Ground.data }, { on := 43, ground := Ground.guard }], guard := some (43, true) } ::
      { dst := some 375, op := Op.pick (Operand.tmp 371) (Operand.tmp 374) (Operand.const (Value.bool false)), type := 4, pos := ps, after := #[{ on := 43, ground := Ground.data }, { on := 46, ground := Ground.data }], guard := none } :: [])) true) Q { tmps := List.toArray (.slice (some ⟨b, o, none⟩) n cap :: u1 :: u2 :: u3 :: u4 :: u5 :: u6 :: u7 :: u8 :: u9 :: u10 :: u11 :: u12 :: u13 :: u14 :: u15 :: u16 :: u17 :: u18 :: .slice (some ⟨wb, 0, none⟩) n n :: u20 :: .int .i64 T :: u22 :: .int .i64 (i : Nat) :: .int .i64 rem :: u25 :: .int .i64 (sN : Nat) :: .int .i64 (j : Nat) :: u28 :: u29 :: u30 :: u31 :: u32 :: u33 :: u34 :: u35 :: u36 :: u37 :: u38 :: u39 :: u40 :: u41 :: u42 :: u43 :: u44 :: u45 :: u46 :: u47 :: u48 :: u49 :: u50 :: u51 :: u52 :: u53 :: u54 :: u55 :: u56 :: u57 :: u58 :: u59 :: u60 :: u61 :: u62 :: u63 :: u64 :: u65 :: u66 :: u67 :: u68 :: u69 :: u70 :: u71 :: u72 :: u73 :: u74 :: u75 :: u76 :: u77 :: u78 :: u79 :: u80 :: u81 :: u82 :: u83 :: u84 :: u85 :: u86 :: u87 :: u88 :: u89 :: u90 :: u91 :: u92 :: u93 :: u94 :: u95 :: u96 :: u97 :: u98 :: u99 :: u100 :: u101 :: u102 :: u103 :: u104 :: u105 :: u106 :: u107 :: u108 :: u109 :: u110 :: u111 :: u112 :: u113 :: u114 :: u115 :: u116 :: u117 :: u118 :: u119 :: u120 :: u121 :: u122 :: u123 :: u124 :: u125 :: u126 :: u127 :: u128 :: u129 :: u130 :: u131 :: u132 :: u133 :: u134 :: u135 :: u136 :: u137 :: u138 :: u139 :: u140 :: u141 :: u142 :: u143 :: u144 :: u145 :: u146 :: u147 :: u148 :: u149 :: u150 :: u151 :: u152 :: u153 :: u154 :: u155 :: u156 :: u157 :: u158 :: u159 :: u160 :: u161 :: u162 :: u163 :: u164 :: u165 :: u166 :: u167 :: u168 :: u169 :: u170 :: u171 :: u172 :: u173 :: u174 :: u175 :: u176 :: u177 :: u178 :: u179 :: u180 :: u181 :: u182 :: u183 :: u184 :: u185 :: u186 :: u187 :: u188 :: u189 :: u190 :: u191 :: u192 :: u193 :: u194 :: u195 :: u196 :: u197 :: u198 :: u199 :: u200 :: u201 :: u202 :: u203 :: u204 :: u205 :: u206 :: u207 :: u208 :: u209 :: u210 :: u211 :: u212 :: u213 :: u214 :: u215 :: u216 :: u217 :: u218 :: u219 :: u220 :: u221 :: u222 :: u223 :: u224 :: u225 :: u226 :: u227 :: u228 :: u229 :: u230 :: u231 :: u232 :: u233 :: u234 :: u235 :: u236 :: u237 :: u238 :: u239 :: u240 :: u241 :: u242 :: u243 :: u244 :: u245 :: u246 :: u247 :: u248 :: u249 :: u250 :: u251 :: u252 :: u253 :: u254 :: u255 :: u256 :: u257 :: u258 :: u259 :: u260 :: u261 :: u262 :: u263 :: u264 :: u265 :: u266 :: u267 :: u268 :: u269 :: u270 :: u271 :: u272 :: u273 :: u274 :: u275 :: u276 :: u277 :: u278 :: u279 :: u280 :: u281 :: u282 :: u283 :: u284 :: u285 :: u286 :: u287 :: u288 :: u289 :: u290 :: u291 :: u292 :: u293 :: u294 :: u295 :: u296 :: u297 :: u298 :: u299 :: u300 :: u301 :: u302 :: u303 :: u304 :: u305 :: u306 :: u307 :: u308 :: u309 :: u310 :: u311 :: u312 :: u313 :: u314 :: u315 :: u316 :: u317 :: u318 :: u319 :: u320 :: u321 :: u322 :: u323 :: u324 :: u325 :: u326 :: u327 :: x328 :: x329 :: x330 :: x331 :: x332 :: x333 :: x334 :: x335 :: x336 :: x337 :: x338 :: x339 :: x340 :: x341 :: x342 :: x343 :: x344 :: x345 :: x346 :: x347 :: x348 :: x349 :: x350 :: x351 :: x352 :: x353 :: x354 :: x355 :: x356 :: x357 :: x358 :: x359 :: x360 :: x361 :: x362 :: x363 :: x364 :: x365 :: x366 :: x367 :: x368 :: x369 :: x370 :: x371 :: x372 :: x373 :: x374 :: x375 :: x376 :: x377 :: x378 :: x379 :: x380 :: x381 :: x382 :: x383 :: x384 :: x385 :: x386 :: x387 :: x388 :: x389 :: x390 :: x391 :: x392 :: x393 :: x394 :: x395 :: x396 :: x397 :: x398 :: x399 :: x400 :: []), defers := [] } wr := by
  have hS0 : Reads wr.drew b o wb i j cc H := unhide KJ _ (Below.refl _ _)
  refine wp_region_held_drew (S := fun w5 => w5.cell? ⟨b, o + j * 5, none⟩ = some (.string (H j).client) ∧ w5.cell? ⟨b, o + i * 5, none⟩ = some (.string (H i).client) ∧ w5.cell? ⟨wb, j, none⟩ = some (.bool false) ∧ w5.cell? ⟨b, o + j * 5 + 1, none⟩ = some (.int .i64 cc) ∧ w5.cell? ⟨b, o + j * 5 + 2, none⟩ = some (.int .i64 (H j).st) ∧ w5.cell? ⟨b, o + j * 5 + 3, none⟩ = some (.bool (H j).yields) ∧ w5.cell? ⟨b, o + j * 5 + 4, none⟩ = some (.bool false)) (by kernel_rfl) hS0 (fun hHeld => ?_)
  refine wpAnyH_take (i := 0) (oi := { dst := some 328, op := Op.move (Operand.tmp 0), type := 32, pos := ps, after := #[], guard := none }) (v := ?_) rfl (by kernel_rfl) (by kernel_rfl) (by kernel_rfl) (fun _ _ _ h => hpq _ _ _ _ _ h) (Or.inl ⟨by kernel_rfl, ?_⟩) (by assumption) ?_
  rotate_left 1
  · (intro w hSw; (try dsimp only at hSw); go_simp); first | done | (with_reducible rfl)
  try simp only [Act.put, List.setIfInBounds_toArray, List.set_cons_zero, List.set_cons_succ]
  refine wpAnyH_take (i := 1) (oi := { dst := some 329, op := Op.move (Operand.tmp 27), type := 3, pos := ps, after := #[], guard := none }) (v := ?_) rfl (by kernel_rfl) (by kernel_rfl) (by kernel_rfl) (fun _ _ _ h => hpq _ _ _ _ _ h) (Or.inl ⟨by kernel_rfl, ?_⟩) (by assumption) ?_
  rotate_left 1
  · (intro w hSw; (try dsimp only at hSw); go_simp); first | done | (with_reducible rfl)
  try simp only [Act.put, List.setIfInBounds_toArray, List.set_cons_zero, List.set_cons_succ]
  refine wpAnyH_take (i := 2) (oi := { dst := some 330, op := Op.indexAddr 32 (Operand.tmp 328) (Operand.tmp 329), type := 0, pos := ps, after := #[{ on := 0, ground := Ground.data }, { on := 1, ground := Ground.data }], guard := none }) (v := ?_) rfl (by kernel_rfl) (by kernel_rfl) (by kernel_rfl) (fun _ _ _ h => hpq _ _ _ _ _ h) (Or.inl ⟨by kernel_rfl, ?_⟩) (by assumption) ?_
  rotate_left 1
  · (intro w hSw; (try dsimp only at hSw); go_simp); first | done | (with_reducible rfl)
  try simp only [Act.put, List.setIfInBounds_toArray, List.set_cons_zero, List.set_cons_succ]
  refine wpAnyH_take (i := 3) (oi := { dst := some 331, op := Op.fieldAddr 35 (Operand.tmp 330) 0, type := 0, pos := ps, after := #[{ on := 2, ground := Ground.data }], guard := none }) (v := ?_) rfl (by kernel_rfl) (by kernel_rfl) (by kernel_rfl) (fun _ _ _ h => hpq _ _ _ _ _ h) (Or.inl ⟨by kernel_rfl, ?_⟩) (by assumption) ?_
  rotate_left 1
  · (intro w hSw; (try dsimp only at hSw); go_simp); first | done | (with_reducible rfl)
  try simp only [Act.put, List.setIfInBounds_toArray, List.set_cons_zero, List.set_cons_succ]
  refine wpAnyH_take (i := 4) (oi := { dst := some 332, op := Op.load 9 (Operand.tmp 331), type := 9, pos := ps, after := #[{ on := 3, ground := Ground.data }], guard := none }) (v := ?_) rfl (by kernel_rfl) (by kernel_rfl) (by kernel_rfl) (fun _ _ _ h => hpq _ _ _ _ _ h) (Or.inl ⟨by kernel_rfl, ?_⟩) (by assumption) ?_
  rotate_left 1
  · (intro w hSw; (try dsimp only at hSw); go_simp); first | done | (with_reducible rfl)
  try simp only [Act.put, List.setIfInBounds_toArray, List.set_cons_zero, List.set_cons_succ]
  refine wpAnyH_take (i := 5) (oi := { dst := some 333, op := Op.move (Operand.tmp 0), type := 32, pos := ps, after := #[], guard := none }) (v := ?_) rfl (by kernel_rfl) (by kernel_rfl) (by kernel_rfl) (fun _ _ _ h => hpq _ _ _ _ _ h) (Or.inl ⟨by kernel_rfl, ?_⟩) (by assumption) ?_
  rotate_left 1
  · (intro w hSw; (try dsimp only at hSw); go_simp); first | done | (with_reducible rfl)
  try simp only [Act.put, List.setIfInBounds_toArray, List.set_cons_zero, List.set_cons_succ]
  refine wpAnyH_take (i := 6) (oi := { dst := some 334, op := Op.move (Operand.tmp 23), type := 3, pos := ps, after := #[], guard := none }) (v := ?_) rfl (by kernel_rfl) (by kernel_rfl) (by kernel_rfl) (fun _ _ _ h => hpq _ _ _ _ _ h) (Or.inl ⟨by kernel_rfl, ?_⟩) (by assumption) ?_
  rotate_left 1
  · (intro w hSw; (try dsimp only at hSw); go_simp); first | done | (with_reducible rfl)
  try simp only [Act.put, List.setIfInBounds_toArray, List.set_cons_zero, List.set_cons_succ]
  refine wpAnyH_take (i := 7) (oi := { dst := some 335, op := Op.indexAddr 32 (Operand.tmp 333) (Operand.tmp 334), type := 0, pos := ps, after := #[{ on := 5, ground := Ground.data }, { on := 6, ground := Ground.data }], guard := none }) (v := ?_) rfl (by kernel_rfl) (by kernel_rfl) (by kernel_rfl) (fun _ _ _ h => hpq _ _ _ _ _ h) (Or.inl ⟨by kernel_rfl, ?_⟩) (by assumption) ?_
  rotate_left 1
  · (intro w hSw; (try dsimp only at hSw); go_simp); first | done | (with_reducible rfl)
  try simp only [Act.put, List.setIfInBounds_toArray, List.set_cons_zero, List.set_cons_succ]
  refine wpAnyH_take (i := 8) (oi := { dst := some 336, op := Op.fieldAddr 35 (Operand.tmp 335) 0, type := 0, pos := ps, after := #[{ on := 7, ground := Ground.data }], guard := none }) (v := ?_) rfl (by kernel_rfl) (by kernel_rfl) (by kernel_rfl) (fun _ _ _ h => hpq _ _ _ _ _ h) (Or.inl ⟨by kernel_rfl, ?_⟩) (by assumption) ?_
  rotate_left 1
  · (intro w hSw; (try dsimp only at hSw); go_simp); first | done | (with_reducible rfl)
  try simp only [Act.put, List.setIfInBounds_toArray, List.set_cons_zero, List.set_cons_succ]
  refine wpAnyH_take (i := 9) (oi := { dst := some 337, op := Op.load 9 (Operand.tmp 336), type := 9, pos := ps, after := #[{ on := 8, ground := Ground.data }], guard := none }) (v := ?_) rfl (by kernel_rfl) (by kernel_rfl) (by kernel_rfl) (fun _ _ _ h => hpq _ _ _ _ _ h) (Or.inl ⟨by kernel_rfl, ?_⟩) (by assumption) ?_
  rotate_left 1
  · (intro w hSw; (try dsimp only at hSw); go_simp); first | done | (with_reducible rfl)
  try simp only [Act.put, List.setIfInBounds_toArray, List.set_cons_zero, List.set_cons_succ]
  refine wpAnyH_take (i := 10) (oi := { dst := some 338, op := Op.binOp BinOp.eql 9 (Operand.tmp 332) (Operand.tmp 337) 9, type := 4, pos := ps, after := #[{ on := 4, ground := Ground.data }, { on := 9, ground := Ground.data }], guard := none }) (v := ?_) rfl (by kernel_rfl) (by kernel_rfl) (by kernel_rfl) (fun _ _ _ h => hpq _ _ _ _ _ h) (Or.inl ⟨by kernel_rfl, ?_⟩) (by assumption) ?_
  rotate_left 1
  · (intro w hSw; (try dsimp only at hSw); go_simp); first | done | (with_reducible rfl)
  try simp only [Act.put, List.setIfInBounds_toArray, List.set_cons_zero, List.set_cons_succ]
  refine wpAnyH_take (i := 11) (oi := { dst := some 339, op := Op.move (Operand.tmp 338), type := 4, pos := ps, after := #[{ on := 10, ground := Ground.data }], guard := none }) (v := ?_) rfl (by kernel_rfl) (by kernel_rfl) (by kernel_rfl) (fun _ _ _ h => hpq _ _ _ _ _ h) (Or.inl ⟨by kernel_rfl, ?_⟩) (by assumption) ?_
  rotate_left 1
  · (intro w hSw; (try dsimp only at hSw); go_simp); first | done | (with_reducible rfl)
  try simp only [Act.put, List.setIfInBounds_toArray, List.set_cons_zero, List.set_cons_succ]
  refine wpAnyH_take (i := 12) (oi := { dst := some 340, op := Op.move (Operand.tmp 19), type := 43, pos := ps, after := #[{ on := 11, ground := Ground.guard }], guard := some (11, true) }) (v := ?_) rfl (by kernel_rfl) (by kernel_rfl) (by kernel_rfl) (fun _ _ _ h => hpq _ _ _ _ _ h) (Or.inl ⟨by kernel_rfl, ?_⟩) (by assumption) ?_
  rotate_left 1
  · (intro w hSw; (try dsimp only at hSw); go_simp); first | done | (with_reducible rfl)
  try simp only [Act.put, List.setIfInBounds_toArray, List.set_cons_zero, List.set_cons_succ]
  refine wpAnyH_take (i := 13) (oi := { dst := some 341, op := Op.move (Operand.tmp 27), type := 3, pos := ps, after := #[{ on := 11, ground := Ground.guard }], guard := some (11, true) }) (v := ?_) rfl (by kernel_rfl) (by kernel_rfl) (by kernel_rfl) (fun _ _ _ h => hpq _ _ _ _ _ h) (Or.inl ⟨by kernel_rfl, ?_⟩) (by assumption) ?_
  rotate_left 1
  · (intro w hSw; (try dsimp only at hSw); go_simp); first | done | (with_reducible rfl)
  try simp only [Act.put, List.setIfInBounds_toArray, List.set_cons_zero, List.set_cons_succ]
  refine wpAnyH_take (i := 14) (oi := { dst := some 342, op := Op.indexAddr 43 (Operand.tmp 340) (Operand.tmp 341), type := 0, pos := ps, after := #[{ on := 12, ground := Ground.data }, { on := 13, ground := Ground.data }, { on := 11, ground := Ground.guard }], guard := some (11, true) }) (v := ?_) rfl (by kernel_rfl) (by kernel_rfl) (by kernel_rfl) (fun _ _ _ h => hpq _ _ _ _ _ h) (Or.inl ⟨by kernel_rfl, ?_⟩) (by assumption) ?_
  rotate_left 1
  · (intro w hSw; (try dsimp only at hSw); go_simp); first | done | (with_reducible rfl)
  try simp only [Act.put, List.setIfInBounds_toArray, List.set_cons_zero, List.set_cons_succ]
  refine wpAnyH_take (i := 15) (oi := { dst := some 343, op := Op.load 4 (Operand.tmp 342), type := 4, pos := ps, after := #[{ on := 14, ground := Ground.data }, { on := 11, ground := Ground.guard }], guard := some (11, true) }) (v := ?_) rfl (by kernel_rfl) (by kernel_rfl) (by kernel_rfl) (fun _ _ _ h => hpq _ _ _ _ _ h) (Or.inl ⟨by kernel_rfl, ?_⟩) (by assumption) ?_
  rotate_left 1
  · (intro w hSw; (try dsimp only at hSw); go_simp); first | done | (with_reducible rfl)
  try simp only [Act.put, List.setIfInBounds_toArray, List.set_cons_zero, List.set_cons_succ]
  refine wpAnyH_take (i := 16) (oi := { dst := some 344, op := Op.unOp UnOp.not 4 (Operand.tmp 343), type := 4, pos := ps, after := #[{ on := 15, ground := Ground.data }, { on := 11, ground := Ground.guard }], guard := some (11, true) }) (v := ?_) rfl (by kernel_rfl) (by kernel_rfl) (by kernel_rfl) (fun _ _ _ h => hpq _ _ _ _ _ h) (Or.inl ⟨by kernel_rfl, ?_⟩) (by assumption) ?_
  rotate_left 1
  · (intro w hSw; (try dsimp only at hSw); go_simp); first | done | (with_reducible rfl)
  try simp only [Act.put, List.setIfInBounds_toArray, List.set_cons_zero, List.set_cons_succ]
  refine wpAnyH_take (i := 17) (oi := { dst := some 345, op := Op.pick (Operand.tmp 339) (Operand.tmp 344) (Operand.const (Value.bool false)), type := 4, pos := ps, after := #[{ on := 11, ground := Ground.data }, { on := 16, ground := Ground.data }], guard := none }) (v := ?_) rfl (by kernel_rfl) (by kernel_rfl) (by kernel_rfl) (fun _ _ _ h => hpq _ _ _ _ _ h) (Or.inl ⟨by kernel_rfl, ?_⟩) (by assumption) ?_
  rotate_left 1
  · (intro w hSw; (try dsimp only at hSw); go_simp); first | done | (with_reducible rfl)
  try simp only [Act.put, List.setIfInBounds_toArray, List.set_cons_zero, List.set_cons_succ]
  refine wpAnyH_take (i := 18) (oi := { dst := some 346, op := Op.move (Operand.tmp 345), type := 4, pos := ps, after := #[{ on := 17, ground := Ground.data }, { on := 11, ground := Ground.chain }], guard := none }) (v := ?_) rfl (by kernel_rfl) (by kernel_rfl) (by kernel_rfl) (fun _ _ _ h => hpq _ _ _ _ _ h) (Or.inl ⟨by kernel_rfl, ?_⟩) (by assumption) ?_
  rotate_left 1
  · (intro w hSw; (try dsimp only at hSw); go_simp); first | done | (with_reducible rfl)
  try simp only [Act.put, List.setIfInBounds_toArray, List.set_cons_zero, List.set_cons_succ]
  refine wpAnyH_take (i := 19) (oi := { dst := some 347, op := Op.move (Operand.tmp 0), type := 32, pos := ps, after := #[{ on := 18, ground := Ground.guard }], guard := some (18, true) }) (v := ?_) rfl (by kernel_rfl) (by kernel_rfl) (by kernel_rfl) (fun _ _ _ h => hpq _ _ _ _ _ h) (Or.inl ⟨by kernel_rfl, ?_⟩) (by assumption) ?_
  rotate_left 1
  · (intro w hSw; (try dsimp only at hSw); go_simp); first | done | (with_reducible rfl)
  try simp only [Act.put, List.setIfInBounds_toArray, List.set_cons_zero, List.set_cons_succ]
  refine wpAnyH_take (i := 20) (oi := { dst := some 348, op := Op.move (Operand.tmp 27), type := 3, pos := ps, after := #[{ on := 18, ground := Ground.guard }], guard := some (18, true) }) (v := ?_) rfl (by kernel_rfl) (by kernel_rfl) (by kernel_rfl) (fun _ _ _ h => hpq _ _ _ _ _ h) (Or.inl ⟨by kernel_rfl, ?_⟩) (by assumption) ?_
  rotate_left 1
  · (intro w hSw; (try dsimp only at hSw); go_simp); first | done | (with_reducible rfl)
  try simp only [Act.put, List.setIfInBounds_toArray, List.set_cons_zero, List.set_cons_succ]
  refine wpAnyH_take (i := 21) (oi := { dst := some 349, op := Op.indexAddr 32 (Operand.tmp 347) (Operand.tmp 348), type := 0, pos := ps, after := #[{ on := 19, ground := Ground.data }, { on := 20, ground := Ground.data }, { on := 18, ground := Ground.guard }], guard := some (18, true) }) (v := ?_) rfl (by kernel_rfl) (by kernel_rfl) (by kernel_rfl) (fun _ _ _ h => hpq _ _ _ _ _ h) (Or.inl ⟨by kernel_rfl, ?_⟩) (by assumption) ?_
  rotate_left 1
  · (intro w hSw; (try dsimp only at hSw); go_simp); first | done | (with_reducible rfl)
  try simp only [Act.put, List.setIfInBounds_toArray, List.set_cons_zero, List.set_cons_succ]
  refine wpAnyH_take (i := 22) (oi := { dst := some 350, op := Op.fieldAddr 35 (Operand.tmp 349) 4, type := 0, pos := ps, after := #[{ on := 21, ground := Ground.data }, { on := 18, ground := Ground.guard }], guard := some (18, true) }) (v := ?_) rfl (by kernel_rfl) (by kernel_rfl) (by kernel_rfl) (fun _ _ _ h => hpq _ _ _ _ _ h) (Or.inl ⟨by kernel_rfl, ?_⟩) (by assumption) ?_
  rotate_left 1
  · (intro w hSw; (try dsimp only at hSw); go_simp); first | done | (with_reducible rfl)
  try simp only [Act.put, List.setIfInBounds_toArray, List.set_cons_zero, List.set_cons_succ]
  refine wpAnyH_take (i := 23) (oi := { dst := some 351, op := Op.load 4 (Operand.tmp 350), type := 4, pos := ps, after := #[{ on := 22, ground := Ground.data }, { on := 18, ground := Ground.guard }], guard := some (18, true) }) (v := ?_) rfl (by kernel_rfl) (by kernel_rfl) (by kernel_rfl) (fun _ _ _ h => hpq _ _ _ _ _ h) (Or.inl ⟨by kernel_rfl, ?_⟩) (by assumption) ?_
  rotate_left 1
  · (intro w hSw; (try dsimp only at hSw); go_simp); first | done | (with_reducible rfl)
  try simp only [Act.put, List.setIfInBounds_toArray, List.set_cons_zero, List.set_cons_succ]
  refine wpAnyH_take (i := 24) (oi := { dst := some 352, op := Op.unOp UnOp.not 4 (Operand.tmp 351), type := 4, pos := ps, after := #[{ on := 23, ground := Ground.data }, { on := 18, ground := Ground.guard }], guard := some (18, true) }) (v := ?_) rfl (by kernel_rfl) (by kernel_rfl) (by kernel_rfl) (fun _ _ _ h => hpq _ _ _ _ _ h) (Or.inl ⟨by kernel_rfl, ?_⟩) (by assumption) ?_
  rotate_left 1
  · (intro w hSw; (try dsimp only at hSw); go_simp); first | done | (with_reducible rfl)
  try simp only [Act.put, List.setIfInBounds_toArray, List.set_cons_zero, List.set_cons_succ]
  refine wpAnyH_take (i := 25) (oi := { dst := some 353, op := Op.pick (Operand.tmp 346) (Operand.tmp 352) (Operand.const (Value.bool false)), type := 4, pos := ps, after := #[{ on := 18, ground := Ground.data }, { on := 24, ground := Ground.data }], guard := none }) (v := ?_) rfl (by kernel_rfl) (by kernel_rfl) (by kernel_rfl) (fun _ _ _ h => hpq _ _ _ _ _ h) (Or.inl ⟨by kernel_rfl, ?_⟩) (by assumption) ?_
  rotate_left 1
  · (intro w hSw; (try dsimp only at hSw); go_simp); first | done | (with_reducible rfl)
  try simp only [Act.put, List.setIfInBounds_toArray, List.set_cons_zero, List.set_cons_succ]
  refine wpAnyH_take (i := 26) (oi := { dst := some 354, op := Op.move (Operand.tmp 353), type := 4, pos := ps, after := #[{ on := 25, ground := Ground.data }, { on := 18, ground := Ground.chain }], guard := none }) (v := ?_) rfl (by kernel_rfl) (by kernel_rfl) (by kernel_rfl) (fun _ _ _ h => hpq _ _ _ _ _ h) (Or.inl ⟨by kernel_rfl, ?_⟩) (by assumption) ?_
  rotate_left 1
  · (intro w hSw; (try dsimp only at hSw); go_simp); first | done | (with_reducible rfl)
  try simp only [Act.put, List.setIfInBounds_toArray, List.set_cons_zero, List.set_cons_succ]
  refine wpAnyH_take (i := 27) (oi := { dst := some 355, op := Op.move (Operand.tmp 0), type := 32, pos := ps, after := #[{ on := 26, ground := Ground.guard }], guard := some (26, true) }) (v := ?_) rfl (by kernel_rfl) (by kernel_rfl) (by kernel_rfl) (fun _ _ _ h => hpq _ _ _ _ _ h) (Or.inl ⟨by kernel_rfl, ?_⟩) (by assumption) ?_
  rotate_left 1
  · (intro w hSw; (try dsimp only at hSw); go_simp); first | done | (with_reducible rfl)
  try simp only [Act.put, List.setIfInBounds_toArray, List.set_cons_zero, List.set_cons_succ]
  refine wpAnyH_take (i := 28) (oi := { dst := some 356, op := Op.move (Operand.tmp 27), type := 3, pos := ps, after := #[{ on := 26, ground := Ground.guard }], guard := some (26, true) }) (v := ?_) rfl (by kernel_rfl) (by kernel_rfl) (by kernel_rfl) (fun _ _ _ h => hpq _ _ _ _ _ h) (Or.inl ⟨by kernel_rfl, ?_⟩) (by assumption) ?_
  rotate_left 1
  · (intro w hSw; (try dsimp only at hSw); go_simp); first | done | (with_reducible rfl)
  try simp only [Act.put, List.setIfInBounds_toArray, List.set_cons_zero, List.set_cons_succ]
  refine wpAnyH_take (i := 29) (oi := { dst := some 357, op := Op.indexAddr 32 (Operand.tmp 355) (Operand.tmp 356), type := 0, pos := ps, after := #[{ on := 27, ground := Ground.data }, { on := 28, ground := Ground.data }, { on := 26, ground := Ground.guard }], guard := some (26, true) }) (v := ?_) rfl (by kernel_rfl) (by kernel_rfl) (by kernel_rfl) (fun _ _ _ h => hpq _ _ _ _ _ h) (Or.inl ⟨by kernel_rfl, ?_⟩) (by assumption) ?_
  rotate_left 1
  · (intro w hSw; (try dsimp only at hSw); go_simp); first | done | (with_reducible rfl)
  try simp only [Act.put, List.setIfInBounds_toArray, List.set_cons_zero, List.set_cons_succ]
  refine wpAnyH_take (i := 30) (oi := { dst := some 358, op := Op.fieldAddr 35 (Operand.tmp 357) 1, type := 0, pos := ps, after := #[{ on := 29, ground := Ground.data }, { on := 26, ground := Ground.guard }], guard := some (26, true) }) (v := ?_) rfl (by kernel_rfl) (by kernel_rfl) (by kernel_rfl) (fun _ _ _ h => hpq _ _ _ _ _ h) (Or.inl ⟨by kernel_rfl, ?_⟩) (by assumption) ?_
  rotate_left 1
  · (intro w hSw; (try dsimp only at hSw); go_simp); first | done | (with_reducible rfl)
  try simp only [Act.put, List.setIfInBounds_toArray, List.set_cons_zero, List.set_cons_succ]
  refine wpAnyH_take (i := 31) (oi := { dst := some 359, op := Op.load 2 (Operand.tmp 358), type := 2, pos := ps, after := #[{ on := 30, ground := Ground.data }, { on := 26, ground := Ground.guard }], guard := some (26, true) }) (v := ?_) rfl (by kernel_rfl) (by kernel_rfl) (by kernel_rfl) (fun _ _ _ h => hpq _ _ _ _ _ h) (Or.inl ⟨by kernel_rfl, ?_⟩) (by assumption) ?_
  rotate_left 1
  · (intro w hSw; (try dsimp only at hSw); go_simp); first | done | (with_reducible rfl)
  try simp only [Act.put, List.setIfInBounds_toArray, List.set_cons_zero, List.set_cons_succ]
  refine wpAnyH_take (i := 32) (oi := { dst := some 360, op := Op.binOp BinOp.gtr 2 (Operand.tmp 359) (Operand.const (Value.int IntKind.i64 0)) 2, type := 4, pos := ps, after := #[{ on := 31, ground := Ground.data }, { on := 26, ground := Ground.guard }], guard := some (26, true) }) (v := ?_) rfl (by kernel_rfl) (by kernel_rfl) (by kernel_rfl) (fun _ _ _ h => hpq _ _ _ _ _ h) (Or.inl ⟨by kernel_rfl, ?_⟩) (by assumption) ?_
  rotate_left 1
  · (intro w hSw; (try dsimp only at hSw); go_simp); first | done | (with_reducible rfl)
  try simp only [Act.put, List.setIfInBounds_toArray, List.set_cons_zero, List.set_cons_succ]
  refine wpAnyH_take (i := 33) (oi := { dst := some 361, op := Op.pick (Operand.tmp 354) (Operand.tmp 360) (Operand.const (Value.bool false)), type := 4, pos := ps, after := #[{ on := 26, ground := Ground.data }, { on := 32, ground := Ground.data }], guard := none }) (v := ?_) rfl (by kernel_rfl) (by kernel_rfl) (by kernel_rfl) (fun _ _ _ h => hpq _ _ _ _ _ h) (Or.inl ⟨by kernel_rfl, ?_⟩) (by assumption) ?_
  rotate_left 1
  · (intro w hSw; (try dsimp only at hSw); go_simp); first | done | (with_reducible rfl)
  try simp only [Act.put, List.setIfInBounds_toArray, List.set_cons_zero, List.set_cons_succ]
  refine wpAnyH_take (i := 34) (oi := { dst := some 362, op := Op.move (Operand.tmp 361), type := 4, pos := ps, after := #[{ on := 33, ground := Ground.data }, { on := 26, ground := Ground.chain }], guard := none }) (v := ?_) rfl (by kernel_rfl) (by kernel_rfl) (by kernel_rfl) (fun _ _ _ h => hpq _ _ _ _ _ h) (Or.inl ⟨by kernel_rfl, ?_⟩) (by assumption) ?_
  rotate_left 1
  · (intro w hSw; (try dsimp only at hSw); go_simp); first | done | (with_reducible rfl)
  try simp only [Act.put, List.setIfInBounds_toArray, List.set_cons_zero, List.set_cons_succ]
  refine wpAnyH_take (i := 35) (oi := { dst := some 363, op := Op.move (Operand.tmp 0), type := 32, pos := ps, after := #[{ on := 34, ground := Ground.guard }], guard := some (34, true) }) (v := ?_) rfl (by kernel_rfl) (by kernel_rfl) (by kernel_rfl) (fun _ _ _ h => hpq _ _ _ _ _ h) (Or.inl ⟨by kernel_rfl, ?_⟩) (by assumption) ?_
  rotate_left 1
  · (intro w hSw; (try dsimp only at hSw); go_simp); first | done | (with_reducible rfl)
  try simp only [Act.put, List.setIfInBounds_toArray, List.set_cons_zero, List.set_cons_succ]
  refine wpAnyH_take (i := 36) (oi := { dst := some 364, op := Op.move (Operand.tmp 27), type := 3, pos := ps, after := #[{ on := 34, ground := Ground.guard }], guard := some (34, true) }) (v := ?_) rfl (by kernel_rfl) (by kernel_rfl) (by kernel_rfl) (fun _ _ _ h => hpq _ _ _ _ _ h) (Or.inl ⟨by kernel_rfl, ?_⟩) (by assumption) ?_
  rotate_left 1
  · (intro w hSw; (try dsimp only at hSw); go_simp); first | done | (with_reducible rfl)
  try simp only [Act.put, List.setIfInBounds_toArray, List.set_cons_zero, List.set_cons_succ]
  refine wpAnyH_take (i := 37) (oi := { dst := some 365, op := Op.indexAddr 32 (Operand.tmp 363) (Operand.tmp 364), type := 0, pos := ps, after := #[{ on := 35, ground := Ground.data }, { on := 36, ground := Ground.data }, { on := 34, ground := Ground.guard }], guard := some (34, true) }) (v := ?_) rfl (by kernel_rfl) (by kernel_rfl) (by kernel_rfl) (fun _ _ _ h => hpq _ _ _ _ _ h) (Or.inl ⟨by kernel_rfl, ?_⟩) (by assumption) ?_
  rotate_left 1
  · (intro w hSw; (try dsimp only at hSw); go_simp); first | done | (with_reducible rfl)
  try simp only [Act.put, List.setIfInBounds_toArray, List.set_cons_zero, List.set_cons_succ]
  refine wpAnyH_take (i := 38) (oi := { dst := some 366, op := Op.load 35 (Operand.tmp 365), type := 35, pos := ps, after := #[{ on := 37, ground := Ground.data }, { on := 34, ground := Ground.guard }], guard := some (34, true) }) (v := ?_) rfl (by kernel_rfl) (by kernel_rfl) (by kernel_rfl) (fun _ _ _ h => hpq _ _ _ _ _ h) (Or.inl ⟨by kernel_rfl, ?_⟩) (by assumption) ?_
  rotate_left 1
  · (intro w hSw; (try dsimp only at hSw); go_simp); first | done | (with_reducible rfl)
  try simp only [Act.put, List.setIfInBounds_toArray, List.set_cons_zero, List.set_cons_succ]
  refine wpAnyH_take (i := 40) (oi := { dst := some 368, op := Op.move (Operand.tmp 26), type := 3, pos := ps, after := #[{ on := 34, ground := Ground.guard }], guard := some (34, true) }) (v := ?_) rfl (by kernel_rfl) (by kernel_rfl) (by kernel_rfl) (fun _ _ _ h => hpq _ _ _ _ _ h) (Or.inl ⟨by kernel_rfl, ?_⟩) (by assumption) ?_
  rotate_left 1
  · (intro w hSw; (try dsimp only at hSw); go_simp); first | done | (with_reducible rfl)
  try simp only [Act.put, List.setIfInBounds_toArray, List.set_cons_zero, List.set_cons_succ]
  refine wpAnyH_ready (rs := [39]) (by kernel_rfl) (by simp) ?_
  refine AllReadyH.cons (o := { dst := some 367, op := Op.call { callee := Callee.value (Operand.func 27), args := #[Operand.tmp 366], argTypes := #[35] }, type := 3, pos := ps, after := #[{ on := 38, ground := Ground.data }, { on := 34, ground := Ground.chain }, { on := 34, ground := Ground.guard }], guard := some (34, true) }) rfl (fun K hK => ?_) AllReadyH.nil
  go_simp
  (go_at_call 27; refine (unhide ZS).mono ?_; rintro e w7 ⟨rfl, hb7⟩)
  go_wp2_with fail
  refine hK.out _ _ ?_ (fun hHeld => ?_)
  · exact unhide KJ _ hb7
  clear hK K
  try simp only [Act.put, List.setIfInBounds_toArray, List.set_cons_zero, List.set_cons_succ]
  refine wpAnyH_take (i := 41) (oi := { dst := some 369, op := Op.binOp BinOp.eql 3 (Operand.tmp 367) (Operand.tmp 368) 3, type := 4, pos := ps, after := #[{ on := 39, ground := Ground.data }, { on := 40, ground := Ground.data }, { on := 34, ground := Ground.guard }], guard := some (34, true) }) (v := ?_) rfl (by kernel_rfl) (by kernel_rfl) (by kernel_rfl) (fun _ _ _ h => hpq _ _ _ _ _ h) (Or.inl ⟨by kernel_rfl, ?_⟩) (by assumption) ?_
  rotate_left 1
  · (intro w hSw; (try dsimp only at hSw); go_simp); first | done | (with_reducible rfl)
  try simp only [Act.put, List.setIfInBounds_toArray, List.set_cons_zero, List.set_cons_succ]
  refine wpAnyH_take (i := 42) (oi := { dst := some 370, op := Op.pick (Operand.tmp 362) (Operand.tmp 369) (Operand.const (Value.bool false)), type := 4, pos := ps, after := #[{ on := 34, ground := Ground.data }, { on := 41, ground := Ground.data }], guard := none }) (v := ?_) rfl (by kernel_rfl) (by kernel_rfl) (by kernel_rfl) (fun _ _ _ h => hpq _ _ _ _ _ h) (Or.inl ⟨by kernel_rfl, ?_⟩) (by assumption) ?_
  rotate_left 1
  · (intro w hSw; (try dsimp only at hSw); go_simp); first | done | (with_reducible rfl)
  try simp only [Act.put, List.setIfInBounds_toArray, List.set_cons_zero, List.set_cons_succ]
  refine wpAnyH_take (i := 43) (oi := { dst := some 371, op := Op.move (Operand.tmp 370), type := 4, pos := ps, after := #[{ on := 42, ground := Ground.data }, { on := 39, ground := Ground.chain }], guard := none }) (v := ?_) rfl (by kernel_rfl) (by kernel_rfl) (by kernel_rfl) (fun _ _ _ h => hpq _ _ _ _ _ h) (Or.inl ⟨by kernel_rfl, ?_⟩) (by assumption) ?_
  rotate_left 1
  · (intro w hSw; (try dsimp only at hSw); go_simp); first | done | (with_reducible rfl)
  try simp only [Act.put, List.setIfInBounds_toArray, List.set_cons_zero, List.set_cons_succ]
  refine wpAnyH_take (i := 44) (oi := { dst := some 372, op := Op.move (Operand.tmp 24), type := 2, pos := ps, after := #[{ on := 43, ground := Ground.guard }], guard := some (43, true) }) (v := ?_) rfl (by kernel_rfl) (by kernel_rfl) (by kernel_rfl) (fun _ _ _ h => hpq _ _ _ _ _ h) (Or.inl ⟨by kernel_rfl, ?_⟩) (by assumption) ?_
  rotate_left 1
  · (intro w hSw; (try dsimp only at hSw); go_simp); first | done | (with_reducible rfl)
  try simp only [Act.put, List.setIfInBounds_toArray, List.set_cons_zero, List.set_cons_succ]
  refine wpAnyH_take (i := 45) (oi := { dst := some 373, op := Op.move (Operand.tmp 21), type := 2, pos := ps, after := #[{ on := 43, ground := Ground.guard }], guard := some (43, true) }) (v := ?_) rfl (by kernel_rfl) (by kernel_rfl) (by kernel_rfl) (fun _ _ _ h => hpq _ _ _ _ _ h) (Or.inl ⟨by kernel_rfl, ?_⟩) (by assumption) ?_
  rotate_left 1
  · (intro w hSw; (try dsimp only at hSw); go_simp); first | done | (with_reducible rfl)
  try simp only [Act.put, List.setIfInBounds_toArray, List.set_cons_zero, List.set_cons_succ]
  refine wpAnyH_take (i := 46) (oi := { dst := some 374, op := Op.binOp BinOp.gtr 2 (Operand.tmp 372) (Operand.tmp 373) 2, type := 4, pos := ps, after := #[{ on := 44, ground := Ground.data }, { on := 45, ground := Ground.data }, { on := 43, ground := Ground.guard }], guard := some (43, true) }) (v := ?_) rfl (by kernel_rfl) (by kernel_rfl) (by kernel_rfl) (fun _ _ _ h => hpq _ _ _ _ _ h) (Or.inl ⟨by kernel_rfl, ?_⟩) (by assumption) ?_
  rotate_left 1
  · (intro w hSw; (try dsimp only at hSw); go_simp); first | done | (with_reducible rfl)
  try simp only [Act.put, List.setIfInBounds_toArray, List.set_cons_zero, List.set_cons_succ]
  refine wpAnyH_take (i := 47) (oi := { dst := some 375, op := Op.pick (Operand.tmp 371) (Operand.tmp 374) (Operand.const (Value.bool false)), type := 4, pos := ps, after := #[{ on := 43, ground := Ground.data }, { on := 46, ground := Ground.data }], guard := none }) (v := ?_) rfl (by kernel_rfl) (by kernel_rfl) (by kernel_rfl) (fun _ _ _ h => hpq _ _ _ _ _ h) (Or.inl ⟨by kernel_rfl, ?_⟩) (by assumption) ?_
  rotate_left 1
  · (intro w hSw; (try dsimp only at hSw); go_simp); first | done | (with_reducible rfl)
  try simp only [Act.put, List.setIfInBounds_toArray, List.set_cons_zero, List.set_cons_succ]
  refine wpAnyH_done (by kernel_rfl) ?_ _
  try simp only [hrt]
  exact hQ _ hb7 _ _ _ _ _ _ _ _ _ _ _ _ _ _ _ _ _ _ _ _ _ _ _ _ _ _ _ _ _ _ _ _ _ _ _ _ _ _ _ _ _ _ _ _ _ _ _ 

end Go.Proofs.Qxb6618660a
