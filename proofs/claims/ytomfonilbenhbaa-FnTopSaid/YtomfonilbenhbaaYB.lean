/-
  One round of FnTop's great loop, operation by operation. Conditions: the lexer and the naive machine stand at the same cursors.
-/
import Derived.Test.YtomfonilbenhbaaY9
namespace Go.Proofs.Ytomfonilbenhbaa
open Go.RowKit
set_option linter.unusedSimpArgs false
set_option linter.unusedVariables false
namespace Tp
open Up
theorem tsl_cut {W : World} {A' : Option Addr} {N a tb : Nat} {L : List Tok} (hm : a + N ≤ L.length) (hA : Hid (0 < N → A' = some ⟨tb, a * 6, none⟩)) (hr : Row W tb 46 (toksCells L)) : TSl W A' N L a := by
  rcases Nat.eq_zero_or_pos N with h | h
  · exact .inl h
  · exact .inr ⟨tb, hA.out h, hr, hm⟩
def left : Code → Code
  | .seq a _ => a
  | c => c
def inB : Code → Code
  | .block _ c => c
  | .loop c => c
  | c => c
/-- The body of a round. -/
noncomputable def opBody : Code := inB (left (right 2 (inB (inB (right 1 (left (right 27 top)))))))
/-- What goes on behind a round's body: any frame that keeps the named slots, both machines at one state. -/
def NextK (w0 : World) (pb tb mb c nm rb tt c2 sb ON OC bO off j : Nat) (OA : Option Addr) (L : List Tok) (S : Int → Bool) (E : Nat → Bool) (EE : Nat) (Q : Exit → Act → World → Prop) (u0 u1 u2 u3 u4 u5 u6 u10 u11 u12 u13 u15 u16 u17 u20 u21 u22 u23 u24 u25 u26 u27 u28 u29 u30 u31 u32 u33 u34 u35 u36 u37 u38 u39 u40 u41 u42 u43 u44 u45 u46 u47 u48 u49 u50 u51 u52 u53 u54 u55 u56 u57 u58 u59 u60 u61 u62 u63 u64 u65 u66 u67 u68 u69 u70 u71 u72 u73 u74 u75 u76 u77 u78 u79 u80 u81 u82 u83 u84 u85 u86 u87 u88 u89 u90 u91 u92 u93 u94 u95 u96 u97 u98 u99 u100 u101 u102 u103 u104 u105 u106 u107 u108 u109 u110 u111 u112 u113 u114 u115 u116 u117 u118 u119 u120 u121 u122 u123 u124 u125 u126 u127 u128 u129 u130 u131 u132 u133 u134 u135 u136 u137 u138 u139 u140 u141 u142 u143 u144 u145 u146 u147 u148 u149 u150 u151 u152 u153 u154 u155 u156 u157 u158 u159 u160 u161 u162 u163 u164 u165 u166 u167 u168 u169 u170 u171 u172 u173 u174 u175 u176 u177 u178 u179 u180 u181 u182 u183 u184 u185 u186 u187 u188 u189 u190 u191 u192 u193 u194 u195 u196 u197 u198 u199 u200 u201 u202 u203 u204 u205 u206 u207 u208 u209 u210 u211 u212 u213 u214 u215 u216 u217 u218 u219 u220 u225 u226 u227 u228 u229 u230 u231 u232 u233 u234 u235 u236 u237 u238 u239 u240 u241 u242 u243 u244 u245 u246 u247 u248 u249 u250 u251 u252 u253 u254 u255 u256 u257 u258 u259 u260 u261 u262 u263 u264 u265 u266 u267 u268 u269 u270 u271 u272 u273 u274 u275 u276 u277 u278 u279 u280 u281 u282 u283 u284 u285 u286 u287 u288 u289 u290 u291 u292 u293 u294 u295 u296 u297 u298 u299 u300 u301 u302 u303 u304 u305 u306 u307 u308 u309 u310 u311 u312 u313 u314 u315 u316 u317 u318 u319 u320 u321 u322 u323 u324 u325 u326 u327 u328 u329 u330 u331 u332 u333 u334 u335 u336 u337 u338 u339 u340 u341 u342 u343 u344 u345 u346 u347 u348 u349 u350 u351 u352 u353 u354 u355 u356 u357 u358 u359 u360 u361 u362 u363 u364 u365 u366 u367 u368 u369 u370 u371 u372 u373 u374 u375 u376 u377 u378 u379 u380 u381 u382 u383 u384 u385 u386 u387 u388 u389 u390 u391 u392 u393 u394 u395 u396 u397 u398 u399 u400 u401 u402 u403 u404 u405 u406 u407 u408 u409 u410 u411 u412 u413 u414 u415 u416 u417 u418 u419 u420 u421 u422 u423 : Value) : Prop :=
  ∀ (s' : PL.St) (σ' : Nat → PL.St) (w' : World) (v22 v23 v24 v25 v26 v27 v28 v29 v30 v31 v32 v33 v34 v35 v36 v225 v226 v227 v228 v229 v230 v231 v232 v233 v234 v235 v236 v237 v238 v239 v240 v241 v242 v243 v244 v245 v246 v247 v248 v249 v250 v251 v252 v253 v254 v255 v256 v257 v258 v259 v260 v261 v262 v263 v264 v265 v266 v267 v268 v269 v270 v271 v272 v273 v274 v275 v276 v277 v278 v279 v280 v281 v282 v283 v284 v285 v286 v287 v288 v289 v290 v291 v292 v293 v294 v295 v296 v297 v298 v299 v300 v301 v302 v303 v304 v305 v306 v307 v308 v309 v310 v311 v312 v313 v314 v315 v316 v317 v318 v319 v320 v321 v322 v323 v324 v325 v326 v327 v328 v329 v330 v331 v332 v333 v334 v335 v336 v337 v338 v339 v340 v341 v342 v343 v344 v345 v346 v347 v348 v349 v350 v351 v352 v353 v354 v355 v356 v357 v358 v359 v360 v361 v362 v363 v364 v365 v366 v367 v368 v369 v370 v371 v372 v373 v374 v375 v376 v377 v378 v379 v380 v381 v382 v383 v384 v385 v386 v387 v388 v389 v390 v391 v392 v393 v394 v395 v396 v397 v398 v399 v400 v401 v402 v403 v404 v405 v406 v407 v408 v409 v410 v411 v412 v413 v414 v415 v416 v417 v418 v419 v420 v421 v422 : Value), Good S (types L) EE s' → (∀ i, i < 4 → Good S (types L) EE (σ' i)) → WS w0 w' pb tb mb c nm rb tt c2 sb L S E s' s' σ' σ' → Q .normal ⟨#[u0, u1, u2, u3, u4, u5, u6, .slice (some ⟨tt, 0, none⟩) L.length c2, .slice OA ON OC, .pointer (some ⟨rb, 0, none⟩), u10, u11, u12, u13, .pointer (some ⟨pb, 0, none⟩), u15, u16, u17, .pointer (some ⟨sb, 0, none⟩), .pointer (some ⟨sb + 1, 0, none⟩), u20, u21, v22, v23, v24, v25, v26, v27, v28, v29, v30, v31, v32, v33, v34, v35, v36, u37, u38, u39, u40, u41, u42, u43, u44, u45, u46, u47, u48, u49, u50, u51, u52, u53, u54, u55, u56, u57, u58, u59, u60, u61, u62, u63, u64, u65, u66, u67, u68, u69, u70, u71, u72, u73, u74, u75, u76, u77, u78, u79, u80, u81, u82, u83, u84, u85, u86, u87, u88, u89, u90, u91, u92, u93, u94, u95, u96, u97, u98, u99, u100, u101, u102, u103, u104, u105, u106, u107, u108, u109, u110, u111, u112, u113, u114, u115, u116, u117, u118, u119, u120, u121, u122, u123, u124, u125, u126, u127, u128, u129, u130, u131, u132, u133, u134, u135, u136, u137, u138, u139, u140, u141, u142, u143, u144, u145, u146, u147, u148, u149, u150, u151, u152, u153, u154, u155, u156, u157, u158, u159, u160, u161, u162, u163, u164, u165, u166, u167, u168, u169, u170, u171, u172, u173, u174, u175, u176, u177, u178, u179, u180, u181, u182, u183, u184, u185, u186, u187, u188, u189, u190, u191, u192, u193, u194, u195, u196, u197, u198, u199, u200, u201, u202, u203, u204, u205, u206, u207, u208, u209, u210, u211, u212, u213, u214, u215, u216, u217, u218, u219, u220, .slice (some ⟨bO, off, none⟩) ON OC, .int .i64 ON, .int .i64 (j : Int), .bool true, v225, v226, v227, v228, v229, v230, v231, v232, v233, v234, v235, v236, v237, v238, v239, v240, v241, v242, v243, v244, v245, v246, v247, v248, v249, v250, v251, v252, v253, v254, v255, v256, v257, v258, v259, v260, v261, v262, v263, v264, v265, v266, v267, v268, v269, v270, v271, v272, v273, v274, v275, v276, v277, v278, v279, v280, v281, v282, v283, v284, v285, v286, v287, v288, v289, v290, v291, v292, v293, v294, v295, v296, v297, v298, v299, v300, v301, v302, v303, v304, v305, v306, v307, v308, v309, v310, v311, v312, v313, v314, v315, v316, v317, v318, v319, v320, v321, v322, v323, v324, v325, v326, v327, v328, v329, v330, v331, v332, v333, v334, v335, v336, v337, v338, v339, v340, v341, v342, v343, v344, v345, v346, v347, v348, v349, v350, v351, v352, v353, v354, v355, v356, v357, v358, v359, v360, v361, v362, v363, v364, v365, v366, v367, v368, v369, v370, v371, v372, v373, v374, v375, v376, v377, v378, v379, v380, v381, v382, v383, v384, v385, v386, v387, v388, v389, v390, v391, v392, v393, v394, v395, v396, v397, v398, v399, v400, v401, v402, v403, v404, v405, v406, v407, v408, v409, v410, v411, v412, v413, v414, v415, v416, v417, v418, v419, v420, v421, v422, u423], []⟩ w'
set_option maxHeartbeats 4000000 in
set_option maxRecDepth 1000000 in
theorem op0 (w0 w : World) (pb tb mb c nm rb tt c2 sb ON OC bO off j B A : Nat) (OA : Option Addr) (L : List Tok) (S : Int → Bool) (E : Nat → Bool) (EE : Nat) (s : PL.St) (σ : Nat → PL.St) (Q : Exit → Act → World → Prop) (u0 u1 u2 u3 u4 u5 u6 u10 u11 u12 u13 u15 u16 u17 u20 u21 u22 u23 u24 u25 u26 u27 u28 u29 u30 u31 u32 u33 u34 u35 u36 u37 u38 u39 u40 u41 u42 u43 u44 u45 u46 u47 u48 u49 u50 u51 u52 u53 u54 u55 u56 u57 u58 u59 u60 u61 u62 u63 u64 u65 u66 u67 u68 u69 u70 u71 u72 u73 u74 u75 u76 u77 u78 u79 u80 u81 u82 u83 u84 u85 u86 u87 u88 u89 u90 u91 u92 u93 u94 u95 u96 u97 u98 u99 u100 u101 u102 u103 u104 u105 u106 u107 u108 u109 u110 u111 u112 u113 u114 u115 u116 u117 u118 u119 u120 u121 u122 u123 u124 u125 u126 u127 u128 u129 u130 u131 u132 u133 u134 u135 u136 u137 u138 u139 u140 u141 u142 u143 u144 u145 u146 u147 u148 u149 u150 u151 u152 u153 u154 u155 u156 u157 u158 u159 u160 u161 u162 u163 u164 u165 u166 u167 u168 u169 u170 u171 u172 u173 u174 u175 u176 u177 u178 u179 u180 u181 u182 u183 u184 u185 u186 u187 u188 u189 u190 u191 u192 u193 u194 u195 u196 u197 u198 u199 u200 u201 u202 u203 u204 u205 u206 u207 u208 u209 u210 u211 u212 u213 u214 u215 u216 u217 u218 u219 u220 u225 u226 u227 u228 u229 u230 u231 u232 u233 u234 u235 u236 u237 u238 u239 u240 u241 u242 u243 u244 u245 u246 u247 u248 u249 u250 u251 u252 u253 u254 u255 u256 u257 u258 u259 u260 u261 u262 u263 u264 u265 u266 u267 u268 u269 u270 u271 u272 u273 u274 u275 u276 u277 u278 u279 u280 u281 u282 u283 u284 u285 u286 u287 u288 u289 u290 u291 u292 u293 u294 u295 u296 u297 u298 u299 u300 u301 u302 u303 u304 u305 u306 u307 u308 u309 u310 u311 u312 u313 u314 u315 u316 u317 u318 u319 u320 u321 u322 u323 u324 u325 u326 u327 u328 u329 u330 u331 u332 u333 u334 u335 u336 u337 u338 u339 u340 u341 u342 u343 u344 u345 u346 u347 u348 u349 u350 u351 u352 u353 u354 u355 u356 u357 u358 u359 u360 u361 u362 u363 u364 u365 u366 u367 u368 u369 u370 u371 u372 u373 u374 u375 u376 u377 u378 u379 u380 u381 u382 u383 u384 u385 u386 u387 u388 u389 u390 u391 u392 u393 u394 u395 u396 u397 u398 u399 u400 u401 u402 u403 u404 u405 u406 u407 u408 u409 u410 u411 u412 u413 u414 u415 u416 u417 u418 u419 u420 u421 u422 u423 : Value)
    (hN : NextK w0 pb tb mb c nm rb tt c2 sb ON OC bO off j OA L S E EE Q u0 u1 u2 u3 u4 u5 u6 u10 u11 u12 u13 u15 u16 u17 u20 u21 u22 u23 u24 u25 u26 u27 u28 u29 u30 u31 u32 u33 u34 u35 u36 u37 u38 u39 u40 u41 u42 u43 u44 u45 u46 u47 u48 u49 u50 u51 u52 u53 u54 u55 u56 u57 u58 u59 u60 u61 u62 u63 u64 u65 u66 u67 u68 u69 u70 u71 u72 u73 u74 u75 u76 u77 u78 u79 u80 u81 u82 u83 u84 u85 u86 u87 u88 u89 u90 u91 u92 u93 u94 u95 u96 u97 u98 u99 u100 u101 u102 u103 u104 u105 u106 u107 u108 u109 u110 u111 u112 u113 u114 u115 u116 u117 u118 u119 u120 u121 u122 u123 u124 u125 u126 u127 u128 u129 u130 u131 u132 u133 u134 u135 u136 u137 u138 u139 u140 u141 u142 u143 u144 u145 u146 u147 u148 u149 u150 u151 u152 u153 u154 u155 u156 u157 u158 u159 u160 u161 u162 u163 u164 u165 u166 u167 u168 u169 u170 u171 u172 u173 u174 u175 u176 u177 u178 u179 u180 u181 u182 u183 u184 u185 u186 u187 u188 u189 u190 u191 u192 u193 u194 u195 u196 u197 u198 u199 u200 u201 u202 u203 u204 u205 u206 u207 u208 u209 u210 u211 u212 u213 u214 u215 u216 u217 u218 u219 u220 u225 u226 u227 u228 u229 u230 u231 u232 u233 u234 u235 u236 u237 u238 u239 u240 u241 u242 u243 u244 u245 u246 u247 u248 u249 u250 u251 u252 u253 u254 u255 u256 u257 u258 u259 u260 u261 u262 u263 u264 u265 u266 u267 u268 u269 u270 u271 u272 u273 u274 u275 u276 u277 u278 u279 u280 u281 u282 u283 u284 u285 u286 u287 u288 u289 u290 u291 u292 u293 u294 u295 u296 u297 u298 u299 u300 u301 u302 u303 u304 u305 u306 u307 u308 u309 u310 u311 u312 u313 u314 u315 u316 u317 u318 u319 u320 u321 u322 u323 u324 u325 u326 u327 u328 u329 u330 u331 u332 u333 u334 u335 u336 u337 u338 u339 u340 u341 u342 u343 u344 u345 u346 u347 u348 u349 u350 u351 u352 u353 u354 u355 u356 u357 u358 u359 u360 u361 u362 u363 u364 u365 u366 u367 u368 u369 u370 u371 u372 u373 u374 u375 u376 u377 u378 u379 u380 u381 u382 u383 u384 u385 u386 u387 u388 u389 u390 u391 u392 u393 u394 u395 u396 u397 u398 u399 u400 u401 u402 u403 u404 u405 u406 u407 u408 u409 u410 u411 u412 u413 u414 u415 u416 u417 u418 u419 u420 u421 u422 u423)
    (hW : WS w0 w pb tb mb c nm rb tt c2 sb L S E s s σ σ) (hES : Hid (ES E S)) (hT : Hid (TB EE L)) (hE : EE ≤ 65536) (hcap : L.length ≤ c ∧ c ≤ maxLen) (hcap2 : L.length ≤ c2 ∧ c2 ≤ maxLen) (hG : Hid (Good S (types L) EE s)) (hGσ : Hid (∀ i, i < 4 → Good S (types L) EE (σ i))) (hpb : w0.heap.size ≤ pb) (hrb : w0.heap.size ≤ rb) (hsw : w0.heap.size ≤ sb)
    (hcj : w.cell? ⟨bO, off + j, none⟩ = some (.int .u8 (B : Int))) (hj : j < ON) (hON : ON ≤ 1048576) (hB : B < 256) (h7 : bits BinOp.and IntKind.u8 (B : Int) 7 = 0) (hBA : (B : Int) / 8 = (A : Int)) (hA : A < 32) :
    Code.wp Try.prog opBody Q ⟨#[u0, u1, u2, u3, u4, u5, u6, .slice (some ⟨tt, 0, none⟩) L.length c2, .slice OA ON OC, .pointer (some ⟨rb, 0, none⟩), u10, u11, u12, u13, .pointer (some ⟨pb, 0, none⟩), u15, u16, u17, .pointer (some ⟨sb, 0, none⟩), .pointer (some ⟨sb + 1, 0, none⟩), u20, u21, u22, u23, u24, u25, u26, u27, u28, u29, u30, u31, u32, u33, u34, u35, u36, u37, u38, u39, u40, u41, u42, u43, u44, u45, u46, u47, u48, u49, u50, u51, u52, u53, u54, u55, u56, u57, u58, u59, u60, u61, u62, u63, u64, u65, u66, u67, u68, u69, u70, u71, u72, u73, u74, u75, u76, u77, u78, u79, u80, u81, u82, u83, u84, u85, u86, u87, u88, u89, u90, u91, u92, u93, u94, u95, u96, u97, u98, u99, u100, u101, u102, u103, u104, u105, u106, u107, u108, u109, u110, u111, u112, u113, u114, u115, u116, u117, u118, u119, u120, u121, u122, u123, u124, u125, u126, u127, u128, u129, u130, u131, u132, u133, u134, u135, u136, u137, u138, u139, u140, u141, u142, u143, u144, u145, u146, u147, u148, u149, u150, u151, u152, u153, u154, u155, u156, u157, u158, u159, u160, u161, u162, u163, u164, u165, u166, u167, u168, u169, u170, u171, u172, u173, u174, u175, u176, u177, u178, u179, u180, u181, u182, u183, u184, u185, u186, u187, u188, u189, u190, u191, u192, u193, u194, u195, u196, u197, u198, u199, u200, u201, u202, u203, u204, u205, u206, u207, u208, u209, u210, u211, u212, u213, u214, u215, u216, u217, u218, u219, u220, .slice (some ⟨bO, off, none⟩) ON OC, .int .i64 ON, .int .i64 (j : Int), .bool true, u225, u226, u227, u228, u229, u230, u231, u232, u233, u234, u235, u236, u237, u238, u239, u240, u241, u242, u243, u244, u245, u246, u247, u248, u249, u250, u251, u252, u253, u254, u255, u256, u257, u258, u259, u260, u261, u262, u263, u264, u265, u266, u267, u268, u269, u270, u271, u272, u273, u274, u275, u276, u277, u278, u279, u280, u281, u282, u283, u284, u285, u286, u287, u288, u289, u290, u291, u292, u293, u294, u295, u296, u297, u298, u299, u300, u301, u302, u303, u304, u305, u306, u307, u308, u309, u310, u311, u312, u313, u314, u315, u316, u317, u318, u319, u320, u321, u322, u323, u324, u325, u326, u327, u328, u329, u330, u331, u332, u333, u334, u335, u336, u337, u338, u339, u340, u341, u342, u343, u344, u345, u346, u347, u348, u349, u350, u351, u352, u353, u354, u355, u356, u357, u358, u359, u360, u361, u362, u363, u364, u365, u366, u367, u368, u369, u370, u371, u372, u373, u374, u375, u376, u377, u378, u379, u380, u381, u382, u383, u384, u385, u386, u387, u388, u389, u390, u391, u392, u393, u394, u395, u396, u397, u398, u399, u400, u401, u402, u403, u404, u405, u406, u407, u408, u409, u410, u411, u412, u413, u414, u415, u416, u417, u418, u419, u420, u421, u422, u423], []⟩ w := by
  have hrl : s.raw < L.length := by have := hG.out.raw; have := hT.out.len; omega
  have hnl : s.next < L.length := by have := hG.out.le; have := hT.out.len; omega
  have hL1 : L.length ≤ 65537 := by have := hT.out.len; omega
  have hLE : EE < L.length := by have := hT.out.len; omega
  have HF : Hid (PL.First (types L) EE) := by have := hT.out.first; rw [hT.out.len, Nat.add_sub_cancel] at this; exact this
  have hi0 : (0 : Int) ≤ (j : Int) := by omega
  have hi1 : (j : Int) < (ON : Int) := by omega
  conv => arg 2; whnf
  have hGs := hG.out
  go_wp2_with fail
  refine (next_any _ pb tb mb c nm L S s hW.x EE HF.out hLE hGs.le (by have := hGs.curLe; omega)).mono ?_
  rintro e w1 ⟨rfl, hg1, hx1⟩
  have hW1 := hW.lexer hg1 hpb hx1
  clear hW hg1 hx1 hcj
  obtain ⟨t, ht⟩ : ∃ t, t = L.getD s.next eofTok := ⟨_, rfl⟩
  have g0 := hW1.f.cell0
  have g9 := hW1.f.cell9
  have hn0 : (0 : Int) ≤ (s.next : Int) := by omega
  have hn1 : (s.next : Int) < (L.length : Int) := by omega
  obtain ⟨d0, d1, d2, d3, d4, d5⟩ := row_tok hW1.f.row hnl
  rw [← ht] at d0 d1 d2 d3 d4 d5
  have HTK := Lib.hid ht
  clear ht hGs
  by_cases hE' : t.ty = -1
  case pos =>
    have HE := Lib.hid hE'; clear hE'
    have hst : s.step S (types L) = s := by unfold PL.St.step; simp only [at_types, ← HTK.out, HE.out, beq_self_eq_true, if_true]
    rw [hst] at hW1
    clear hst
    go_wp2_with fail
    refine (eof_yes t _ HE).mono ?_
    rintro e w2 ⟨rfl, hb2⟩
    have hk2 := (Blk.new w1 46 #[.int .i64 t.ty, .string t.val, .string t.fn, .int .i64 t.off, .int .i64 t.line, .int .i64 t.col]).later hb2
    have hW2 := (hW1.alloc (.cells #[.int .i64 t.ty, .string t.val, .string t.fn, .int .i64 t.off, .int .i64 t.line, .int .i64 t.col] 46)).later hb2
    clear hW1 hb2 d0 d1 d2 d3 d4 d5 g0 g9
    obtain ⟨d0, d1, d2, d3, d4, d5⟩ := row_tok hW2.x.row hnl
    rw [← HTK.out] at d0 d1 d2 d3 d4 d5
    have q0 := hk2.cell 0
    have q1 := hk2.cell 1
    have q2 := hk2.cell 2
    have q3 := hk2.cell 3
    have q4 := hk2.cell 4
    have q5 := hk2.cell 5
    simp at q0 q1 q2 q3 q4 q5
    go_wp2_with fail
    go_quiet (fail)
    have hW3 := hW2.drewN nq
    clear hW2 hk2 d0 d1 d2 d3 d4 d5 q0 q1 q2 q3 q4 q5
    go_wp2_with fail
    refine (state_any _ pb tb mb c nm rb tt c2 L S E (s).raw (s).next (s).cur hW3.x hW3.f (by have := (hG.out).raw; omega) (by have := (hG.out).le; omega) (by omega)).mono ?_
    rintro e wz ⟨rfl, hbz⟩
    have HWz := Lib.hid (hW3.later hbz)
    clear hW3 hbz
    have HN := Lib.hid hN
    clear hN
    go_wp2_with fail
    exact HN.out (s) σ _ _ _ _ _ _ _ _ _ _ _ _ _ _ _ _ _ _ _ _ _ _ _ _ _ _ _ _ _ _ _ _ _ _ _ _ _ _ _ _ _ _ _ _ _ _ _ _ _ _ _ _ _ _ _ _ _ _ _ _ _ _ _ _ _ _ _ _ _ _ _ _ _ _ _ _ _ _ _ _ _ _ _ _ _ _ _ _ _ _ _ _ _ _ _ _ _ _ _ _ _ _ _ _ _ _ _ _ _ _ _ _ _ _ _ _ _ _ _ _ _ _ _ _ _ _ _ _ _ _ _ _ _ _ _ _ _ _ _ _ _ _ _ _ _ _ _ _ _ _ _ _ _ _ _ _ _ _ _ _ _ _ _ _ _ _ _ _ _ _ _ _ _ _ _ _ _ _ _ _ _ _ _ _ _ _ _ _ _ _ _ _ _ _ _ _ _ _ _ _ _ _ _ _ _ _ _ _ _ _ _ _ _ _ (hG.out) (hGσ.out) HWz.out
  case neg =>
    have HE := Lib.hid hE'; clear hE'
    have hst : s.step S (types L) = ⟨s.next + 1, PL.stop S (types L) (s.next + 1), s.cur + 1⟩ := by unfold PL.St.step; simp only [at_types, ← HTK.out, beq_eq_false_iff_ne.2 HE.out, Bool.false_eq_true, if_false]
    have HST := Lib.hid hst; clear hst
    have hlt : s.next < EE := by
      rcases Nat.lt_or_ge s.next EE with g | g
      · exact g
      · have e : s.next = EE := by have := hG.out.le; omega
        have := HF.out.eof
        rw [at_types, ← e, ← HTK.out] at this
        exact absurd this HE.out
    have hsl : PL.stop S (types L) (s.next + 1) < L.length := Nat.lt_of_le_of_lt (HF.out.stop_le hlt) hLE
    have hcu : s.cur ≤ 65536 := by have := hG.out.curLe; omega
    go_wp2_with fail
    refine (eof_no t _ HE).mono ?_
    rintro e w2 ⟨rfl, hb2⟩
    have hk2 := (Blk.new w1 46 #[.int .i64 t.ty, .string t.val, .string t.fn, .int .i64 t.off, .int .i64 t.line, .int .i64 t.col]).later hb2
    have hW2 := (hW1.alloc (.cells #[.int .i64 t.ty, .string t.val, .string t.fn, .int .i64 t.off, .int .i64 t.line, .int .i64 t.col] 46)).later hb2
    have hxb : w1.heap.size < w2.heap.size := by have := hb2.size; simp at this; omega
    have hrx : rb ≠ w1.heap.size := by have := hW1.f.blk.lt; omega
    clear hW1 hb2 d0 d1 d2 d3 d4 d5 g0 g9
    have c8 := hW2.f.cell8
    have c9 := hW2.f.cell9
    have c10 := hW2.f.cell10
    have f8 := hW2.f.blk.frozen 8
    have f9 := hW2.f.blk.frozen 9
    have f10 := hW2.f.blk.frozen 10
    go_wp2_with fail
    clear c8 c9 c10 f8 f9 f10
    have hf3 := ((hW2.f.setNext ((s.next : Int) + 1)).setRaw ((s.next : Int) + 1)).setCur ((s.cur : Int) + 1)
    have hg3 := grown_setCell (p := ⟨rb, 10, none⟩) (grown_setCell (p := ⟨rb, 8, none⟩) (grown_setCell (p := ⟨rb, 9, none⟩) (World.grownBy.refl w2 (some rb)) (.inl rfl) (.int .i64 ((s.next : Int) + 1))) (.inl rfl) (.int .i64 ((s.next : Int) + 1))) (.inl rfl) (.int .i64 ((s.cur : Int) + 1))
    have hk3 := hk2.grown hg3 (by intro e; injection e with e; exact hrx e.symm)
    have hW3 := hW2.ref (r' := ⟨s.next + 1, s.next + 1, s.cur + 1⟩) hg3 hrb (by push_cast; exact hf3)
    generalize ((w2.setCell ⟨rb, 9, none⟩ (.int .i64 ((s.next : Int) + 1))).setCell ⟨rb, 8, none⟩ (.int .i64 ((s.next : Int) + 1))).setCell ⟨rb, 10, none⟩ (.int .i64 ((s.cur : Int) + 1)) = w3 at hW3 hk3 ⊢
    clear hW2 hk2 hf3 hg3
    have hxb3 := hk3.lt
    refine (radv_any _ rb tt c2 L E S _ _ (s.next + 1) hW3.f hES.out (fun j => hT.out.range j) hsl (by omega)).mono ?_
    rintro e w4 ⟨rfl, hg4, hf4⟩
    have hW4 := hW3.ref (r' := ⟨s.next + 1, PL.stop S (types L) (s.next + 1), s.cur + 1⟩) hg4 hrb hf4
    rw [← HST.out] at hW4
    have hk4 := hk3.grown hg4 (by intro e; injection e with e; exact hrx e.symm)
    clear hW3 hk3 hg4 hf4
    obtain ⟨d0, d1, d2, d3, d4, d5⟩ := row_tok hW4.x.row hnl
    rw [← HTK.out] at d0 d1 d2 d3 d4 d5
    have q0 := hk4.cell 0
    have q1 := hk4.cell 1
    have q2 := hk4.cell 2
    have q3 := hk4.cell 3
    have q4 := hk4.cell 4
    have q5 := hk4.cell 5
    simp at q0 q1 q2 q3 q4 q5
    go_wp2_with fail
    go_quiet (fail)
    have hW5 := hW4.drewN nq
    clear hW4 hk4 d0 d1 d2 d3 d4 d5 q0 q1 q2 q3 q4 q5
    have hGn := hG.out.step HF.out
    go_wp2_with fail
    refine (state_any _ pb tb mb c nm rb tt c2 L S E (s.step S (types L)).raw (s.step S (types L)).next (s.step S (types L)).cur hW5.x hW5.f (by have := (hGn).raw; omega) (by have := (hGn).le; omega) (by omega)).mono ?_
    rintro e wz ⟨rfl, hbz⟩
    have HWz := Lib.hid (hW5.later hbz)
    clear hW5 hbz
    have HN := Lib.hid hN
    clear hN
    go_wp2_with fail
    exact HN.out (s.step S (types L)) σ _ _ _ _ _ _ _ _ _ _ _ _ _ _ _ _ _ _ _ _ _ _ _ _ _ _ _ _ _ _ _ _ _ _ _ _ _ _ _ _ _ _ _ _ _ _ _ _ _ _ _ _ _ _ _ _ _ _ _ _ _ _ _ _ _ _ _ _ _ _ _ _ _ _ _ _ _ _ _ _ _ _ _ _ _ _ _ _ _ _ _ _ _ _ _ _ _ _ _ _ _ _ _ _ _ _ _ _ _ _ _ _ _ _ _ _ _ _ _ _ _ _ _ _ _ _ _ _ _ _ _ _ _ _ _ _ _ _ _ _ _ _ _ _ _ _ _ _ _ _ _ _ _ _ _ _ _ _ _ _ _ _ _ _ _ _ _ _ _ _ _ _ _ _ _ _ _ _ _ _ _ _ _ _ _ _ _ _ _ _ _ _ _ _ _ _ _ _ _ _ _ _ _ _ _ _ _ _ _ _ _ _ _ _ (hGn) (hGσ.out) HWz.out
set_option maxHeartbeats 4000000 in
set_option maxRecDepth 1000000 in
theorem op1 (w0 w : World) (pb tb mb c nm rb tt c2 sb ON OC bO off j B A : Nat) (OA : Option Addr) (L : List Tok) (S : Int → Bool) (E : Nat → Bool) (EE : Nat) (s : PL.St) (σ : Nat → PL.St) (Q : Exit → Act → World → Prop) (u0 u1 u2 u3 u4 u5 u6 u10 u11 u12 u13 u15 u16 u17 u20 u21 u22 u23 u24 u25 u26 u27 u28 u29 u30 u31 u32 u33 u34 u35 u36 u37 u38 u39 u40 u41 u42 u43 u44 u45 u46 u47 u48 u49 u50 u51 u52 u53 u54 u55 u56 u57 u58 u59 u60 u61 u62 u63 u64 u65 u66 u67 u68 u69 u70 u71 u72 u73 u74 u75 u76 u77 u78 u79 u80 u81 u82 u83 u84 u85 u86 u87 u88 u89 u90 u91 u92 u93 u94 u95 u96 u97 u98 u99 u100 u101 u102 u103 u104 u105 u106 u107 u108 u109 u110 u111 u112 u113 u114 u115 u116 u117 u118 u119 u120 u121 u122 u123 u124 u125 u126 u127 u128 u129 u130 u131 u132 u133 u134 u135 u136 u137 u138 u139 u140 u141 u142 u143 u144 u145 u146 u147 u148 u149 u150 u151 u152 u153 u154 u155 u156 u157 u158 u159 u160 u161 u162 u163 u164 u165 u166 u167 u168 u169 u170 u171 u172 u173 u174 u175 u176 u177 u178 u179 u180 u181 u182 u183 u184 u185 u186 u187 u188 u189 u190 u191 u192 u193 u194 u195 u196 u197 u198 u199 u200 u201 u202 u203 u204 u205 u206 u207 u208 u209 u210 u211 u212 u213 u214 u215 u216 u217 u218 u219 u220 u225 u226 u227 u228 u229 u230 u231 u232 u233 u234 u235 u236 u237 u238 u239 u240 u241 u242 u243 u244 u245 u246 u247 u248 u249 u250 u251 u252 u253 u254 u255 u256 u257 u258 u259 u260 u261 u262 u263 u264 u265 u266 u267 u268 u269 u270 u271 u272 u273 u274 u275 u276 u277 u278 u279 u280 u281 u282 u283 u284 u285 u286 u287 u288 u289 u290 u291 u292 u293 u294 u295 u296 u297 u298 u299 u300 u301 u302 u303 u304 u305 u306 u307 u308 u309 u310 u311 u312 u313 u314 u315 u316 u317 u318 u319 u320 u321 u322 u323 u324 u325 u326 u327 u328 u329 u330 u331 u332 u333 u334 u335 u336 u337 u338 u339 u340 u341 u342 u343 u344 u345 u346 u347 u348 u349 u350 u351 u352 u353 u354 u355 u356 u357 u358 u359 u360 u361 u362 u363 u364 u365 u366 u367 u368 u369 u370 u371 u372 u373 u374 u375 u376 u377 u378 u379 u380 u381 u382 u383 u384 u385 u386 u387 u388 u389 u390 u391 u392 u393 u394 u395 u396 u397 u398 u399 u400 u401 u402 u403 u404 u405 u406 u407 u408 u409 u410 u411 u412 u413 u414 u415 u416 u417 u418 u419 u420 u421 u422 u423 : Value)
    (hN : NextK w0 pb tb mb c nm rb tt c2 sb ON OC bO off j OA L S E EE Q u0 u1 u2 u3 u4 u5 u6 u10 u11 u12 u13 u15 u16 u17 u20 u21 u22 u23 u24 u25 u26 u27 u28 u29 u30 u31 u32 u33 u34 u35 u36 u37 u38 u39 u40 u41 u42 u43 u44 u45 u46 u47 u48 u49 u50 u51 u52 u53 u54 u55 u56 u57 u58 u59 u60 u61 u62 u63 u64 u65 u66 u67 u68 u69 u70 u71 u72 u73 u74 u75 u76 u77 u78 u79 u80 u81 u82 u83 u84 u85 u86 u87 u88 u89 u90 u91 u92 u93 u94 u95 u96 u97 u98 u99 u100 u101 u102 u103 u104 u105 u106 u107 u108 u109 u110 u111 u112 u113 u114 u115 u116 u117 u118 u119 u120 u121 u122 u123 u124 u125 u126 u127 u128 u129 u130 u131 u132 u133 u134 u135 u136 u137 u138 u139 u140 u141 u142 u143 u144 u145 u146 u147 u148 u149 u150 u151 u152 u153 u154 u155 u156 u157 u158 u159 u160 u161 u162 u163 u164 u165 u166 u167 u168 u169 u170 u171 u172 u173 u174 u175 u176 u177 u178 u179 u180 u181 u182 u183 u184 u185 u186 u187 u188 u189 u190 u191 u192 u193 u194 u195 u196 u197 u198 u199 u200 u201 u202 u203 u204 u205 u206 u207 u208 u209 u210 u211 u212 u213 u214 u215 u216 u217 u218 u219 u220 u225 u226 u227 u228 u229 u230 u231 u232 u233 u234 u235 u236 u237 u238 u239 u240 u241 u242 u243 u244 u245 u246 u247 u248 u249 u250 u251 u252 u253 u254 u255 u256 u257 u258 u259 u260 u261 u262 u263 u264 u265 u266 u267 u268 u269 u270 u271 u272 u273 u274 u275 u276 u277 u278 u279 u280 u281 u282 u283 u284 u285 u286 u287 u288 u289 u290 u291 u292 u293 u294 u295 u296 u297 u298 u299 u300 u301 u302 u303 u304 u305 u306 u307 u308 u309 u310 u311 u312 u313 u314 u315 u316 u317 u318 u319 u320 u321 u322 u323 u324 u325 u326 u327 u328 u329 u330 u331 u332 u333 u334 u335 u336 u337 u338 u339 u340 u341 u342 u343 u344 u345 u346 u347 u348 u349 u350 u351 u352 u353 u354 u355 u356 u357 u358 u359 u360 u361 u362 u363 u364 u365 u366 u367 u368 u369 u370 u371 u372 u373 u374 u375 u376 u377 u378 u379 u380 u381 u382 u383 u384 u385 u386 u387 u388 u389 u390 u391 u392 u393 u394 u395 u396 u397 u398 u399 u400 u401 u402 u403 u404 u405 u406 u407 u408 u409 u410 u411 u412 u413 u414 u415 u416 u417 u418 u419 u420 u421 u422 u423)
    (hW : WS w0 w pb tb mb c nm rb tt c2 sb L S E s s σ σ) (hES : Hid (ES E S)) (hT : Hid (TB EE L)) (hE : EE ≤ 65536) (hcap : L.length ≤ c ∧ c ≤ maxLen) (hcap2 : L.length ≤ c2 ∧ c2 ≤ maxLen) (hG : Hid (Good S (types L) EE s)) (hGσ : Hid (∀ i, i < 4 → Good S (types L) EE (σ i))) (hpb : w0.heap.size ≤ pb) (hrb : w0.heap.size ≤ rb) (hsw : w0.heap.size ≤ sb)
    (hcj : w.cell? ⟨bO, off + j, none⟩ = some (.int .u8 (B : Int))) (hj : j < ON) (hON : ON ≤ 1048576) (hB : B < 256) (h7 : bits BinOp.and IntKind.u8 (B : Int) 7 = 1) (hBA : (B : Int) / 8 = (A : Int)) (hA : A < 32) :
    Code.wp Try.prog opBody Q ⟨#[u0, u1, u2, u3, u4, u5, u6, .slice (some ⟨tt, 0, none⟩) L.length c2, .slice OA ON OC, .pointer (some ⟨rb, 0, none⟩), u10, u11, u12, u13, .pointer (some ⟨pb, 0, none⟩), u15, u16, u17, .pointer (some ⟨sb, 0, none⟩), .pointer (some ⟨sb + 1, 0, none⟩), u20, u21, u22, u23, u24, u25, u26, u27, u28, u29, u30, u31, u32, u33, u34, u35, u36, u37, u38, u39, u40, u41, u42, u43, u44, u45, u46, u47, u48, u49, u50, u51, u52, u53, u54, u55, u56, u57, u58, u59, u60, u61, u62, u63, u64, u65, u66, u67, u68, u69, u70, u71, u72, u73, u74, u75, u76, u77, u78, u79, u80, u81, u82, u83, u84, u85, u86, u87, u88, u89, u90, u91, u92, u93, u94, u95, u96, u97, u98, u99, u100, u101, u102, u103, u104, u105, u106, u107, u108, u109, u110, u111, u112, u113, u114, u115, u116, u117, u118, u119, u120, u121, u122, u123, u124, u125, u126, u127, u128, u129, u130, u131, u132, u133, u134, u135, u136, u137, u138, u139, u140, u141, u142, u143, u144, u145, u146, u147, u148, u149, u150, u151, u152, u153, u154, u155, u156, u157, u158, u159, u160, u161, u162, u163, u164, u165, u166, u167, u168, u169, u170, u171, u172, u173, u174, u175, u176, u177, u178, u179, u180, u181, u182, u183, u184, u185, u186, u187, u188, u189, u190, u191, u192, u193, u194, u195, u196, u197, u198, u199, u200, u201, u202, u203, u204, u205, u206, u207, u208, u209, u210, u211, u212, u213, u214, u215, u216, u217, u218, u219, u220, .slice (some ⟨bO, off, none⟩) ON OC, .int .i64 ON, .int .i64 (j : Int), .bool true, u225, u226, u227, u228, u229, u230, u231, u232, u233, u234, u235, u236, u237, u238, u239, u240, u241, u242, u243, u244, u245, u246, u247, u248, u249, u250, u251, u252, u253, u254, u255, u256, u257, u258, u259, u260, u261, u262, u263, u264, u265, u266, u267, u268, u269, u270, u271, u272, u273, u274, u275, u276, u277, u278, u279, u280, u281, u282, u283, u284, u285, u286, u287, u288, u289, u290, u291, u292, u293, u294, u295, u296, u297, u298, u299, u300, u301, u302, u303, u304, u305, u306, u307, u308, u309, u310, u311, u312, u313, u314, u315, u316, u317, u318, u319, u320, u321, u322, u323, u324, u325, u326, u327, u328, u329, u330, u331, u332, u333, u334, u335, u336, u337, u338, u339, u340, u341, u342, u343, u344, u345, u346, u347, u348, u349, u350, u351, u352, u353, u354, u355, u356, u357, u358, u359, u360, u361, u362, u363, u364, u365, u366, u367, u368, u369, u370, u371, u372, u373, u374, u375, u376, u377, u378, u379, u380, u381, u382, u383, u384, u385, u386, u387, u388, u389, u390, u391, u392, u393, u394, u395, u396, u397, u398, u399, u400, u401, u402, u403, u404, u405, u406, u407, u408, u409, u410, u411, u412, u413, u414, u415, u416, u417, u418, u419, u420, u421, u422, u423], []⟩ w := by
  have hrl : s.raw < L.length := by have := hG.out.raw; have := hT.out.len; omega
  have hnl : s.next < L.length := by have := hG.out.le; have := hT.out.len; omega
  have hL1 : L.length ≤ 65537 := by have := hT.out.len; omega
  have hLE : EE < L.length := by have := hT.out.len; omega
  have HF : Hid (PL.First (types L) EE) := by have := hT.out.first; rw [hT.out.len, Nat.add_sub_cancel] at this; exact this
  have hi0 : (0 : Int) ≤ (j : Int) := by omega
  have hi1 : (j : Int) < (ON : Int) := by omega
  conv => arg 2; whnf
  have hGs := hG.out
  go_wp2_with fail
  refine (next_any _ pb tb mb c nm L S s hW.x EE HF.out hLE hGs.le (by have := hGs.curLe; omega)).mono ?_
  rintro e w1 ⟨rfl, hg1, hx1⟩
  have hW1 := hW.lexer hg1 hpb hx1
  clear hW hg1 hx1 hcj
  obtain ⟨t, ht⟩ : ∃ t, t = L.getD s.next eofTok := ⟨_, rfl⟩
  have g0 := hW1.f.cell0
  have g9 := hW1.f.cell9
  have hn0 : (0 : Int) ≤ (s.next : Int) := by omega
  have hn1 : (s.next : Int) < (L.length : Int) := by omega
  obtain ⟨d0, d1, d2, d3, d4, d5⟩ := row_tok hW1.f.row hnl
  rw [← ht] at d0 d1 d2 d3 d4 d5
  have HTK := Lib.hid ht
  clear ht hGs
  by_cases hE' : t.ty = -1
  case pos =>
    have HE := Lib.hid hE'; clear hE'
    have hst : s.step S (types L) = s := by unfold PL.St.step; simp only [at_types, ← HTK.out, HE.out, beq_self_eq_true, if_true]
    rw [hst] at hW1
    clear hst
    go_wp2_with fail
    refine (eof_yes t _ HE).mono ?_
    rintro e w2 ⟨rfl, hb2⟩
    have hk2 := (Blk.new w1 46 #[.int .i64 t.ty, .string t.val, .string t.fn, .int .i64 t.off, .int .i64 t.line, .int .i64 t.col]).later hb2
    have hW2 := (hW1.alloc (.cells #[.int .i64 t.ty, .string t.val, .string t.fn, .int .i64 t.off, .int .i64 t.line, .int .i64 t.col] 46)).later hb2
    clear hW1 hb2 d0 d1 d2 d3 d4 d5 g0 g9
    obtain ⟨d0, d1, d2, d3, d4, d5⟩ := row_tok hW2.x.row hnl
    rw [← HTK.out] at d0 d1 d2 d3 d4 d5
    have q0 := hk2.cell 0
    have q1 := hk2.cell 1
    have q2 := hk2.cell 2
    have q3 := hk2.cell 3
    have q4 := hk2.cell 4
    have q5 := hk2.cell 5
    simp at q0 q1 q2 q3 q4 q5
    go_wp2_with fail
    go_quiet (fail)
    have hW3 := hW2.drewN nq
    clear hW2 hk2 d0 d1 d2 d3 d4 d5 q0 q1 q2 q3 q4 q5
    go_wp2_with fail
    refine (state_any _ pb tb mb c nm rb tt c2 L S E (s).raw (s).next (s).cur hW3.x hW3.f (by have := (hG.out).raw; omega) (by have := (hG.out).le; omega) (by omega)).mono ?_
    rintro e wz ⟨rfl, hbz⟩
    have HWz := Lib.hid (hW3.later hbz)
    clear hW3 hbz
    have HN := Lib.hid hN
    clear hN
    go_wp2_with fail
    exact HN.out (s) σ _ _ _ _ _ _ _ _ _ _ _ _ _ _ _ _ _ _ _ _ _ _ _ _ _ _ _ _ _ _ _ _ _ _ _ _ _ _ _ _ _ _ _ _ _ _ _ _ _ _ _ _ _ _ _ _ _ _ _ _ _ _ _ _ _ _ _ _ _ _ _ _ _ _ _ _ _ _ _ _ _ _ _ _ _ _ _ _ _ _ _ _ _ _ _ _ _ _ _ _ _ _ _ _ _ _ _ _ _ _ _ _ _ _ _ _ _ _ _ _ _ _ _ _ _ _ _ _ _ _ _ _ _ _ _ _ _ _ _ _ _ _ _ _ _ _ _ _ _ _ _ _ _ _ _ _ _ _ _ _ _ _ _ _ _ _ _ _ _ _ _ _ _ _ _ _ _ _ _ _ _ _ _ _ _ _ _ _ _ _ _ _ _ _ _ _ _ _ _ _ _ _ _ _ _ _ _ _ _ _ _ _ _ _ (hG.out) (hGσ.out) HWz.out
  case neg =>
    have HE := Lib.hid hE'; clear hE'
    have hst : s.step S (types L) = ⟨s.next + 1, PL.stop S (types L) (s.next + 1), s.cur + 1⟩ := by unfold PL.St.step; simp only [at_types, ← HTK.out, beq_eq_false_iff_ne.2 HE.out, Bool.false_eq_true, if_false]
    have HST := Lib.hid hst; clear hst
    have hlt : s.next < EE := by
      rcases Nat.lt_or_ge s.next EE with g | g
      · exact g
      · have e : s.next = EE := by have := hG.out.le; omega
        have := HF.out.eof
        rw [at_types, ← e, ← HTK.out] at this
        exact absurd this HE.out
    have hsl : PL.stop S (types L) (s.next + 1) < L.length := Nat.lt_of_le_of_lt (HF.out.stop_le hlt) hLE
    have hcu : s.cur ≤ 65536 := by have := hG.out.curLe; omega
    go_wp2_with fail
    refine (eof_no t _ HE).mono ?_
    rintro e w2 ⟨rfl, hb2⟩
    have hk2 := (Blk.new w1 46 #[.int .i64 t.ty, .string t.val, .string t.fn, .int .i64 t.off, .int .i64 t.line, .int .i64 t.col]).later hb2
    have hW2 := (hW1.alloc (.cells #[.int .i64 t.ty, .string t.val, .string t.fn, .int .i64 t.off, .int .i64 t.line, .int .i64 t.col] 46)).later hb2
    have hxb : w1.heap.size < w2.heap.size := by have := hb2.size; simp at this; omega
    have hrx : rb ≠ w1.heap.size := by have := hW1.f.blk.lt; omega
    clear hW1 hb2 d0 d1 d2 d3 d4 d5 g0 g9
    have c8 := hW2.f.cell8
    have c9 := hW2.f.cell9
    have c10 := hW2.f.cell10
    have f8 := hW2.f.blk.frozen 8
    have f9 := hW2.f.blk.frozen 9
    have f10 := hW2.f.blk.frozen 10
    go_wp2_with fail
    clear c8 c9 c10 f8 f9 f10
    have hf3 := ((hW2.f.setNext ((s.next : Int) + 1)).setRaw ((s.next : Int) + 1)).setCur ((s.cur : Int) + 1)
    have hg3 := grown_setCell (p := ⟨rb, 10, none⟩) (grown_setCell (p := ⟨rb, 8, none⟩) (grown_setCell (p := ⟨rb, 9, none⟩) (World.grownBy.refl w2 (some rb)) (.inl rfl) (.int .i64 ((s.next : Int) + 1))) (.inl rfl) (.int .i64 ((s.next : Int) + 1))) (.inl rfl) (.int .i64 ((s.cur : Int) + 1))
    have hk3 := hk2.grown hg3 (by intro e; injection e with e; exact hrx e.symm)
    have hW3 := hW2.ref (r' := ⟨s.next + 1, s.next + 1, s.cur + 1⟩) hg3 hrb (by push_cast; exact hf3)
    generalize ((w2.setCell ⟨rb, 9, none⟩ (.int .i64 ((s.next : Int) + 1))).setCell ⟨rb, 8, none⟩ (.int .i64 ((s.next : Int) + 1))).setCell ⟨rb, 10, none⟩ (.int .i64 ((s.cur : Int) + 1)) = w3 at hW3 hk3 ⊢
    clear hW2 hk2 hf3 hg3
    have hxb3 := hk3.lt
    refine (radv_any _ rb tt c2 L E S _ _ (s.next + 1) hW3.f hES.out (fun j => hT.out.range j) hsl (by omega)).mono ?_
    rintro e w4 ⟨rfl, hg4, hf4⟩
    have hW4 := hW3.ref (r' := ⟨s.next + 1, PL.stop S (types L) (s.next + 1), s.cur + 1⟩) hg4 hrb hf4
    rw [← HST.out] at hW4
    have hk4 := hk3.grown hg4 (by intro e; injection e with e; exact hrx e.symm)
    clear hW3 hk3 hg4 hf4
    obtain ⟨d0, d1, d2, d3, d4, d5⟩ := row_tok hW4.x.row hnl
    rw [← HTK.out] at d0 d1 d2 d3 d4 d5
    have q0 := hk4.cell 0
    have q1 := hk4.cell 1
    have q2 := hk4.cell 2
    have q3 := hk4.cell 3
    have q4 := hk4.cell 4
    have q5 := hk4.cell 5
    simp at q0 q1 q2 q3 q4 q5
    go_wp2_with fail
    go_quiet (fail)
    have hW5 := hW4.drewN nq
    clear hW4 hk4 d0 d1 d2 d3 d4 d5 q0 q1 q2 q3 q4 q5
    have hGn := hG.out.step HF.out
    go_wp2_with fail
    refine (state_any _ pb tb mb c nm rb tt c2 L S E (s.step S (types L)).raw (s.step S (types L)).next (s.step S (types L)).cur hW5.x hW5.f (by have := (hGn).raw; omega) (by have := (hGn).le; omega) (by omega)).mono ?_
    rintro e wz ⟨rfl, hbz⟩
    have HWz := Lib.hid (hW5.later hbz)
    clear hW5 hbz
    have HN := Lib.hid hN
    clear hN
    go_wp2_with fail
    exact HN.out (s.step S (types L)) σ _ _ _ _ _ _ _ _ _ _ _ _ _ _ _ _ _ _ _ _ _ _ _ _ _ _ _ _ _ _ _ _ _ _ _ _ _ _ _ _ _ _ _ _ _ _ _ _ _ _ _ _ _ _ _ _ _ _ _ _ _ _ _ _ _ _ _ _ _ _ _ _ _ _ _ _ _ _ _ _ _ _ _ _ _ _ _ _ _ _ _ _ _ _ _ _ _ _ _ _ _ _ _ _ _ _ _ _ _ _ _ _ _ _ _ _ _ _ _ _ _ _ _ _ _ _ _ _ _ _ _ _ _ _ _ _ _ _ _ _ _ _ _ _ _ _ _ _ _ _ _ _ _ _ _ _ _ _ _ _ _ _ _ _ _ _ _ _ _ _ _ _ _ _ _ _ _ _ _ _ _ _ _ _ _ _ _ _ _ _ _ _ _ _ _ _ _ _ _ _ _ _ _ _ _ _ _ _ _ _ _ _ _ _ (hGn) (hGσ.out) HWz.out
set_option maxHeartbeats 4000000 in
set_option maxRecDepth 1000000 in
theorem op2 (w0 w : World) (pb tb mb c nm rb tt c2 sb ON OC bO off j B A : Nat) (OA : Option Addr) (L : List Tok) (S : Int → Bool) (E : Nat → Bool) (EE : Nat) (s : PL.St) (σ : Nat → PL.St) (Q : Exit → Act → World → Prop) (u0 u1 u2 u3 u4 u5 u6 u10 u11 u12 u13 u15 u16 u17 u20 u21 u22 u23 u24 u25 u26 u27 u28 u29 u30 u31 u32 u33 u34 u35 u36 u37 u38 u39 u40 u41 u42 u43 u44 u45 u46 u47 u48 u49 u50 u51 u52 u53 u54 u55 u56 u57 u58 u59 u60 u61 u62 u63 u64 u65 u66 u67 u68 u69 u70 u71 u72 u73 u74 u75 u76 u77 u78 u79 u80 u81 u82 u83 u84 u85 u86 u87 u88 u89 u90 u91 u92 u93 u94 u95 u96 u97 u98 u99 u100 u101 u102 u103 u104 u105 u106 u107 u108 u109 u110 u111 u112 u113 u114 u115 u116 u117 u118 u119 u120 u121 u122 u123 u124 u125 u126 u127 u128 u129 u130 u131 u132 u133 u134 u135 u136 u137 u138 u139 u140 u141 u142 u143 u144 u145 u146 u147 u148 u149 u150 u151 u152 u153 u154 u155 u156 u157 u158 u159 u160 u161 u162 u163 u164 u165 u166 u167 u168 u169 u170 u171 u172 u173 u174 u175 u176 u177 u178 u179 u180 u181 u182 u183 u184 u185 u186 u187 u188 u189 u190 u191 u192 u193 u194 u195 u196 u197 u198 u199 u200 u201 u202 u203 u204 u205 u206 u207 u208 u209 u210 u211 u212 u213 u214 u215 u216 u217 u218 u219 u220 u225 u226 u227 u228 u229 u230 u231 u232 u233 u234 u235 u236 u237 u238 u239 u240 u241 u242 u243 u244 u245 u246 u247 u248 u249 u250 u251 u252 u253 u254 u255 u256 u257 u258 u259 u260 u261 u262 u263 u264 u265 u266 u267 u268 u269 u270 u271 u272 u273 u274 u275 u276 u277 u278 u279 u280 u281 u282 u283 u284 u285 u286 u287 u288 u289 u290 u291 u292 u293 u294 u295 u296 u297 u298 u299 u300 u301 u302 u303 u304 u305 u306 u307 u308 u309 u310 u311 u312 u313 u314 u315 u316 u317 u318 u319 u320 u321 u322 u323 u324 u325 u326 u327 u328 u329 u330 u331 u332 u333 u334 u335 u336 u337 u338 u339 u340 u341 u342 u343 u344 u345 u346 u347 u348 u349 u350 u351 u352 u353 u354 u355 u356 u357 u358 u359 u360 u361 u362 u363 u364 u365 u366 u367 u368 u369 u370 u371 u372 u373 u374 u375 u376 u377 u378 u379 u380 u381 u382 u383 u384 u385 u386 u387 u388 u389 u390 u391 u392 u393 u394 u395 u396 u397 u398 u399 u400 u401 u402 u403 u404 u405 u406 u407 u408 u409 u410 u411 u412 u413 u414 u415 u416 u417 u418 u419 u420 u421 u422 u423 : Value)
    (hN : NextK w0 pb tb mb c nm rb tt c2 sb ON OC bO off j OA L S E EE Q u0 u1 u2 u3 u4 u5 u6 u10 u11 u12 u13 u15 u16 u17 u20 u21 u22 u23 u24 u25 u26 u27 u28 u29 u30 u31 u32 u33 u34 u35 u36 u37 u38 u39 u40 u41 u42 u43 u44 u45 u46 u47 u48 u49 u50 u51 u52 u53 u54 u55 u56 u57 u58 u59 u60 u61 u62 u63 u64 u65 u66 u67 u68 u69 u70 u71 u72 u73 u74 u75 u76 u77 u78 u79 u80 u81 u82 u83 u84 u85 u86 u87 u88 u89 u90 u91 u92 u93 u94 u95 u96 u97 u98 u99 u100 u101 u102 u103 u104 u105 u106 u107 u108 u109 u110 u111 u112 u113 u114 u115 u116 u117 u118 u119 u120 u121 u122 u123 u124 u125 u126 u127 u128 u129 u130 u131 u132 u133 u134 u135 u136 u137 u138 u139 u140 u141 u142 u143 u144 u145 u146 u147 u148 u149 u150 u151 u152 u153 u154 u155 u156 u157 u158 u159 u160 u161 u162 u163 u164 u165 u166 u167 u168 u169 u170 u171 u172 u173 u174 u175 u176 u177 u178 u179 u180 u181 u182 u183 u184 u185 u186 u187 u188 u189 u190 u191 u192 u193 u194 u195 u196 u197 u198 u199 u200 u201 u202 u203 u204 u205 u206 u207 u208 u209 u210 u211 u212 u213 u214 u215 u216 u217 u218 u219 u220 u225 u226 u227 u228 u229 u230 u231 u232 u233 u234 u235 u236 u237 u238 u239 u240 u241 u242 u243 u244 u245 u246 u247 u248 u249 u250 u251 u252 u253 u254 u255 u256 u257 u258 u259 u260 u261 u262 u263 u264 u265 u266 u267 u268 u269 u270 u271 u272 u273 u274 u275 u276 u277 u278 u279 u280 u281 u282 u283 u284 u285 u286 u287 u288 u289 u290 u291 u292 u293 u294 u295 u296 u297 u298 u299 u300 u301 u302 u303 u304 u305 u306 u307 u308 u309 u310 u311 u312 u313 u314 u315 u316 u317 u318 u319 u320 u321 u322 u323 u324 u325 u326 u327 u328 u329 u330 u331 u332 u333 u334 u335 u336 u337 u338 u339 u340 u341 u342 u343 u344 u345 u346 u347 u348 u349 u350 u351 u352 u353 u354 u355 u356 u357 u358 u359 u360 u361 u362 u363 u364 u365 u366 u367 u368 u369 u370 u371 u372 u373 u374 u375 u376 u377 u378 u379 u380 u381 u382 u383 u384 u385 u386 u387 u388 u389 u390 u391 u392 u393 u394 u395 u396 u397 u398 u399 u400 u401 u402 u403 u404 u405 u406 u407 u408 u409 u410 u411 u412 u413 u414 u415 u416 u417 u418 u419 u420 u421 u422 u423)
    (hW : WS w0 w pb tb mb c nm rb tt c2 sb L S E s s σ σ) (hES : Hid (ES E S)) (hT : Hid (TB EE L)) (hE : EE ≤ 65536) (hcap : L.length ≤ c ∧ c ≤ maxLen) (hcap2 : L.length ≤ c2 ∧ c2 ≤ maxLen) (hG : Hid (Good S (types L) EE s)) (hGσ : Hid (∀ i, i < 4 → Good S (types L) EE (σ i))) (hpb : w0.heap.size ≤ pb) (hrb : w0.heap.size ≤ rb) (hsw : w0.heap.size ≤ sb)
    (hcj : w.cell? ⟨bO, off + j, none⟩ = some (.int .u8 (B : Int))) (hj : j < ON) (hON : ON ≤ 1048576) (hB : B < 256) (h7 : bits BinOp.and IntKind.u8 (B : Int) 7 = 2) (hBA : (B : Int) / 8 = (A : Int)) (hA : A < 32) :
    Code.wp Try.prog opBody Q ⟨#[u0, u1, u2, u3, u4, u5, u6, .slice (some ⟨tt, 0, none⟩) L.length c2, .slice OA ON OC, .pointer (some ⟨rb, 0, none⟩), u10, u11, u12, u13, .pointer (some ⟨pb, 0, none⟩), u15, u16, u17, .pointer (some ⟨sb, 0, none⟩), .pointer (some ⟨sb + 1, 0, none⟩), u20, u21, u22, u23, u24, u25, u26, u27, u28, u29, u30, u31, u32, u33, u34, u35, u36, u37, u38, u39, u40, u41, u42, u43, u44, u45, u46, u47, u48, u49, u50, u51, u52, u53, u54, u55, u56, u57, u58, u59, u60, u61, u62, u63, u64, u65, u66, u67, u68, u69, u70, u71, u72, u73, u74, u75, u76, u77, u78, u79, u80, u81, u82, u83, u84, u85, u86, u87, u88, u89, u90, u91, u92, u93, u94, u95, u96, u97, u98, u99, u100, u101, u102, u103, u104, u105, u106, u107, u108, u109, u110, u111, u112, u113, u114, u115, u116, u117, u118, u119, u120, u121, u122, u123, u124, u125, u126, u127, u128, u129, u130, u131, u132, u133, u134, u135, u136, u137, u138, u139, u140, u141, u142, u143, u144, u145, u146, u147, u148, u149, u150, u151, u152, u153, u154, u155, u156, u157, u158, u159, u160, u161, u162, u163, u164, u165, u166, u167, u168, u169, u170, u171, u172, u173, u174, u175, u176, u177, u178, u179, u180, u181, u182, u183, u184, u185, u186, u187, u188, u189, u190, u191, u192, u193, u194, u195, u196, u197, u198, u199, u200, u201, u202, u203, u204, u205, u206, u207, u208, u209, u210, u211, u212, u213, u214, u215, u216, u217, u218, u219, u220, .slice (some ⟨bO, off, none⟩) ON OC, .int .i64 ON, .int .i64 (j : Int), .bool true, u225, u226, u227, u228, u229, u230, u231, u232, u233, u234, u235, u236, u237, u238, u239, u240, u241, u242, u243, u244, u245, u246, u247, u248, u249, u250, u251, u252, u253, u254, u255, u256, u257, u258, u259, u260, u261, u262, u263, u264, u265, u266, u267, u268, u269, u270, u271, u272, u273, u274, u275, u276, u277, u278, u279, u280, u281, u282, u283, u284, u285, u286, u287, u288, u289, u290, u291, u292, u293, u294, u295, u296, u297, u298, u299, u300, u301, u302, u303, u304, u305, u306, u307, u308, u309, u310, u311, u312, u313, u314, u315, u316, u317, u318, u319, u320, u321, u322, u323, u324, u325, u326, u327, u328, u329, u330, u331, u332, u333, u334, u335, u336, u337, u338, u339, u340, u341, u342, u343, u344, u345, u346, u347, u348, u349, u350, u351, u352, u353, u354, u355, u356, u357, u358, u359, u360, u361, u362, u363, u364, u365, u366, u367, u368, u369, u370, u371, u372, u373, u374, u375, u376, u377, u378, u379, u380, u381, u382, u383, u384, u385, u386, u387, u388, u389, u390, u391, u392, u393, u394, u395, u396, u397, u398, u399, u400, u401, u402, u403, u404, u405, u406, u407, u408, u409, u410, u411, u412, u413, u414, u415, u416, u417, u418, u419, u420, u421, u422, u423], []⟩ w := by
  have hrl : s.raw < L.length := by have := hG.out.raw; have := hT.out.len; omega
  have hnl : s.next < L.length := by have := hG.out.le; have := hT.out.len; omega
  have hL1 : L.length ≤ 65537 := by have := hT.out.len; omega
  have hLE : EE < L.length := by have := hT.out.len; omega
  have HF : Hid (PL.First (types L) EE) := by have := hT.out.first; rw [hT.out.len, Nat.add_sub_cancel] at this; exact this
  have hi0 : (0 : Int) ≤ (j : Int) := by omega
  have hi1 : (j : Int) < (ON : Int) := by omega
  conv => arg 2; whnf
  have hA6 : (0 : Int) ≤ (A : Int) % 6 ∧ (A : Int) % 6 < 6 := by omega
  have hsl : PL.stop S (types L) s.raw < L.length := by rw [← hG.out.next]; exact hnl
  go_wp2_with fail
  clear hcj
  refine (peekAnyMatch ((A : Int) % 6 - 1) _ pb tb mb c nm L S s.raw _ _ (hW.x.alloc (.cells #[.int .i64 ((A : Int) % 6 - 1)] 81)) hsl).mono ?_
  rintro e w2 ⟨m, t, ht, rfl, hm0, hm1, hmA, hmR, hb2⟩
  have hFA : FirstAny S L ((A : Int) % 6 - 1) s.raw m := ⟨hm0, hm1, hmA, by rw [ht] at hmR; exact hmR⟩
  have HFA := Lib.hid hFA
  have HTK := Lib.hid ht
  have hW2 := ((hW.alloc (.cells #[.int .i64 ((A : Int) % 6 - 1)] 81)).later hb2).alloc (.cells #[.int .i64 t.ty, .string t.val, .string t.fn, .int .i64 t.off, .int .i64 t.line, .int .i64 t.col] 46)
  have hk2 := Blk.new w2 46 #[.int .i64 t.ty, .string t.val, .string t.fn, .int .i64 t.off, .int .i64 t.line, .int .i64 t.col]
  clear hW hFA hmA hmR ht hb2
  go_wp2_with fail
  refine (rpa_any _ rb tt c2 L E S s.raw _ _ ((A : Int) % 6 - 1) hW2.f hES.out (fun j => hT.out.range j) hsl (by omega)).mono ?_
  rintro e w3 ⟨m', hm', rfl, hb3⟩
  obtain rfl := HFA.out.eq hm'
  have hW3 := hW2.later hb3
  have hk3 := hk2.later hb3
  clear hW2 hk2 hb3 hm'
  obtain ⟨d0, d1, d2, d3, d4, d5⟩ := row_tok hW3.f.row hm1
  rw [← HTK.out] at d0 d1 d2 d3 d4 d5
  have q0 := hk3.cell 0
  have q1 := hk3.cell 1
  have q2 := hk3.cell 2
  have q3 := hk3.cell 3
  have q4 := hk3.cell 4
  have q5 := hk3.cell 5
  simp at q0 q1 q2 q3 q4 q5
  have hn0 : (0 : Int) ≤ (m : Int) := by omega
  have hn1 : (m : Int) < (L.length : Int) := by omega
  go_wp2_with fail
  go_quiet (fail)
  have hW4 := hW3.drewN nq
  clear hW3 hk3 d0 d1 d2 d3 d4 d5 q0 q1 q2 q3 q4 q5
  go_wp2_with fail
  refine (state_any _ pb tb mb c nm rb tt c2 L S E (s).raw (s).next (s).cur hW4.x hW4.f (by have := (hG.out).raw; omega) (by have := (hG.out).le; omega) (by omega)).mono ?_
  rintro e wz ⟨rfl, hbz⟩
  have HWz := Lib.hid (hW4.later hbz)
  clear hW4 hbz
  have HN := Lib.hid hN
  clear hN
  go_wp2_with fail
  exact HN.out (s) σ _ _ _ _ _ _ _ _ _ _ _ _ _ _ _ _ _ _ _ _ _ _ _ _ _ _ _ _ _ _ _ _ _ _ _ _ _ _ _ _ _ _ _ _ _ _ _ _ _ _ _ _ _ _ _ _ _ _ _ _ _ _ _ _ _ _ _ _ _ _ _ _ _ _ _ _ _ _ _ _ _ _ _ _ _ _ _ _ _ _ _ _ _ _ _ _ _ _ _ _ _ _ _ _ _ _ _ _ _ _ _ _ _ _ _ _ _ _ _ _ _ _ _ _ _ _ _ _ _ _ _ _ _ _ _ _ _ _ _ _ _ _ _ _ _ _ _ _ _ _ _ _ _ _ _ _ _ _ _ _ _ _ _ _ _ _ _ _ _ _ _ _ _ _ _ _ _ _ _ _ _ _ _ _ _ _ _ _ _ _ _ _ _ _ _ _ _ _ _ _ _ _ _ _ _ _ _ _ _ _ _ _ _ _ (hG.out) (hGσ.out) HWz.out
set_option maxHeartbeats 4000000 in
set_option maxRecDepth 1000000 in
theorem op3 (w0 w : World) (pb tb mb c nm rb tt c2 sb ON OC bO off j B A : Nat) (OA : Option Addr) (L : List Tok) (S : Int → Bool) (E : Nat → Bool) (EE : Nat) (s : PL.St) (σ : Nat → PL.St) (Q : Exit → Act → World → Prop) (u0 u1 u2 u3 u4 u5 u6 u10 u11 u12 u13 u15 u16 u17 u20 u21 u22 u23 u24 u25 u26 u27 u28 u29 u30 u31 u32 u33 u34 u35 u36 u37 u38 u39 u40 u41 u42 u43 u44 u45 u46 u47 u48 u49 u50 u51 u52 u53 u54 u55 u56 u57 u58 u59 u60 u61 u62 u63 u64 u65 u66 u67 u68 u69 u70 u71 u72 u73 u74 u75 u76 u77 u78 u79 u80 u81 u82 u83 u84 u85 u86 u87 u88 u89 u90 u91 u92 u93 u94 u95 u96 u97 u98 u99 u100 u101 u102 u103 u104 u105 u106 u107 u108 u109 u110 u111 u112 u113 u114 u115 u116 u117 u118 u119 u120 u121 u122 u123 u124 u125 u126 u127 u128 u129 u130 u131 u132 u133 u134 u135 u136 u137 u138 u139 u140 u141 u142 u143 u144 u145 u146 u147 u148 u149 u150 u151 u152 u153 u154 u155 u156 u157 u158 u159 u160 u161 u162 u163 u164 u165 u166 u167 u168 u169 u170 u171 u172 u173 u174 u175 u176 u177 u178 u179 u180 u181 u182 u183 u184 u185 u186 u187 u188 u189 u190 u191 u192 u193 u194 u195 u196 u197 u198 u199 u200 u201 u202 u203 u204 u205 u206 u207 u208 u209 u210 u211 u212 u213 u214 u215 u216 u217 u218 u219 u220 u225 u226 u227 u228 u229 u230 u231 u232 u233 u234 u235 u236 u237 u238 u239 u240 u241 u242 u243 u244 u245 u246 u247 u248 u249 u250 u251 u252 u253 u254 u255 u256 u257 u258 u259 u260 u261 u262 u263 u264 u265 u266 u267 u268 u269 u270 u271 u272 u273 u274 u275 u276 u277 u278 u279 u280 u281 u282 u283 u284 u285 u286 u287 u288 u289 u290 u291 u292 u293 u294 u295 u296 u297 u298 u299 u300 u301 u302 u303 u304 u305 u306 u307 u308 u309 u310 u311 u312 u313 u314 u315 u316 u317 u318 u319 u320 u321 u322 u323 u324 u325 u326 u327 u328 u329 u330 u331 u332 u333 u334 u335 u336 u337 u338 u339 u340 u341 u342 u343 u344 u345 u346 u347 u348 u349 u350 u351 u352 u353 u354 u355 u356 u357 u358 u359 u360 u361 u362 u363 u364 u365 u366 u367 u368 u369 u370 u371 u372 u373 u374 u375 u376 u377 u378 u379 u380 u381 u382 u383 u384 u385 u386 u387 u388 u389 u390 u391 u392 u393 u394 u395 u396 u397 u398 u399 u400 u401 u402 u403 u404 u405 u406 u407 u408 u409 u410 u411 u412 u413 u414 u415 u416 u417 u418 u419 u420 u421 u422 u423 : Value)
    (hN : NextK w0 pb tb mb c nm rb tt c2 sb ON OC bO off j OA L S E EE Q u0 u1 u2 u3 u4 u5 u6 u10 u11 u12 u13 u15 u16 u17 u20 u21 u22 u23 u24 u25 u26 u27 u28 u29 u30 u31 u32 u33 u34 u35 u36 u37 u38 u39 u40 u41 u42 u43 u44 u45 u46 u47 u48 u49 u50 u51 u52 u53 u54 u55 u56 u57 u58 u59 u60 u61 u62 u63 u64 u65 u66 u67 u68 u69 u70 u71 u72 u73 u74 u75 u76 u77 u78 u79 u80 u81 u82 u83 u84 u85 u86 u87 u88 u89 u90 u91 u92 u93 u94 u95 u96 u97 u98 u99 u100 u101 u102 u103 u104 u105 u106 u107 u108 u109 u110 u111 u112 u113 u114 u115 u116 u117 u118 u119 u120 u121 u122 u123 u124 u125 u126 u127 u128 u129 u130 u131 u132 u133 u134 u135 u136 u137 u138 u139 u140 u141 u142 u143 u144 u145 u146 u147 u148 u149 u150 u151 u152 u153 u154 u155 u156 u157 u158 u159 u160 u161 u162 u163 u164 u165 u166 u167 u168 u169 u170 u171 u172 u173 u174 u175 u176 u177 u178 u179 u180 u181 u182 u183 u184 u185 u186 u187 u188 u189 u190 u191 u192 u193 u194 u195 u196 u197 u198 u199 u200 u201 u202 u203 u204 u205 u206 u207 u208 u209 u210 u211 u212 u213 u214 u215 u216 u217 u218 u219 u220 u225 u226 u227 u228 u229 u230 u231 u232 u233 u234 u235 u236 u237 u238 u239 u240 u241 u242 u243 u244 u245 u246 u247 u248 u249 u250 u251 u252 u253 u254 u255 u256 u257 u258 u259 u260 u261 u262 u263 u264 u265 u266 u267 u268 u269 u270 u271 u272 u273 u274 u275 u276 u277 u278 u279 u280 u281 u282 u283 u284 u285 u286 u287 u288 u289 u290 u291 u292 u293 u294 u295 u296 u297 u298 u299 u300 u301 u302 u303 u304 u305 u306 u307 u308 u309 u310 u311 u312 u313 u314 u315 u316 u317 u318 u319 u320 u321 u322 u323 u324 u325 u326 u327 u328 u329 u330 u331 u332 u333 u334 u335 u336 u337 u338 u339 u340 u341 u342 u343 u344 u345 u346 u347 u348 u349 u350 u351 u352 u353 u354 u355 u356 u357 u358 u359 u360 u361 u362 u363 u364 u365 u366 u367 u368 u369 u370 u371 u372 u373 u374 u375 u376 u377 u378 u379 u380 u381 u382 u383 u384 u385 u386 u387 u388 u389 u390 u391 u392 u393 u394 u395 u396 u397 u398 u399 u400 u401 u402 u403 u404 u405 u406 u407 u408 u409 u410 u411 u412 u413 u414 u415 u416 u417 u418 u419 u420 u421 u422 u423)
    (hW : WS w0 w pb tb mb c nm rb tt c2 sb L S E s s σ σ) (hES : Hid (ES E S)) (hT : Hid (TB EE L)) (hE : EE ≤ 65536) (hcap : L.length ≤ c ∧ c ≤ maxLen) (hcap2 : L.length ≤ c2 ∧ c2 ≤ maxLen) (hG : Hid (Good S (types L) EE s)) (hGσ : Hid (∀ i, i < 4 → Good S (types L) EE (σ i))) (hpb : w0.heap.size ≤ pb) (hrb : w0.heap.size ≤ rb) (hsw : w0.heap.size ≤ sb)
    (hcj : w.cell? ⟨bO, off + j, none⟩ = some (.int .u8 (B : Int))) (hj : j < ON) (hON : ON ≤ 1048576) (hB : B < 256) (h7 : bits BinOp.and IntKind.u8 (B : Int) 7 = 3) (hBA : (B : Int) / 8 = (A : Int)) (hA : A < 32) :
    Code.wp Try.prog opBody Q ⟨#[u0, u1, u2, u3, u4, u5, u6, .slice (some ⟨tt, 0, none⟩) L.length c2, .slice OA ON OC, .pointer (some ⟨rb, 0, none⟩), u10, u11, u12, u13, .pointer (some ⟨pb, 0, none⟩), u15, u16, u17, .pointer (some ⟨sb, 0, none⟩), .pointer (some ⟨sb + 1, 0, none⟩), u20, u21, u22, u23, u24, u25, u26, u27, u28, u29, u30, u31, u32, u33, u34, u35, u36, u37, u38, u39, u40, u41, u42, u43, u44, u45, u46, u47, u48, u49, u50, u51, u52, u53, u54, u55, u56, u57, u58, u59, u60, u61, u62, u63, u64, u65, u66, u67, u68, u69, u70, u71, u72, u73, u74, u75, u76, u77, u78, u79, u80, u81, u82, u83, u84, u85, u86, u87, u88, u89, u90, u91, u92, u93, u94, u95, u96, u97, u98, u99, u100, u101, u102, u103, u104, u105, u106, u107, u108, u109, u110, u111, u112, u113, u114, u115, u116, u117, u118, u119, u120, u121, u122, u123, u124, u125, u126, u127, u128, u129, u130, u131, u132, u133, u134, u135, u136, u137, u138, u139, u140, u141, u142, u143, u144, u145, u146, u147, u148, u149, u150, u151, u152, u153, u154, u155, u156, u157, u158, u159, u160, u161, u162, u163, u164, u165, u166, u167, u168, u169, u170, u171, u172, u173, u174, u175, u176, u177, u178, u179, u180, u181, u182, u183, u184, u185, u186, u187, u188, u189, u190, u191, u192, u193, u194, u195, u196, u197, u198, u199, u200, u201, u202, u203, u204, u205, u206, u207, u208, u209, u210, u211, u212, u213, u214, u215, u216, u217, u218, u219, u220, .slice (some ⟨bO, off, none⟩) ON OC, .int .i64 ON, .int .i64 (j : Int), .bool true, u225, u226, u227, u228, u229, u230, u231, u232, u233, u234, u235, u236, u237, u238, u239, u240, u241, u242, u243, u244, u245, u246, u247, u248, u249, u250, u251, u252, u253, u254, u255, u256, u257, u258, u259, u260, u261, u262, u263, u264, u265, u266, u267, u268, u269, u270, u271, u272, u273, u274, u275, u276, u277, u278, u279, u280, u281, u282, u283, u284, u285, u286, u287, u288, u289, u290, u291, u292, u293, u294, u295, u296, u297, u298, u299, u300, u301, u302, u303, u304, u305, u306, u307, u308, u309, u310, u311, u312, u313, u314, u315, u316, u317, u318, u319, u320, u321, u322, u323, u324, u325, u326, u327, u328, u329, u330, u331, u332, u333, u334, u335, u336, u337, u338, u339, u340, u341, u342, u343, u344, u345, u346, u347, u348, u349, u350, u351, u352, u353, u354, u355, u356, u357, u358, u359, u360, u361, u362, u363, u364, u365, u366, u367, u368, u369, u370, u371, u372, u373, u374, u375, u376, u377, u378, u379, u380, u381, u382, u383, u384, u385, u386, u387, u388, u389, u390, u391, u392, u393, u394, u395, u396, u397, u398, u399, u400, u401, u402, u403, u404, u405, u406, u407, u408, u409, u410, u411, u412, u413, u414, u415, u416, u417, u418, u419, u420, u421, u422, u423], []⟩ w := by
  have hrl : s.raw < L.length := by have := hG.out.raw; have := hT.out.len; omega
  have hnl : s.next < L.length := by have := hG.out.le; have := hT.out.len; omega
  have hL1 : L.length ≤ 65537 := by have := hT.out.len; omega
  have hLE : EE < L.length := by have := hT.out.len; omega
  have HF : Hid (PL.First (types L) EE) := by have := hT.out.first; rw [hT.out.len, Nat.add_sub_cancel] at this; exact this
  have hi0 : (0 : Int) ≤ (j : Int) := by omega
  have hi1 : (j : Int) < (ON : Int) := by omega
  conv => arg 2; whnf
  have c8 := hW.f.cell8
  have hA8 : (0 : Int) ≤ (A : Int) % 8 ∧ (A : Int) % 8 < 8 := by omega
  go_wp2_with fail
  clear c8 hcj
  refine (ff_any _ pb tb mb c nm L S s ((s.raw : Int) + (A : Int) % 8 - 2) hW.x EE HF.out hLE hG.out.raw (by have := hG.out.curLe; omega) (by omega)).mono ?_
  rintro e wp ⟨rfl, hgp, hxp⟩
  have hWp := hW.lexer hgp hpb hxp
  clear hW hgp hxp
  go_wp2_with fail
  refine (rff_any _ rb tt c2 L E S s ((s.raw : Int) + (A : Int) % 8 - 2) hWp.f hES.out (fun j => hT.out.range j) EE HF.out hLE hG.out.raw (by have := hG.out.curLe; omega) (by omega)).mono ?_
  rintro e wq ⟨rfl, hgq, hfq⟩
  have hWq := hWp.ref hgq hrb hfq
  clear hWp hgq hfq
  have hGn := hG.out.ff HF.out (((s.raw : Int) + (A : Int) % 8 - 2))
  go_wp2_with fail
  refine (state_any _ pb tb mb c nm rb tt c2 L S E (s.ff S (types L) EE ((s.raw : Int) + (A : Int) % 8 - 2)).raw (s.ff S (types L) EE ((s.raw : Int) + (A : Int) % 8 - 2)).next (s.ff S (types L) EE ((s.raw : Int) + (A : Int) % 8 - 2)).cur hWq.x hWq.f (by have := (hGn).raw; omega) (by have := (hGn).le; omega) (by omega)).mono ?_
  rintro e wz ⟨rfl, hbz⟩
  have HWz := Lib.hid (hWq.later hbz)
  clear hWq hbz
  have HN := Lib.hid hN
  clear hN
  go_wp2_with fail
  exact HN.out (s.ff S (types L) EE ((s.raw : Int) + (A : Int) % 8 - 2)) σ _ _ _ _ _ _ _ _ _ _ _ _ _ _ _ _ _ _ _ _ _ _ _ _ _ _ _ _ _ _ _ _ _ _ _ _ _ _ _ _ _ _ _ _ _ _ _ _ _ _ _ _ _ _ _ _ _ _ _ _ _ _ _ _ _ _ _ _ _ _ _ _ _ _ _ _ _ _ _ _ _ _ _ _ _ _ _ _ _ _ _ _ _ _ _ _ _ _ _ _ _ _ _ _ _ _ _ _ _ _ _ _ _ _ _ _ _ _ _ _ _ _ _ _ _ _ _ _ _ _ _ _ _ _ _ _ _ _ _ _ _ _ _ _ _ _ _ _ _ _ _ _ _ _ _ _ _ _ _ _ _ _ _ _ _ _ _ _ _ _ _ _ _ _ _ _ _ _ _ _ _ _ _ _ _ _ _ _ _ _ _ _ _ _ _ _ _ _ _ _ _ _ _ _ _ _ _ _ _ _ _ _ _ _ (hGn) (hGσ.out) HWz.out
set_option maxHeartbeats 4000000 in
set_option maxRecDepth 1000000 in
theorem op4 (w0 w : World) (pb tb mb c nm rb tt c2 sb ON OC bO off j B A : Nat) (OA : Option Addr) (L : List Tok) (S : Int → Bool) (E : Nat → Bool) (EE : Nat) (s : PL.St) (σ : Nat → PL.St) (Q : Exit → Act → World → Prop) (u0 u1 u2 u3 u4 u5 u6 u10 u11 u12 u13 u15 u16 u17 u20 u21 u22 u23 u24 u25 u26 u27 u28 u29 u30 u31 u32 u33 u34 u35 u36 u37 u38 u39 u40 u41 u42 u43 u44 u45 u46 u47 u48 u49 u50 u51 u52 u53 u54 u55 u56 u57 u58 u59 u60 u61 u62 u63 u64 u65 u66 u67 u68 u69 u70 u71 u72 u73 u74 u75 u76 u77 u78 u79 u80 u81 u82 u83 u84 u85 u86 u87 u88 u89 u90 u91 u92 u93 u94 u95 u96 u97 u98 u99 u100 u101 u102 u103 u104 u105 u106 u107 u108 u109 u110 u111 u112 u113 u114 u115 u116 u117 u118 u119 u120 u121 u122 u123 u124 u125 u126 u127 u128 u129 u130 u131 u132 u133 u134 u135 u136 u137 u138 u139 u140 u141 u142 u143 u144 u145 u146 u147 u148 u149 u150 u151 u152 u153 u154 u155 u156 u157 u158 u159 u160 u161 u162 u163 u164 u165 u166 u167 u168 u169 u170 u171 u172 u173 u174 u175 u176 u177 u178 u179 u180 u181 u182 u183 u184 u185 u186 u187 u188 u189 u190 u191 u192 u193 u194 u195 u196 u197 u198 u199 u200 u201 u202 u203 u204 u205 u206 u207 u208 u209 u210 u211 u212 u213 u214 u215 u216 u217 u218 u219 u220 u225 u226 u227 u228 u229 u230 u231 u232 u233 u234 u235 u236 u237 u238 u239 u240 u241 u242 u243 u244 u245 u246 u247 u248 u249 u250 u251 u252 u253 u254 u255 u256 u257 u258 u259 u260 u261 u262 u263 u264 u265 u266 u267 u268 u269 u270 u271 u272 u273 u274 u275 u276 u277 u278 u279 u280 u281 u282 u283 u284 u285 u286 u287 u288 u289 u290 u291 u292 u293 u294 u295 u296 u297 u298 u299 u300 u301 u302 u303 u304 u305 u306 u307 u308 u309 u310 u311 u312 u313 u314 u315 u316 u317 u318 u319 u320 u321 u322 u323 u324 u325 u326 u327 u328 u329 u330 u331 u332 u333 u334 u335 u336 u337 u338 u339 u340 u341 u342 u343 u344 u345 u346 u347 u348 u349 u350 u351 u352 u353 u354 u355 u356 u357 u358 u359 u360 u361 u362 u363 u364 u365 u366 u367 u368 u369 u370 u371 u372 u373 u374 u375 u376 u377 u378 u379 u380 u381 u382 u383 u384 u385 u386 u387 u388 u389 u390 u391 u392 u393 u394 u395 u396 u397 u398 u399 u400 u401 u402 u403 u404 u405 u406 u407 u408 u409 u410 u411 u412 u413 u414 u415 u416 u417 u418 u419 u420 u421 u422 u423 : Value)
    (hN : NextK w0 pb tb mb c nm rb tt c2 sb ON OC bO off j OA L S E EE Q u0 u1 u2 u3 u4 u5 u6 u10 u11 u12 u13 u15 u16 u17 u20 u21 u22 u23 u24 u25 u26 u27 u28 u29 u30 u31 u32 u33 u34 u35 u36 u37 u38 u39 u40 u41 u42 u43 u44 u45 u46 u47 u48 u49 u50 u51 u52 u53 u54 u55 u56 u57 u58 u59 u60 u61 u62 u63 u64 u65 u66 u67 u68 u69 u70 u71 u72 u73 u74 u75 u76 u77 u78 u79 u80 u81 u82 u83 u84 u85 u86 u87 u88 u89 u90 u91 u92 u93 u94 u95 u96 u97 u98 u99 u100 u101 u102 u103 u104 u105 u106 u107 u108 u109 u110 u111 u112 u113 u114 u115 u116 u117 u118 u119 u120 u121 u122 u123 u124 u125 u126 u127 u128 u129 u130 u131 u132 u133 u134 u135 u136 u137 u138 u139 u140 u141 u142 u143 u144 u145 u146 u147 u148 u149 u150 u151 u152 u153 u154 u155 u156 u157 u158 u159 u160 u161 u162 u163 u164 u165 u166 u167 u168 u169 u170 u171 u172 u173 u174 u175 u176 u177 u178 u179 u180 u181 u182 u183 u184 u185 u186 u187 u188 u189 u190 u191 u192 u193 u194 u195 u196 u197 u198 u199 u200 u201 u202 u203 u204 u205 u206 u207 u208 u209 u210 u211 u212 u213 u214 u215 u216 u217 u218 u219 u220 u225 u226 u227 u228 u229 u230 u231 u232 u233 u234 u235 u236 u237 u238 u239 u240 u241 u242 u243 u244 u245 u246 u247 u248 u249 u250 u251 u252 u253 u254 u255 u256 u257 u258 u259 u260 u261 u262 u263 u264 u265 u266 u267 u268 u269 u270 u271 u272 u273 u274 u275 u276 u277 u278 u279 u280 u281 u282 u283 u284 u285 u286 u287 u288 u289 u290 u291 u292 u293 u294 u295 u296 u297 u298 u299 u300 u301 u302 u303 u304 u305 u306 u307 u308 u309 u310 u311 u312 u313 u314 u315 u316 u317 u318 u319 u320 u321 u322 u323 u324 u325 u326 u327 u328 u329 u330 u331 u332 u333 u334 u335 u336 u337 u338 u339 u340 u341 u342 u343 u344 u345 u346 u347 u348 u349 u350 u351 u352 u353 u354 u355 u356 u357 u358 u359 u360 u361 u362 u363 u364 u365 u366 u367 u368 u369 u370 u371 u372 u373 u374 u375 u376 u377 u378 u379 u380 u381 u382 u383 u384 u385 u386 u387 u388 u389 u390 u391 u392 u393 u394 u395 u396 u397 u398 u399 u400 u401 u402 u403 u404 u405 u406 u407 u408 u409 u410 u411 u412 u413 u414 u415 u416 u417 u418 u419 u420 u421 u422 u423)
    (hW : WS w0 w pb tb mb c nm rb tt c2 sb L S E s s σ σ) (hES : Hid (ES E S)) (hT : Hid (TB EE L)) (hE : EE ≤ 65536) (hcap : L.length ≤ c ∧ c ≤ maxLen) (hcap2 : L.length ≤ c2 ∧ c2 ≤ maxLen) (hG : Hid (Good S (types L) EE s)) (hGσ : Hid (∀ i, i < 4 → Good S (types L) EE (σ i))) (hpb : w0.heap.size ≤ pb) (hrb : w0.heap.size ≤ rb) (hsw : w0.heap.size ≤ sb)
    (hcj : w.cell? ⟨bO, off + j, none⟩ = some (.int .u8 (B : Int))) (hj : j < ON) (hON : ON ≤ 1048576) (hB : B < 256) (h7 : bits BinOp.and IntKind.u8 (B : Int) 7 = 4) (hBA : (B : Int) / 8 = (A : Int)) (hA : A < 32) :
    Code.wp Try.prog opBody Q ⟨#[u0, u1, u2, u3, u4, u5, u6, .slice (some ⟨tt, 0, none⟩) L.length c2, .slice OA ON OC, .pointer (some ⟨rb, 0, none⟩), u10, u11, u12, u13, .pointer (some ⟨pb, 0, none⟩), u15, u16, u17, .pointer (some ⟨sb, 0, none⟩), .pointer (some ⟨sb + 1, 0, none⟩), u20, u21, u22, u23, u24, u25, u26, u27, u28, u29, u30, u31, u32, u33, u34, u35, u36, u37, u38, u39, u40, u41, u42, u43, u44, u45, u46, u47, u48, u49, u50, u51, u52, u53, u54, u55, u56, u57, u58, u59, u60, u61, u62, u63, u64, u65, u66, u67, u68, u69, u70, u71, u72, u73, u74, u75, u76, u77, u78, u79, u80, u81, u82, u83, u84, u85, u86, u87, u88, u89, u90, u91, u92, u93, u94, u95, u96, u97, u98, u99, u100, u101, u102, u103, u104, u105, u106, u107, u108, u109, u110, u111, u112, u113, u114, u115, u116, u117, u118, u119, u120, u121, u122, u123, u124, u125, u126, u127, u128, u129, u130, u131, u132, u133, u134, u135, u136, u137, u138, u139, u140, u141, u142, u143, u144, u145, u146, u147, u148, u149, u150, u151, u152, u153, u154, u155, u156, u157, u158, u159, u160, u161, u162, u163, u164, u165, u166, u167, u168, u169, u170, u171, u172, u173, u174, u175, u176, u177, u178, u179, u180, u181, u182, u183, u184, u185, u186, u187, u188, u189, u190, u191, u192, u193, u194, u195, u196, u197, u198, u199, u200, u201, u202, u203, u204, u205, u206, u207, u208, u209, u210, u211, u212, u213, u214, u215, u216, u217, u218, u219, u220, .slice (some ⟨bO, off, none⟩) ON OC, .int .i64 ON, .int .i64 (j : Int), .bool true, u225, u226, u227, u228, u229, u230, u231, u232, u233, u234, u235, u236, u237, u238, u239, u240, u241, u242, u243, u244, u245, u246, u247, u248, u249, u250, u251, u252, u253, u254, u255, u256, u257, u258, u259, u260, u261, u262, u263, u264, u265, u266, u267, u268, u269, u270, u271, u272, u273, u274, u275, u276, u277, u278, u279, u280, u281, u282, u283, u284, u285, u286, u287, u288, u289, u290, u291, u292, u293, u294, u295, u296, u297, u298, u299, u300, u301, u302, u303, u304, u305, u306, u307, u308, u309, u310, u311, u312, u313, u314, u315, u316, u317, u318, u319, u320, u321, u322, u323, u324, u325, u326, u327, u328, u329, u330, u331, u332, u333, u334, u335, u336, u337, u338, u339, u340, u341, u342, u343, u344, u345, u346, u347, u348, u349, u350, u351, u352, u353, u354, u355, u356, u357, u358, u359, u360, u361, u362, u363, u364, u365, u366, u367, u368, u369, u370, u371, u372, u373, u374, u375, u376, u377, u378, u379, u380, u381, u382, u383, u384, u385, u386, u387, u388, u389, u390, u391, u392, u393, u394, u395, u396, u397, u398, u399, u400, u401, u402, u403, u404, u405, u406, u407, u408, u409, u410, u411, u412, u413, u414, u415, u416, u417, u418, u419, u420, u421, u422, u423], []⟩ w := by
  have hrl : s.raw < L.length := by have := hG.out.raw; have := hT.out.len; omega
  have hnl : s.next < L.length := by have := hG.out.le; have := hT.out.len; omega
  have hL1 : L.length ≤ 65537 := by have := hT.out.len; omega
  have hLE : EE < L.length := by have := hT.out.len; omega
  have HF : Hid (PL.First (types L) EE) := by have := hT.out.first; rw [hT.out.len, Nat.add_sub_cancel] at this; exact this
  have hi0 : (0 : Int) ≤ (j : Int) := by omega
  have hi1 : (j : Int) < (ON : Int) := by omega
  conv => arg 2; whnf
  have h3 := and3 A hA
  obtain ⟨i4, hi4⟩ : ∃ x, x = A % 4 := ⟨_, rfl⟩
  rw [← hi4] at h3
  have hlt4 : i4 < 4 := by omega
  have hk0 : (0 : Int) ≤ (i4 : Int) := by omega
  have hk1 : (i4 : Int) < 4 := by omega
  clear hi4
  go_wp2_with fail
  clear hcj
  refine (make_any _ pb tb mb c nm L S _ _ _ hW.x).mono ?_
  rintro e w1 ⟨rfl, hb1⟩
  have hW1 := hW.later hb1
  clear hW hb1
  obtain ⟨o0, o1, o2⟩ := hW1.m.cell hlt4
  have z := fun i => hW1.m.frozen i
  go_wp2_with fail
  clear o0 o1 o2 z
  have hW2 := hW1.setM hsw hlt4 s
  unfold put3 at hW2
  generalize ((w1.setCell ⟨sb, i4 * 3, none⟩ (.int .i64 (s.raw : Nat))).setCell ⟨sb, i4 * 3 + 1, none⟩ (.int .i64 (s.next : Nat))).setCell ⟨sb, i4 * 3 + 2, none⟩ (.int .i64 (s.cur : Nat)) = w2 at hW2 ⊢
  clear hW1
  have c8 := hW2.f.cell8
  have c9 := hW2.f.cell9
  have c10 := hW2.f.cell10
  go_still_tail 15, (by kernel_rfl)
  change wpList _ _ _ _ _ w2.drew
  have hW3 := hW2.drew
  generalize w2.drew = w3 at hW3 ⊢
  clear hW2 c8 c9 c10
  obtain ⟨o0, o1, o2⟩ := hW3.k.cell hlt4
  have z := fun i => hW3.k.frozen i
  go_wp2_with fail
  clear o0 o1 o2 z
  have hW4 := hW3.setK hsw hlt4 s
  unfold put3 at hW4
  generalize ((w3.setCell ⟨sb + 1, i4 * 3, none⟩ (.int .i64 (s.raw : Nat))).setCell ⟨sb + 1, i4 * 3 + 1, none⟩ (.int .i64 (s.next : Nat))).setCell ⟨sb + 1, i4 * 3 + 2, none⟩ (.int .i64 (s.cur : Nat)) = w4 at hW4 ⊢
  clear hW3
  have hGu : ∀ i, i < 4 → Good S (types L) EE (upd σ i4 s i) := fun i hi => by
    unfold upd
    by_cases e : i = i4
    · rw [if_pos e]; exact hG.out
    · rw [if_neg e]; exact hGσ.out i hi
  have HGU : Hid (∀ i, i < 4 → Good S (types L) EE (upd σ i4 s i)) := hGu
  clear hGu
  refine (state_any _ pb tb mb c nm rb tt c2 L S E (s).raw (s).next (s).cur hW4.x hW4.f (by have := (hG.out).raw; omega) (by have := (hG.out).le; omega) (by omega)).mono ?_
  rintro e wz ⟨rfl, hbz⟩
  have HWz := Lib.hid (hW4.later hbz)
  clear hW4 hbz
  have HN := Lib.hid hN
  clear hN
  go_wp2_with fail
  exact HN.out (s) (upd σ i4 s) _ _ _ _ _ _ _ _ _ _ _ _ _ _ _ _ _ _ _ _ _ _ _ _ _ _ _ _ _ _ _ _ _ _ _ _ _ _ _ _ _ _ _ _ _ _ _ _ _ _ _ _ _ _ _ _ _ _ _ _ _ _ _ _ _ _ _ _ _ _ _ _ _ _ _ _ _ _ _ _ _ _ _ _ _ _ _ _ _ _ _ _ _ _ _ _ _ _ _ _ _ _ _ _ _ _ _ _ _ _ _ _ _ _ _ _ _ _ _ _ _ _ _ _ _ _ _ _ _ _ _ _ _ _ _ _ _ _ _ _ _ _ _ _ _ _ _ _ _ _ _ _ _ _ _ _ _ _ _ _ _ _ _ _ _ _ _ _ _ _ _ _ _ _ _ _ _ _ _ _ _ _ _ _ _ _ _ _ _ _ _ _ _ _ _ _ _ _ _ _ _ _ _ _ _ _ _ _ _ _ _ _ _ _ (hG.out) (HGU.out) HWz.out
set_option maxHeartbeats 4000000 in
set_option maxRecDepth 1000000 in
theorem op5 (w0 w : World) (pb tb mb c nm rb tt c2 sb ON OC bO off j B A : Nat) (OA : Option Addr) (L : List Tok) (S : Int → Bool) (E : Nat → Bool) (EE : Nat) (s : PL.St) (σ : Nat → PL.St) (Q : Exit → Act → World → Prop) (u0 u1 u2 u3 u4 u5 u6 u10 u11 u12 u13 u15 u16 u17 u20 u21 u22 u23 u24 u25 u26 u27 u28 u29 u30 u31 u32 u33 u34 u35 u36 u37 u38 u39 u40 u41 u42 u43 u44 u45 u46 u47 u48 u49 u50 u51 u52 u53 u54 u55 u56 u57 u58 u59 u60 u61 u62 u63 u64 u65 u66 u67 u68 u69 u70 u71 u72 u73 u74 u75 u76 u77 u78 u79 u80 u81 u82 u83 u84 u85 u86 u87 u88 u89 u90 u91 u92 u93 u94 u95 u96 u97 u98 u99 u100 u101 u102 u103 u104 u105 u106 u107 u108 u109 u110 u111 u112 u113 u114 u115 u116 u117 u118 u119 u120 u121 u122 u123 u124 u125 u126 u127 u128 u129 u130 u131 u132 u133 u134 u135 u136 u137 u138 u139 u140 u141 u142 u143 u144 u145 u146 u147 u148 u149 u150 u151 u152 u153 u154 u155 u156 u157 u158 u159 u160 u161 u162 u163 u164 u165 u166 u167 u168 u169 u170 u171 u172 u173 u174 u175 u176 u177 u178 u179 u180 u181 u182 u183 u184 u185 u186 u187 u188 u189 u190 u191 u192 u193 u194 u195 u196 u197 u198 u199 u200 u201 u202 u203 u204 u205 u206 u207 u208 u209 u210 u211 u212 u213 u214 u215 u216 u217 u218 u219 u220 u225 u226 u227 u228 u229 u230 u231 u232 u233 u234 u235 u236 u237 u238 u239 u240 u241 u242 u243 u244 u245 u246 u247 u248 u249 u250 u251 u252 u253 u254 u255 u256 u257 u258 u259 u260 u261 u262 u263 u264 u265 u266 u267 u268 u269 u270 u271 u272 u273 u274 u275 u276 u277 u278 u279 u280 u281 u282 u283 u284 u285 u286 u287 u288 u289 u290 u291 u292 u293 u294 u295 u296 u297 u298 u299 u300 u301 u302 u303 u304 u305 u306 u307 u308 u309 u310 u311 u312 u313 u314 u315 u316 u317 u318 u319 u320 u321 u322 u323 u324 u325 u326 u327 u328 u329 u330 u331 u332 u333 u334 u335 u336 u337 u338 u339 u340 u341 u342 u343 u344 u345 u346 u347 u348 u349 u350 u351 u352 u353 u354 u355 u356 u357 u358 u359 u360 u361 u362 u363 u364 u365 u366 u367 u368 u369 u370 u371 u372 u373 u374 u375 u376 u377 u378 u379 u380 u381 u382 u383 u384 u385 u386 u387 u388 u389 u390 u391 u392 u393 u394 u395 u396 u397 u398 u399 u400 u401 u402 u403 u404 u405 u406 u407 u408 u409 u410 u411 u412 u413 u414 u415 u416 u417 u418 u419 u420 u421 u422 u423 : Value)
    (hN : NextK w0 pb tb mb c nm rb tt c2 sb ON OC bO off j OA L S E EE Q u0 u1 u2 u3 u4 u5 u6 u10 u11 u12 u13 u15 u16 u17 u20 u21 u22 u23 u24 u25 u26 u27 u28 u29 u30 u31 u32 u33 u34 u35 u36 u37 u38 u39 u40 u41 u42 u43 u44 u45 u46 u47 u48 u49 u50 u51 u52 u53 u54 u55 u56 u57 u58 u59 u60 u61 u62 u63 u64 u65 u66 u67 u68 u69 u70 u71 u72 u73 u74 u75 u76 u77 u78 u79 u80 u81 u82 u83 u84 u85 u86 u87 u88 u89 u90 u91 u92 u93 u94 u95 u96 u97 u98 u99 u100 u101 u102 u103 u104 u105 u106 u107 u108 u109 u110 u111 u112 u113 u114 u115 u116 u117 u118 u119 u120 u121 u122 u123 u124 u125 u126 u127 u128 u129 u130 u131 u132 u133 u134 u135 u136 u137 u138 u139 u140 u141 u142 u143 u144 u145 u146 u147 u148 u149 u150 u151 u152 u153 u154 u155 u156 u157 u158 u159 u160 u161 u162 u163 u164 u165 u166 u167 u168 u169 u170 u171 u172 u173 u174 u175 u176 u177 u178 u179 u180 u181 u182 u183 u184 u185 u186 u187 u188 u189 u190 u191 u192 u193 u194 u195 u196 u197 u198 u199 u200 u201 u202 u203 u204 u205 u206 u207 u208 u209 u210 u211 u212 u213 u214 u215 u216 u217 u218 u219 u220 u225 u226 u227 u228 u229 u230 u231 u232 u233 u234 u235 u236 u237 u238 u239 u240 u241 u242 u243 u244 u245 u246 u247 u248 u249 u250 u251 u252 u253 u254 u255 u256 u257 u258 u259 u260 u261 u262 u263 u264 u265 u266 u267 u268 u269 u270 u271 u272 u273 u274 u275 u276 u277 u278 u279 u280 u281 u282 u283 u284 u285 u286 u287 u288 u289 u290 u291 u292 u293 u294 u295 u296 u297 u298 u299 u300 u301 u302 u303 u304 u305 u306 u307 u308 u309 u310 u311 u312 u313 u314 u315 u316 u317 u318 u319 u320 u321 u322 u323 u324 u325 u326 u327 u328 u329 u330 u331 u332 u333 u334 u335 u336 u337 u338 u339 u340 u341 u342 u343 u344 u345 u346 u347 u348 u349 u350 u351 u352 u353 u354 u355 u356 u357 u358 u359 u360 u361 u362 u363 u364 u365 u366 u367 u368 u369 u370 u371 u372 u373 u374 u375 u376 u377 u378 u379 u380 u381 u382 u383 u384 u385 u386 u387 u388 u389 u390 u391 u392 u393 u394 u395 u396 u397 u398 u399 u400 u401 u402 u403 u404 u405 u406 u407 u408 u409 u410 u411 u412 u413 u414 u415 u416 u417 u418 u419 u420 u421 u422 u423)
    (hW : WS w0 w pb tb mb c nm rb tt c2 sb L S E s s σ σ) (hES : Hid (ES E S)) (hT : Hid (TB EE L)) (hE : EE ≤ 65536) (hcap : L.length ≤ c ∧ c ≤ maxLen) (hcap2 : L.length ≤ c2 ∧ c2 ≤ maxLen) (hG : Hid (Good S (types L) EE s)) (hGσ : Hid (∀ i, i < 4 → Good S (types L) EE (σ i))) (hpb : w0.heap.size ≤ pb) (hrb : w0.heap.size ≤ rb) (hsw : w0.heap.size ≤ sb)
    (hcj : w.cell? ⟨bO, off + j, none⟩ = some (.int .u8 (B : Int))) (hj : j < ON) (hON : ON ≤ 1048576) (hB : B < 256) (h7 : bits BinOp.and IntKind.u8 (B : Int) 7 = 5) (hBA : (B : Int) / 8 = (A : Int)) (hA : A < 32) :
    Code.wp Try.prog opBody Q ⟨#[u0, u1, u2, u3, u4, u5, u6, .slice (some ⟨tt, 0, none⟩) L.length c2, .slice OA ON OC, .pointer (some ⟨rb, 0, none⟩), u10, u11, u12, u13, .pointer (some ⟨pb, 0, none⟩), u15, u16, u17, .pointer (some ⟨sb, 0, none⟩), .pointer (some ⟨sb + 1, 0, none⟩), u20, u21, u22, u23, u24, u25, u26, u27, u28, u29, u30, u31, u32, u33, u34, u35, u36, u37, u38, u39, u40, u41, u42, u43, u44, u45, u46, u47, u48, u49, u50, u51, u52, u53, u54, u55, u56, u57, u58, u59, u60, u61, u62, u63, u64, u65, u66, u67, u68, u69, u70, u71, u72, u73, u74, u75, u76, u77, u78, u79, u80, u81, u82, u83, u84, u85, u86, u87, u88, u89, u90, u91, u92, u93, u94, u95, u96, u97, u98, u99, u100, u101, u102, u103, u104, u105, u106, u107, u108, u109, u110, u111, u112, u113, u114, u115, u116, u117, u118, u119, u120, u121, u122, u123, u124, u125, u126, u127, u128, u129, u130, u131, u132, u133, u134, u135, u136, u137, u138, u139, u140, u141, u142, u143, u144, u145, u146, u147, u148, u149, u150, u151, u152, u153, u154, u155, u156, u157, u158, u159, u160, u161, u162, u163, u164, u165, u166, u167, u168, u169, u170, u171, u172, u173, u174, u175, u176, u177, u178, u179, u180, u181, u182, u183, u184, u185, u186, u187, u188, u189, u190, u191, u192, u193, u194, u195, u196, u197, u198, u199, u200, u201, u202, u203, u204, u205, u206, u207, u208, u209, u210, u211, u212, u213, u214, u215, u216, u217, u218, u219, u220, .slice (some ⟨bO, off, none⟩) ON OC, .int .i64 ON, .int .i64 (j : Int), .bool true, u225, u226, u227, u228, u229, u230, u231, u232, u233, u234, u235, u236, u237, u238, u239, u240, u241, u242, u243, u244, u245, u246, u247, u248, u249, u250, u251, u252, u253, u254, u255, u256, u257, u258, u259, u260, u261, u262, u263, u264, u265, u266, u267, u268, u269, u270, u271, u272, u273, u274, u275, u276, u277, u278, u279, u280, u281, u282, u283, u284, u285, u286, u287, u288, u289, u290, u291, u292, u293, u294, u295, u296, u297, u298, u299, u300, u301, u302, u303, u304, u305, u306, u307, u308, u309, u310, u311, u312, u313, u314, u315, u316, u317, u318, u319, u320, u321, u322, u323, u324, u325, u326, u327, u328, u329, u330, u331, u332, u333, u334, u335, u336, u337, u338, u339, u340, u341, u342, u343, u344, u345, u346, u347, u348, u349, u350, u351, u352, u353, u354, u355, u356, u357, u358, u359, u360, u361, u362, u363, u364, u365, u366, u367, u368, u369, u370, u371, u372, u373, u374, u375, u376, u377, u378, u379, u380, u381, u382, u383, u384, u385, u386, u387, u388, u389, u390, u391, u392, u393, u394, u395, u396, u397, u398, u399, u400, u401, u402, u403, u404, u405, u406, u407, u408, u409, u410, u411, u412, u413, u414, u415, u416, u417, u418, u419, u420, u421, u422, u423], []⟩ w := by
  have hrl : s.raw < L.length := by have := hG.out.raw; have := hT.out.len; omega
  have hnl : s.next < L.length := by have := hG.out.le; have := hT.out.len; omega
  have hL1 : L.length ≤ 65537 := by have := hT.out.len; omega
  have hLE : EE < L.length := by have := hT.out.len; omega
  have HF : Hid (PL.First (types L) EE) := by have := hT.out.first; rw [hT.out.len, Nat.add_sub_cancel] at this; exact this
  have hi0 : (0 : Int) ≤ (j : Int) := by omega
  have hi1 : (j : Int) < (ON : Int) := by omega
  conv => arg 2; whnf
  have h3 := and3 A hA
  obtain ⟨i4, hi4⟩ : ∃ x, x = A % 4 := ⟨_, rfl⟩
  rw [← hi4] at h3
  have hlt4 : i4 < 4 := by omega
  have hk0 : (0 : Int) ≤ (i4 : Int) := by omega
  have hk1 : (i4 : Int) < 4 := by omega
  clear hi4
  obtain ⟨o0, o1, o2⟩ := hW.m.cell hlt4
  go_wp2_with fail
  clear hcj o0 o1 o2
  refine (load_any _ pb tb mb c nm L S _ _ _ ((σ i4).raw : Nat) ((σ i4).next : Nat) ((σ i4).cur : Nat) hW.x).mono ?_
  rintro e w1 ⟨rfl, hg1, hx1⟩
  have hW1 := hW.lexer (s' := σ i4) hg1 hpb hx1
  clear hW hg1 hx1
  obtain ⟨o0, o1, o2⟩ := hW1.k.cell hlt4
  have c8 := hW1.f.cell8
  have c9 := hW1.f.cell9
  have c10 := hW1.f.cell10
  have f8 := hW1.f.blk.frozen 8
  have f9 := hW1.f.blk.frozen 9
  have f10 := hW1.f.blk.frozen 10
  have hkb := hW1.k.ne hW1.f.blk (by decide)
  go_wp2_with fail
  have hf2 := ((hW1.f.setRaw ((σ i4).raw : Nat)).setNext ((σ i4).next : Nat)).setCur ((σ i4).cur : Nat)
  have hg2 := grown_setCell (p := ⟨rb, 10, none⟩) (grown_setCell (p := ⟨rb, 9, none⟩) (grown_setCell (p := ⟨rb, 8, none⟩) (World.grownBy.refl w1 (some rb)) (.inl rfl) (.int .i64 ((σ i4).raw : Nat))) (.inl rfl) (.int .i64 ((σ i4).next : Nat))) (.inl rfl) (.int .i64 ((σ i4).cur : Nat))
  have hW2 := hW1.ref (r' := σ i4) hg2 hrb hf2
  generalize ((w1.setCell ⟨rb, 8, none⟩ (.int .i64 ((σ i4).raw : Nat))).setCell ⟨rb, 9, none⟩ (.int .i64 ((σ i4).next : Nat))).setCell ⟨rb, 10, none⟩ (.int .i64 ((σ i4).cur : Nat)) = w2 at hW2 ⊢
  clear hW1 hf2 hg2 o0 o1 o2 c8 c9 c10 f8 f9 f10 hkb
  go_region_held3 (fun w' => WS w0 w' pb tb mb c nm rb tt c2 sb L S E (σ i4) (σ i4) σ σ ∧ w'.cell? ⟨sb, i4 * 3, none⟩ = some (.int .i64 ((σ i4).raw : Nat)) ∧ w'.cell? ⟨sb, i4 * 3 + 1, none⟩ = some (.int .i64 ((σ i4).next : Nat)) ∧ w'.cell? ⟨sb, i4 * 3 + 1 + 1, none⟩ = some (.int .i64 ((σ i4).cur : Nat)))
    (first | assumption | exact ⟨hW2.drew, hW2.drew.m.cell hlt4⟩ | (go_split_ands; exact ⟨WS.later (by assumption) hbl, (WS.later (by assumption) hbl).m.cell hlt4⟩))
    (first | (go_at_call 34; refine (make_any _ pb tb mb c nm L S ((σ i4).raw : Nat) ((σ i4).next : Nat) ((σ i4).cur : Nat) (WS.x (by go_split_ands; assumption))).mono ?_; rintro e w8 ⟨rfl, hbl⟩))
  obtain ⟨hW3, -⟩ := ‹WS w0 _ _ _ _ _ _ _ _ _ _ _ _ _ _ _ _ _ ∧ _›
  clear hW2
  have hGn := hGσ.out i4 hlt4
  go_wp2_with fail
  refine (state_any _ pb tb mb c nm rb tt c2 L S E (σ i4).raw (σ i4).next (σ i4).cur hW3.x hW3.f (by have := (hGn).raw; omega) (by have := (hGn).le; omega) (by omega)).mono ?_
  rintro e wz ⟨rfl, hbz⟩
  have HWz := Lib.hid (hW3.later hbz)
  clear hW3 hbz
  have HN := Lib.hid hN
  clear hN
  go_wp2_with fail
  exact HN.out (σ i4) σ _ _ _ _ _ _ _ _ _ _ _ _ _ _ _ _ _ _ _ _ _ _ _ _ _ _ _ _ _ _ _ _ _ _ _ _ _ _ _ _ _ _ _ _ _ _ _ _ _ _ _ _ _ _ _ _ _ _ _ _ _ _ _ _ _ _ _ _ _ _ _ _ _ _ _ _ _ _ _ _ _ _ _ _ _ _ _ _ _ _ _ _ _ _ _ _ _ _ _ _ _ _ _ _ _ _ _ _ _ _ _ _ _ _ _ _ _ _ _ _ _ _ _ _ _ _ _ _ _ _ _ _ _ _ _ _ _ _ _ _ _ _ _ _ _ _ _ _ _ _ _ _ _ _ _ _ _ _ _ _ _ _ _ _ _ _ _ _ _ _ _ _ _ _ _ _ _ _ _ _ _ _ _ _ _ _ _ _ _ _ _ _ _ _ _ _ _ _ _ _ _ _ _ _ _ _ _ _ _ _ _ _ _ _ (hGn) (hGσ.out) HWz.out
set_option maxHeartbeats 4000000 in
set_option maxRecDepth 1000000 in
theorem op6 (w0 w : World) (pb tb mb c nm rb tt c2 sb ON OC bO off j B A : Nat) (OA : Option Addr) (L : List Tok) (S : Int → Bool) (E : Nat → Bool) (EE : Nat) (s : PL.St) (σ : Nat → PL.St) (Q : Exit → Act → World → Prop) (u0 u1 u2 u3 u4 u5 u6 u10 u11 u12 u13 u15 u16 u17 u20 u21 u22 u23 u24 u25 u26 u27 u28 u29 u30 u31 u32 u33 u34 u35 u36 u37 u38 u39 u40 u41 u42 u43 u44 u45 u46 u47 u48 u49 u50 u51 u52 u53 u54 u55 u56 u57 u58 u59 u60 u61 u62 u63 u64 u65 u66 u67 u68 u69 u70 u71 u72 u73 u74 u75 u76 u77 u78 u79 u80 u81 u82 u83 u84 u85 u86 u87 u88 u89 u90 u91 u92 u93 u94 u95 u96 u97 u98 u99 u100 u101 u102 u103 u104 u105 u106 u107 u108 u109 u110 u111 u112 u113 u114 u115 u116 u117 u118 u119 u120 u121 u122 u123 u124 u125 u126 u127 u128 u129 u130 u131 u132 u133 u134 u135 u136 u137 u138 u139 u140 u141 u142 u143 u144 u145 u146 u147 u148 u149 u150 u151 u152 u153 u154 u155 u156 u157 u158 u159 u160 u161 u162 u163 u164 u165 u166 u167 u168 u169 u170 u171 u172 u173 u174 u175 u176 u177 u178 u179 u180 u181 u182 u183 u184 u185 u186 u187 u188 u189 u190 u191 u192 u193 u194 u195 u196 u197 u198 u199 u200 u201 u202 u203 u204 u205 u206 u207 u208 u209 u210 u211 u212 u213 u214 u215 u216 u217 u218 u219 u220 u225 u226 u227 u228 u229 u230 u231 u232 u233 u234 u235 u236 u237 u238 u239 u240 u241 u242 u243 u244 u245 u246 u247 u248 u249 u250 u251 u252 u253 u254 u255 u256 u257 u258 u259 u260 u261 u262 u263 u264 u265 u266 u267 u268 u269 u270 u271 u272 u273 u274 u275 u276 u277 u278 u279 u280 u281 u282 u283 u284 u285 u286 u287 u288 u289 u290 u291 u292 u293 u294 u295 u296 u297 u298 u299 u300 u301 u302 u303 u304 u305 u306 u307 u308 u309 u310 u311 u312 u313 u314 u315 u316 u317 u318 u319 u320 u321 u322 u323 u324 u325 u326 u327 u328 u329 u330 u331 u332 u333 u334 u335 u336 u337 u338 u339 u340 u341 u342 u343 u344 u345 u346 u347 u348 u349 u350 u351 u352 u353 u354 u355 u356 u357 u358 u359 u360 u361 u362 u363 u364 u365 u366 u367 u368 u369 u370 u371 u372 u373 u374 u375 u376 u377 u378 u379 u380 u381 u382 u383 u384 u385 u386 u387 u388 u389 u390 u391 u392 u393 u394 u395 u396 u397 u398 u399 u400 u401 u402 u403 u404 u405 u406 u407 u408 u409 u410 u411 u412 u413 u414 u415 u416 u417 u418 u419 u420 u421 u422 u423 : Value)
    (hN : NextK w0 pb tb mb c nm rb tt c2 sb ON OC bO off j OA L S E EE Q u0 u1 u2 u3 u4 u5 u6 u10 u11 u12 u13 u15 u16 u17 u20 u21 u22 u23 u24 u25 u26 u27 u28 u29 u30 u31 u32 u33 u34 u35 u36 u37 u38 u39 u40 u41 u42 u43 u44 u45 u46 u47 u48 u49 u50 u51 u52 u53 u54 u55 u56 u57 u58 u59 u60 u61 u62 u63 u64 u65 u66 u67 u68 u69 u70 u71 u72 u73 u74 u75 u76 u77 u78 u79 u80 u81 u82 u83 u84 u85 u86 u87 u88 u89 u90 u91 u92 u93 u94 u95 u96 u97 u98 u99 u100 u101 u102 u103 u104 u105 u106 u107 u108 u109 u110 u111 u112 u113 u114 u115 u116 u117 u118 u119 u120 u121 u122 u123 u124 u125 u126 u127 u128 u129 u130 u131 u132 u133 u134 u135 u136 u137 u138 u139 u140 u141 u142 u143 u144 u145 u146 u147 u148 u149 u150 u151 u152 u153 u154 u155 u156 u157 u158 u159 u160 u161 u162 u163 u164 u165 u166 u167 u168 u169 u170 u171 u172 u173 u174 u175 u176 u177 u178 u179 u180 u181 u182 u183 u184 u185 u186 u187 u188 u189 u190 u191 u192 u193 u194 u195 u196 u197 u198 u199 u200 u201 u202 u203 u204 u205 u206 u207 u208 u209 u210 u211 u212 u213 u214 u215 u216 u217 u218 u219 u220 u225 u226 u227 u228 u229 u230 u231 u232 u233 u234 u235 u236 u237 u238 u239 u240 u241 u242 u243 u244 u245 u246 u247 u248 u249 u250 u251 u252 u253 u254 u255 u256 u257 u258 u259 u260 u261 u262 u263 u264 u265 u266 u267 u268 u269 u270 u271 u272 u273 u274 u275 u276 u277 u278 u279 u280 u281 u282 u283 u284 u285 u286 u287 u288 u289 u290 u291 u292 u293 u294 u295 u296 u297 u298 u299 u300 u301 u302 u303 u304 u305 u306 u307 u308 u309 u310 u311 u312 u313 u314 u315 u316 u317 u318 u319 u320 u321 u322 u323 u324 u325 u326 u327 u328 u329 u330 u331 u332 u333 u334 u335 u336 u337 u338 u339 u340 u341 u342 u343 u344 u345 u346 u347 u348 u349 u350 u351 u352 u353 u354 u355 u356 u357 u358 u359 u360 u361 u362 u363 u364 u365 u366 u367 u368 u369 u370 u371 u372 u373 u374 u375 u376 u377 u378 u379 u380 u381 u382 u383 u384 u385 u386 u387 u388 u389 u390 u391 u392 u393 u394 u395 u396 u397 u398 u399 u400 u401 u402 u403 u404 u405 u406 u407 u408 u409 u410 u411 u412 u413 u414 u415 u416 u417 u418 u419 u420 u421 u422 u423)
    (hW : WS w0 w pb tb mb c nm rb tt c2 sb L S E s s σ σ) (hES : Hid (ES E S)) (hT : Hid (TB EE L)) (hE : EE ≤ 65536) (hcap : L.length ≤ c ∧ c ≤ maxLen) (hcap2 : L.length ≤ c2 ∧ c2 ≤ maxLen) (hG : Hid (Good S (types L) EE s)) (hGσ : Hid (∀ i, i < 4 → Good S (types L) EE (σ i))) (hpb : w0.heap.size ≤ pb) (hrb : w0.heap.size ≤ rb) (hsw : w0.heap.size ≤ sb)
    (hcj : w.cell? ⟨bO, off + j, none⟩ = some (.int .u8 (B : Int))) (hj : j < ON) (hON : ON ≤ 1048576) (hB : B < 256) (h7 : bits BinOp.and IntKind.u8 (B : Int) 7 = 6) (hBA : (B : Int) / 8 = (A : Int)) (hA : A < 32) :
    Code.wp Try.prog opBody Q ⟨#[u0, u1, u2, u3, u4, u5, u6, .slice (some ⟨tt, 0, none⟩) L.length c2, .slice OA ON OC, .pointer (some ⟨rb, 0, none⟩), u10, u11, u12, u13, .pointer (some ⟨pb, 0, none⟩), u15, u16, u17, .pointer (some ⟨sb, 0, none⟩), .pointer (some ⟨sb + 1, 0, none⟩), u20, u21, u22, u23, u24, u25, u26, u27, u28, u29, u30, u31, u32, u33, u34, u35, u36, u37, u38, u39, u40, u41, u42, u43, u44, u45, u46, u47, u48, u49, u50, u51, u52, u53, u54, u55, u56, u57, u58, u59, u60, u61, u62, u63, u64, u65, u66, u67, u68, u69, u70, u71, u72, u73, u74, u75, u76, u77, u78, u79, u80, u81, u82, u83, u84, u85, u86, u87, u88, u89, u90, u91, u92, u93, u94, u95, u96, u97, u98, u99, u100, u101, u102, u103, u104, u105, u106, u107, u108, u109, u110, u111, u112, u113, u114, u115, u116, u117, u118, u119, u120, u121, u122, u123, u124, u125, u126, u127, u128, u129, u130, u131, u132, u133, u134, u135, u136, u137, u138, u139, u140, u141, u142, u143, u144, u145, u146, u147, u148, u149, u150, u151, u152, u153, u154, u155, u156, u157, u158, u159, u160, u161, u162, u163, u164, u165, u166, u167, u168, u169, u170, u171, u172, u173, u174, u175, u176, u177, u178, u179, u180, u181, u182, u183, u184, u185, u186, u187, u188, u189, u190, u191, u192, u193, u194, u195, u196, u197, u198, u199, u200, u201, u202, u203, u204, u205, u206, u207, u208, u209, u210, u211, u212, u213, u214, u215, u216, u217, u218, u219, u220, .slice (some ⟨bO, off, none⟩) ON OC, .int .i64 ON, .int .i64 (j : Int), .bool true, u225, u226, u227, u228, u229, u230, u231, u232, u233, u234, u235, u236, u237, u238, u239, u240, u241, u242, u243, u244, u245, u246, u247, u248, u249, u250, u251, u252, u253, u254, u255, u256, u257, u258, u259, u260, u261, u262, u263, u264, u265, u266, u267, u268, u269, u270, u271, u272, u273, u274, u275, u276, u277, u278, u279, u280, u281, u282, u283, u284, u285, u286, u287, u288, u289, u290, u291, u292, u293, u294, u295, u296, u297, u298, u299, u300, u301, u302, u303, u304, u305, u306, u307, u308, u309, u310, u311, u312, u313, u314, u315, u316, u317, u318, u319, u320, u321, u322, u323, u324, u325, u326, u327, u328, u329, u330, u331, u332, u333, u334, u335, u336, u337, u338, u339, u340, u341, u342, u343, u344, u345, u346, u347, u348, u349, u350, u351, u352, u353, u354, u355, u356, u357, u358, u359, u360, u361, u362, u363, u364, u365, u366, u367, u368, u369, u370, u371, u372, u373, u374, u375, u376, u377, u378, u379, u380, u381, u382, u383, u384, u385, u386, u387, u388, u389, u390, u391, u392, u393, u394, u395, u396, u397, u398, u399, u400, u401, u402, u403, u404, u405, u406, u407, u408, u409, u410, u411, u412, u413, u414, u415, u416, u417, u418, u419, u420, u421, u422, u423], []⟩ w := by
  have hrl : s.raw < L.length := by have := hG.out.raw; have := hT.out.len; omega
  have hnl : s.next < L.length := by have := hG.out.le; have := hT.out.len; omega
  have hL1 : L.length ≤ 65537 := by have := hT.out.len; omega
  have hLE : EE < L.length := by have := hT.out.len; omega
  have HF : Hid (PL.First (types L) EE) := by have := hT.out.first; rw [hT.out.len, Nat.add_sub_cancel] at this; exact this
  have hi0 : (0 : Int) ≤ (j : Int) := by omega
  have hi1 : (j : Int) < (ON : Int) := by omega
  conv => arg 2; whnf
  have h3 := and3 A hA
  obtain ⟨i4, hi4⟩ : ∃ x, x = A % 4 := ⟨_, rfl⟩
  rw [← hi4] at h3
  have hlt4 : i4 < 4 := by omega
  have hk0 : (0 : Int) ≤ (i4 : Int) := by omega
  have hk1 : (i4 : Int) < 4 := by omega
  clear hi4
  obtain ⟨o0, o1, o2⟩ := hW.k.cell hlt4
  have c8 := hW.f.cell8
  have hq1 := (hGσ.out i4 hlt4).raw
  have hq2 := hG.out.raw
  obtain ⟨a0, ha⟩ : ∃ x, x = (σ i4).raw := ⟨_, rfl⟩
  rw [← ha] at o0 hq1
  have HA0 := Lib.hid ha
  clear o1 o2 ha
  by_cases hgt : s.raw < a0
  case pos =>
    have hgi : (s.raw : Int) < (a0 : Int) := by omega
    go_wp2_with fail
    clear hcj o0 c8
    obtain ⟨N, hN'⟩ : ∃ N, s.raw + N = a0 := ⟨a0 - s.raw, by omega⟩
    have hNs : a0 - s.raw = N := by omega
    have ha0 : (0 : Int) ≤ (s.raw : Int) := by omega
    have ha1 : (s.raw : Int) ≤ (a0 : Int) := by omega
    have ha2 : (a0 : Int) ≤ (c2 : Int) := by have := hcap2.1; omega
    have hne : ¬ c2 = s.raw := by have := hcap2.1; omega
    go_region_held3 (fun w' => WS w0 w' pb tb mb c nm rb tt c2 sb L S E s s σ σ)
      (first | assumption | exact hW.drew | (go_split_ands; exact WS.drewN (by assumption) _))
      (first
        | (go_at_call 20; refine (range_at _ pb tb L.length c _ _ _ _ (s.raw) (a0) N (WS.x (by go_split_ands; assumption)).blk hN' (by have := hcap.1; omega) hcap.2).mono ?_; rintro e w8 ⟨A', c', rfl, rfl, hA'⟩; have HA' := Lib.hid hA'; clear hA')
        | (go_at_call 31; refine (same_any _ _ _ N _ _ (s.raw) (s.raw) L L (tsl_cut (by omega) HA' (WS.x (by go_split_ands; assumption)).row) (.inr ⟨tt, rfl, (WS.f (by go_split_ands; assumption)).row, by omega⟩) (fun j hj => rfl) (by omega)).mono ?_; rintro e w8 ⟨rfl, q, rfl⟩))
    have hW3 := ‹WS w0 (World.drewN _ _) _ _ _ _ _ _ _ _ _ _ _ _ _ _ _ _›
    clear hW hNs
    go_wp2_with fail
    refine (state_any _ pb tb mb c nm rb tt c2 L S E (s).raw (s).next (s).cur hW3.x hW3.f (by have := (hG.out).raw; omega) (by have := (hG.out).le; omega) (by omega)).mono ?_
    rintro e wz ⟨rfl, hbz⟩
    have HWz := Lib.hid (hW3.later hbz)
    clear hW3 hbz
    have HN := Lib.hid hN
    clear hN
    go_wp2_with fail
    exact HN.out (s) σ _ _ _ _ _ _ _ _ _ _ _ _ _ _ _ _ _ _ _ _ _ _ _ _ _ _ _ _ _ _ _ _ _ _ _ _ _ _ _ _ _ _ _ _ _ _ _ _ _ _ _ _ _ _ _ _ _ _ _ _ _ _ _ _ _ _ _ _ _ _ _ _ _ _ _ _ _ _ _ _ _ _ _ _ _ _ _ _ _ _ _ _ _ _ _ _ _ _ _ _ _ _ _ _ _ _ _ _ _ _ _ _ _ _ _ _ _ _ _ _ _ _ _ _ _ _ _ _ _ _ _ _ _ _ _ _ _ _ _ _ _ _ _ _ _ _ _ _ _ _ _ _ _ _ _ _ _ _ _ _ _ _ _ _ _ _ _ _ _ _ _ _ _ _ _ _ _ _ _ _ _ _ _ _ _ _ _ _ _ _ _ _ _ _ _ _ _ _ _ _ _ _ _ _ _ _ _ _ _ _ _ _ _ _ (hG.out) (hGσ.out) HWz.out
  case neg =>
    have hgi : decide (s.raw < a0) = false := by simp; omega
    go_wp2_with fail
    clear hcj o0 c8
    obtain ⟨N, hN'⟩ : ∃ N, a0 + N = s.raw := ⟨s.raw - a0, by omega⟩
    have hNs : s.raw - a0 = N := by omega
    have ha0 : (0 : Int) ≤ (a0 : Int) := by omega
    have ha1 : (a0 : Int) ≤ (s.raw : Int) := by omega
    have ha2 : (s.raw : Int) ≤ (c2 : Int) := by have := hcap2.1; omega
    have hne : ¬ c2 = a0 := by have := hcap2.1; omega
    go_region_held3 (fun w' => WS w0 w' pb tb mb c nm rb tt c2 sb L S E s s σ σ)
      (first | assumption | exact hW.drew | (go_split_ands; exact WS.drewN (by assumption) _))
      (first
        | (go_at_call 20; refine (range_at _ pb tb L.length c _ _ _ _ (a0) (s.raw) N (WS.x (by go_split_ands; assumption)).blk hN' (by have := hcap.1; omega) hcap.2).mono ?_; rintro e w8 ⟨A', c', rfl, rfl, hA'⟩; have HA' := Lib.hid hA'; clear hA')
        | (go_at_call 31; refine (same_any _ _ _ N _ _ (a0) (a0) L L (tsl_cut (by omega) HA' (WS.x (by go_split_ands; assumption)).row) (.inr ⟨tt, rfl, (WS.f (by go_split_ands; assumption)).row, by omega⟩) (fun j hj => rfl) (by omega)).mono ?_; rintro e w8 ⟨rfl, q, rfl⟩))
    have hW3 := ‹WS w0 (World.drewN _ _) _ _ _ _ _ _ _ _ _ _ _ _ _ _ _ _›
    clear hW hNs
    go_wp2_with fail
    refine (state_any _ pb tb mb c nm rb tt c2 L S E (s).raw (s).next (s).cur hW3.x hW3.f (by have := (hG.out).raw; omega) (by have := (hG.out).le; omega) (by omega)).mono ?_
    rintro e wz ⟨rfl, hbz⟩
    have HWz := Lib.hid (hW3.later hbz)
    clear hW3 hbz
    have HN := Lib.hid hN
    clear hN
    go_wp2_with fail
    exact HN.out (s) σ _ _ _ _ _ _ _ _ _ _ _ _ _ _ _ _ _ _ _ _ _ _ _ _ _ _ _ _ _ _ _ _ _ _ _ _ _ _ _ _ _ _ _ _ _ _ _ _ _ _ _ _ _ _ _ _ _ _ _ _ _ _ _ _ _ _ _ _ _ _ _ _ _ _ _ _ _ _ _ _ _ _ _ _ _ _ _ _ _ _ _ _ _ _ _ _ _ _ _ _ _ _ _ _ _ _ _ _ _ _ _ _ _ _ _ _ _ _ _ _ _ _ _ _ _ _ _ _ _ _ _ _ _ _ _ _ _ _ _ _ _ _ _ _ _ _ _ _ _ _ _ _ _ _ _ _ _ _ _ _ _ _ _ _ _ _ _ _ _ _ _ _ _ _ _ _ _ _ _ _ _ _ _ _ _ _ _ _ _ _ _ _ _ _ _ _ _ _ _ _ _ _ _ _ _ _ _ _ _ _ _ _ _ _ (hG.out) (hGσ.out) HWz.out
set_option maxHeartbeats 4000000 in
set_option maxRecDepth 1000000 in
theorem op7 (w0 w : World) (pb tb mb c nm rb tt c2 sb ON OC bO off j B A : Nat) (OA : Option Addr) (L : List Tok) (S : Int → Bool) (E : Nat → Bool) (EE : Nat) (s : PL.St) (σ : Nat → PL.St) (Q : Exit → Act → World → Prop) (u0 u1 u2 u3 u4 u5 u6 u10 u11 u12 u13 u15 u16 u17 u20 u21 u22 u23 u24 u25 u26 u27 u28 u29 u30 u31 u32 u33 u34 u35 u36 u37 u38 u39 u40 u41 u42 u43 u44 u45 u46 u47 u48 u49 u50 u51 u52 u53 u54 u55 u56 u57 u58 u59 u60 u61 u62 u63 u64 u65 u66 u67 u68 u69 u70 u71 u72 u73 u74 u75 u76 u77 u78 u79 u80 u81 u82 u83 u84 u85 u86 u87 u88 u89 u90 u91 u92 u93 u94 u95 u96 u97 u98 u99 u100 u101 u102 u103 u104 u105 u106 u107 u108 u109 u110 u111 u112 u113 u114 u115 u116 u117 u118 u119 u120 u121 u122 u123 u124 u125 u126 u127 u128 u129 u130 u131 u132 u133 u134 u135 u136 u137 u138 u139 u140 u141 u142 u143 u144 u145 u146 u147 u148 u149 u150 u151 u152 u153 u154 u155 u156 u157 u158 u159 u160 u161 u162 u163 u164 u165 u166 u167 u168 u169 u170 u171 u172 u173 u174 u175 u176 u177 u178 u179 u180 u181 u182 u183 u184 u185 u186 u187 u188 u189 u190 u191 u192 u193 u194 u195 u196 u197 u198 u199 u200 u201 u202 u203 u204 u205 u206 u207 u208 u209 u210 u211 u212 u213 u214 u215 u216 u217 u218 u219 u220 u225 u226 u227 u228 u229 u230 u231 u232 u233 u234 u235 u236 u237 u238 u239 u240 u241 u242 u243 u244 u245 u246 u247 u248 u249 u250 u251 u252 u253 u254 u255 u256 u257 u258 u259 u260 u261 u262 u263 u264 u265 u266 u267 u268 u269 u270 u271 u272 u273 u274 u275 u276 u277 u278 u279 u280 u281 u282 u283 u284 u285 u286 u287 u288 u289 u290 u291 u292 u293 u294 u295 u296 u297 u298 u299 u300 u301 u302 u303 u304 u305 u306 u307 u308 u309 u310 u311 u312 u313 u314 u315 u316 u317 u318 u319 u320 u321 u322 u323 u324 u325 u326 u327 u328 u329 u330 u331 u332 u333 u334 u335 u336 u337 u338 u339 u340 u341 u342 u343 u344 u345 u346 u347 u348 u349 u350 u351 u352 u353 u354 u355 u356 u357 u358 u359 u360 u361 u362 u363 u364 u365 u366 u367 u368 u369 u370 u371 u372 u373 u374 u375 u376 u377 u378 u379 u380 u381 u382 u383 u384 u385 u386 u387 u388 u389 u390 u391 u392 u393 u394 u395 u396 u397 u398 u399 u400 u401 u402 u403 u404 u405 u406 u407 u408 u409 u410 u411 u412 u413 u414 u415 u416 u417 u418 u419 u420 u421 u422 u423 : Value)
    (hN : NextK w0 pb tb mb c nm rb tt c2 sb ON OC bO off j OA L S E EE Q u0 u1 u2 u3 u4 u5 u6 u10 u11 u12 u13 u15 u16 u17 u20 u21 u22 u23 u24 u25 u26 u27 u28 u29 u30 u31 u32 u33 u34 u35 u36 u37 u38 u39 u40 u41 u42 u43 u44 u45 u46 u47 u48 u49 u50 u51 u52 u53 u54 u55 u56 u57 u58 u59 u60 u61 u62 u63 u64 u65 u66 u67 u68 u69 u70 u71 u72 u73 u74 u75 u76 u77 u78 u79 u80 u81 u82 u83 u84 u85 u86 u87 u88 u89 u90 u91 u92 u93 u94 u95 u96 u97 u98 u99 u100 u101 u102 u103 u104 u105 u106 u107 u108 u109 u110 u111 u112 u113 u114 u115 u116 u117 u118 u119 u120 u121 u122 u123 u124 u125 u126 u127 u128 u129 u130 u131 u132 u133 u134 u135 u136 u137 u138 u139 u140 u141 u142 u143 u144 u145 u146 u147 u148 u149 u150 u151 u152 u153 u154 u155 u156 u157 u158 u159 u160 u161 u162 u163 u164 u165 u166 u167 u168 u169 u170 u171 u172 u173 u174 u175 u176 u177 u178 u179 u180 u181 u182 u183 u184 u185 u186 u187 u188 u189 u190 u191 u192 u193 u194 u195 u196 u197 u198 u199 u200 u201 u202 u203 u204 u205 u206 u207 u208 u209 u210 u211 u212 u213 u214 u215 u216 u217 u218 u219 u220 u225 u226 u227 u228 u229 u230 u231 u232 u233 u234 u235 u236 u237 u238 u239 u240 u241 u242 u243 u244 u245 u246 u247 u248 u249 u250 u251 u252 u253 u254 u255 u256 u257 u258 u259 u260 u261 u262 u263 u264 u265 u266 u267 u268 u269 u270 u271 u272 u273 u274 u275 u276 u277 u278 u279 u280 u281 u282 u283 u284 u285 u286 u287 u288 u289 u290 u291 u292 u293 u294 u295 u296 u297 u298 u299 u300 u301 u302 u303 u304 u305 u306 u307 u308 u309 u310 u311 u312 u313 u314 u315 u316 u317 u318 u319 u320 u321 u322 u323 u324 u325 u326 u327 u328 u329 u330 u331 u332 u333 u334 u335 u336 u337 u338 u339 u340 u341 u342 u343 u344 u345 u346 u347 u348 u349 u350 u351 u352 u353 u354 u355 u356 u357 u358 u359 u360 u361 u362 u363 u364 u365 u366 u367 u368 u369 u370 u371 u372 u373 u374 u375 u376 u377 u378 u379 u380 u381 u382 u383 u384 u385 u386 u387 u388 u389 u390 u391 u392 u393 u394 u395 u396 u397 u398 u399 u400 u401 u402 u403 u404 u405 u406 u407 u408 u409 u410 u411 u412 u413 u414 u415 u416 u417 u418 u419 u420 u421 u422 u423)
    (hW : WS w0 w pb tb mb c nm rb tt c2 sb L S E s s σ σ) (hES : Hid (ES E S)) (hT : Hid (TB EE L)) (hE : EE ≤ 65536) (hcap : L.length ≤ c ∧ c ≤ maxLen) (hcap2 : L.length ≤ c2 ∧ c2 ≤ maxLen) (hG : Hid (Good S (types L) EE s)) (hGσ : Hid (∀ i, i < 4 → Good S (types L) EE (σ i))) (hpb : w0.heap.size ≤ pb) (hrb : w0.heap.size ≤ rb) (hsw : w0.heap.size ≤ sb)
    (hcj : w.cell? ⟨bO, off + j, none⟩ = some (.int .u8 (B : Int))) (hj : j < ON) (hON : ON ≤ 1048576) (hB : B < 256) (h7 : bits BinOp.and IntKind.u8 (B : Int) 7 = 7) (hBA : (B : Int) / 8 = (A : Int)) (hA : A < 32) :
    Code.wp Try.prog opBody Q ⟨#[u0, u1, u2, u3, u4, u5, u6, .slice (some ⟨tt, 0, none⟩) L.length c2, .slice OA ON OC, .pointer (some ⟨rb, 0, none⟩), u10, u11, u12, u13, .pointer (some ⟨pb, 0, none⟩), u15, u16, u17, .pointer (some ⟨sb, 0, none⟩), .pointer (some ⟨sb + 1, 0, none⟩), u20, u21, u22, u23, u24, u25, u26, u27, u28, u29, u30, u31, u32, u33, u34, u35, u36, u37, u38, u39, u40, u41, u42, u43, u44, u45, u46, u47, u48, u49, u50, u51, u52, u53, u54, u55, u56, u57, u58, u59, u60, u61, u62, u63, u64, u65, u66, u67, u68, u69, u70, u71, u72, u73, u74, u75, u76, u77, u78, u79, u80, u81, u82, u83, u84, u85, u86, u87, u88, u89, u90, u91, u92, u93, u94, u95, u96, u97, u98, u99, u100, u101, u102, u103, u104, u105, u106, u107, u108, u109, u110, u111, u112, u113, u114, u115, u116, u117, u118, u119, u120, u121, u122, u123, u124, u125, u126, u127, u128, u129, u130, u131, u132, u133, u134, u135, u136, u137, u138, u139, u140, u141, u142, u143, u144, u145, u146, u147, u148, u149, u150, u151, u152, u153, u154, u155, u156, u157, u158, u159, u160, u161, u162, u163, u164, u165, u166, u167, u168, u169, u170, u171, u172, u173, u174, u175, u176, u177, u178, u179, u180, u181, u182, u183, u184, u185, u186, u187, u188, u189, u190, u191, u192, u193, u194, u195, u196, u197, u198, u199, u200, u201, u202, u203, u204, u205, u206, u207, u208, u209, u210, u211, u212, u213, u214, u215, u216, u217, u218, u219, u220, .slice (some ⟨bO, off, none⟩) ON OC, .int .i64 ON, .int .i64 (j : Int), .bool true, u225, u226, u227, u228, u229, u230, u231, u232, u233, u234, u235, u236, u237, u238, u239, u240, u241, u242, u243, u244, u245, u246, u247, u248, u249, u250, u251, u252, u253, u254, u255, u256, u257, u258, u259, u260, u261, u262, u263, u264, u265, u266, u267, u268, u269, u270, u271, u272, u273, u274, u275, u276, u277, u278, u279, u280, u281, u282, u283, u284, u285, u286, u287, u288, u289, u290, u291, u292, u293, u294, u295, u296, u297, u298, u299, u300, u301, u302, u303, u304, u305, u306, u307, u308, u309, u310, u311, u312, u313, u314, u315, u316, u317, u318, u319, u320, u321, u322, u323, u324, u325, u326, u327, u328, u329, u330, u331, u332, u333, u334, u335, u336, u337, u338, u339, u340, u341, u342, u343, u344, u345, u346, u347, u348, u349, u350, u351, u352, u353, u354, u355, u356, u357, u358, u359, u360, u361, u362, u363, u364, u365, u366, u367, u368, u369, u370, u371, u372, u373, u374, u375, u376, u377, u378, u379, u380, u381, u382, u383, u384, u385, u386, u387, u388, u389, u390, u391, u392, u393, u394, u395, u396, u397, u398, u399, u400, u401, u402, u403, u404, u405, u406, u407, u408, u409, u410, u411, u412, u413, u414, u415, u416, u417, u418, u419, u420, u421, u422, u423], []⟩ w := by
  have hrl : s.raw < L.length := by have := hG.out.raw; have := hT.out.len; omega
  have hnl : s.next < L.length := by have := hG.out.le; have := hT.out.len; omega
  have hL1 : L.length ≤ 65537 := by have := hT.out.len; omega
  have hLE : EE < L.length := by have := hT.out.len; omega
  have HF : Hid (PL.First (types L) EE) := by have := hT.out.first; rw [hT.out.len, Nat.add_sub_cancel] at this; exact this
  have hi0 : (0 : Int) ≤ (j : Int) := by omega
  have hi1 : (j : Int) < (ON : Int) := by omega
  conv => arg 2; whnf
  have hA6 : (0 : Int) ≤ (A : Int) % 6 ∧ (A : Int) % 6 < 6 := by omega
  have hsl : PL.stop S (types L) s.raw < L.length := by rw [← hG.out.next]; exact hnl
  go_wp2_with fail
  clear hcj
  refine (peekAnyMatch ((A : Int) % 6 - 1) _ pb tb mb c nm L S s.raw _ _ (hW.x.alloc (.cells #[.int .i64 ((A : Int) % 6 - 1)] 81)) hsl).mono ?_
  rintro e w2 ⟨m, t, ht, rfl, hm0, hm1, hmA, hmR, hb2⟩
  have hFA : FirstAny S L ((A : Int) % 6 - 1) s.raw m := ⟨hm0, hm1, hmA, by rw [ht] at hmR; exact hmR⟩
  have HFA := Lib.hid hFA
  have HTK := Lib.hid ht
  have hW2 := ((hW.alloc (.cells #[.int .i64 ((A : Int) % 6 - 1)] 81)).later hb2).alloc (.cells #[.int .i64 t.ty, .string t.val, .string t.fn, .int .i64 t.off, .int .i64 t.line, .int .i64 t.col] 46)
  have hk2 := Blk.new w2 46 #[.int .i64 t.ty, .string t.val, .string t.fn, .int .i64 t.off, .int .i64 t.line, .int .i64 t.col]
  clear hW hFA hmA hmR ht hb2
  go_wp2_with fail
  refine (rpa_any _ rb tt c2 L E S s.raw _ _ ((A : Int) % 6 - 1) hW2.f hES.out (fun j => hT.out.range j) hsl (by omega)).mono ?_
  rintro e w3 ⟨m', hm', rfl, hb3⟩
  obtain rfl := HFA.out.eq hm'
  have hW3 := hW2.later hb3
  have hk3 := hk2.later hb3
  clear hW2 hk2 hb3 hm'
  obtain ⟨d0, d1, d2, d3, d4, d5⟩ := row_tok hW3.f.row hm1
  rw [← HTK.out] at d0 d1 d2 d3 d4 d5
  have q0 := hk3.cell 0
  have q1 := hk3.cell 1
  have q2 := hk3.cell 2
  have q3 := hk3.cell 3
  have q4 := hk3.cell 4
  have q5 := hk3.cell 5
  simp at q0 q1 q2 q3 q4 q5
  have hn0 : (0 : Int) ≤ (m : Int) := by omega
  have hn1 : (m : Int) < (L.length : Int) := by omega
  go_wp2_with fail
  go_quiet (fail)
  have hW4 := hW3.drewN nq
  clear hW3 hk3 d0 d1 d2 d3 d4 d5 q0 q1 q2 q3 q4 q5
  go_wp2_with fail
  refine (ff_any _ pb tb mb c nm L S s ((m : Int)) hW4.x EE HF.out hLE hG.out.raw (by have := hG.out.curLe; omega) (by omega)).mono ?_
  rintro e wp ⟨rfl, hgp, hxp⟩
  have hWp := hW4.lexer hgp hpb hxp
  clear hW4 hgp hxp
  go_wp2_with fail
  refine (rff_any _ rb tt c2 L E S s ((m : Int)) hWp.f hES.out (fun j => hT.out.range j) EE HF.out hLE hG.out.raw (by have := hG.out.curLe; omega) (by omega)).mono ?_
  rintro e wq ⟨rfl, hgq, hfq⟩
  have hWq := hWp.ref hgq hrb hfq
  clear hWp hgq hfq
  have hGn := hG.out.ff HF.out (((m : Int)))
  go_wp2_with fail
  refine (state_any _ pb tb mb c nm rb tt c2 L S E (s.ff S (types L) EE ((m : Int))).raw (s.ff S (types L) EE ((m : Int))).next (s.ff S (types L) EE ((m : Int))).cur hWq.x hWq.f (by have := (hGn).raw; omega) (by have := (hGn).le; omega) (by omega)).mono ?_
  rintro e wz ⟨rfl, hbz⟩
  have HWz := Lib.hid (hWq.later hbz)
  clear hWq hbz
  have HN := Lib.hid hN
  clear hN
  go_wp2_with fail
  exact HN.out (s.ff S (types L) EE ((m : Int))) σ _ _ _ _ _ _ _ _ _ _ _ _ _ _ _ _ _ _ _ _ _ _ _ _ _ _ _ _ _ _ _ _ _ _ _ _ _ _ _ _ _ _ _ _ _ _ _ _ _ _ _ _ _ _ _ _ _ _ _ _ _ _ _ _ _ _ _ _ _ _ _ _ _ _ _ _ _ _ _ _ _ _ _ _ _ _ _ _ _ _ _ _ _ _ _ _ _ _ _ _ _ _ _ _ _ _ _ _ _ _ _ _ _ _ _ _ _ _ _ _ _ _ _ _ _ _ _ _ _ _ _ _ _ _ _ _ _ _ _ _ _ _ _ _ _ _ _ _ _ _ _ _ _ _ _ _ _ _ _ _ _ _ _ _ _ _ _ _ _ _ _ _ _ _ _ _ _ _ _ _ _ _ _ _ _ _ _ _ _ _ _ _ _ _ _ _ _ _ _ _ _ _ _ _ _ _ _ _ _ _ _ _ _ _ (hGn) (hGσ.out) HWz.out
end Tp
end Go.Proofs.Ytomfonilbenhbaa
