/- shrinkBalls, piece by piece. -/
import Derived.Test.Qxb6613821aDoorL9
namespace Go.Proofs.Qxb6613821aDoor
set_option linter.unusedVariables false
set_option linter.unusedSimpArgs false
open Ieee Go.RowKit

set_option maxHeartbeats 8000000 in
set_option maxRecDepth 1000000 in
theorem L12 {w : World} {H n S0 pg N c nn : Nat} {P : Pairs} {E : Nat → Nat → Nat} {hd : Nat → Nat → Bool} {vs' : List Value} {L' : List (List Nat)} {pl' : Nat → Nat → Int} {Q : Exit → Act → World → Prop} (HNN : Hid (nn = n * n)) (hnn : nn ≤ 65536) (hn0 : 0 < n) (hn : n ≤ 256) (hN2 : N ≤ 65792) (hp1 : H + 4 ≤ pg) (hp2 : pg < S0)
    {hold2 : Nat → Nat → Bool} {st3 : Nat → Nat → Nat} {top kz : Nat} (HPok : Hid (P.Ok hd)) (HPn : Hid (P.n = n)) (HPLN : Hid (P.N = N)) (hlt : top < N) (HK : Hid (skip (cons2 P st3) (P.N - top) top = kz)) {u0 u1 u2 u3 u4 u10 u11 u12 u13 u14 u15 u16 u17 u18 u19 u20 u24 u25 u26 u27 u28 u29 u30 u31 u32 u33 u34 u35 u36 u37 u38 u39 u40 u41 u42 u43 u44 u45 u46 u47 u48 u49 u50 u51 u52 u53 u54 u55 u56 u57 u58 u59 u60 u61 u62 u63 u64 u65 u66 u67 u68 u69 u70 u71 u72 u73 u74 u75 u76 u77 u78 u79 u80 u81 u82 u83 u84 u85 u86 u87 u88 u89 u90 u91 u92 u93 u94 u95 u96 u97 u98 u99 u100 u101 u102 u103 u104 u105 u106 u107 u108 u109 u110 u111 u112 u113 u114 u115 u116 u117 u118 u119 u120 u121 u122 u123 u124 u125 u126 u127 u128 u129 u130 u131 u132 u133 u134 u135 u136 u137 u138 u139 u140 u141 u142 u143 u144 u145 u146 u147 u148 u149 u150 u151 u152 u153 u154 u155 u156 u157 u158 u159 u160 u161 u162 u163 u164 u165 u166 u167 u168 u169 u170 u171 u172 u173 u174 u175 u176 u177 u178 u179 u180 u181 u182 u183 u184 u185 u186 u187 u188 u189 u190 u191 u192 u193 u194 u195 u196 u197 u198 u199 u200 u201 u202 u203 u204 u205 u206 u207 u208 u209 u210 u211 u212 u213 u214 u215 u216 u217 u218 u219 u220 u221 u222 u223 u224 u225 u226 u227 u228 u229 u230 u231 u232 u233 u234 u235 u236 u237 u238 u239 u240 u241 u242 u243 u244 u245 u246 u247 u248 u249 u250 u251 u252 u253 u254 u255 u256 u257 u258 u259 u260 u261 u262 u263 u264 u265 u266 u267 u268 u269 u270 u271 u272 u273 u274 u275 u276 u277 u278 u279 u280 u281 u282 u283 u284 u285 u286 u287 u288 u289 u290 u291 u292 u293 u294 u295 u296 u297 u298 u299 u300 u301 u302 u303 u304 u305 u306 u307 u308 u309 u310 u311 u312 u313 u314 u315 u316 u317 u318 u319 u320 u321 u322 u323 u324 u325 u326 u327 u328 u329 u330 u331 u332 u333 u334 u335 u336 u337 u338 u339 u340 u341 u342 u343 u344 u345 u346 u347 u348 u349 u350 u351 u352 u353 u354 u355 u356 u357 u358 u359 u360 u361 u362 u363 u364 u365 u366 u367 u368 u369 u370 u371 u372 u373 u374 u375 u376 u377 u378 u379 u380 u381 u382 u383 u384 u385 u386 u387 u388 u389 u390 u391 u392 u393 u394 u395 u396 u397 u398 u399 u400 u401 u402 u403 u404 u405 u406 u407 u408 u409 u410 u411 : Value} (w0 : World) (HM2 : Hid (ML2 w w0 H n S0 pg N c P E hd hold2 st3))
    (hQ : ∀ (x350 x351 x352 x353 x354 x355 x356 x357 x358 x359 x360 x361 x362 x363 x364 x365 x366 x367 x368 x369 x370 x371 x372 x373 x374 : Value) (wz : World), Hid (ML2 w wz H n S0 pg N c P E hd hold2 st3) → Q .normal ⟨#[u0, u1, u2, u3, u4, .int .i64 (n : Int), .slice (some ⟨H, 0, none⟩) n n, .slice (some ⟨H + 1, 0, none⟩) nn nn, .slice (some ⟨H + 2, 0, none⟩) nn nn, .pointer (some ⟨H + 3, 0, none⟩), u10, u11, u12, u13, u14, u15, u16, u17, u18, u19, u20, .slice (some ⟨S0, 0, none⟩) nn nn, .slice (some ⟨S0 + 1, 0, none⟩) n n, .int .i64 (kz : Int), u24, u25, u26, u27, u28, u29, u30, u31, u32, u33, u34, u35, u36, u37, u38, u39, u40, u41, u42, u43, u44, u45, u46, u47, u48, u49, u50, u51, u52, u53, u54, u55, u56, u57, u58, u59, u60, u61, u62, u63, u64, u65, u66, u67, u68, u69, u70, u71, u72, u73, u74, u75, u76, u77, u78, u79, u80, u81, u82, u83, u84, u85, u86, u87, u88, u89, u90, u91, u92, u93, u94, u95, u96, u97, u98, u99, u100, u101, u102, u103, u104, u105, u106, u107, u108, u109, u110, u111, u112, u113, u114, u115, u116, u117, u118, u119, u120, u121, u122, u123, u124, u125, u126, u127, u128, u129, u130, u131, u132, u133, u134, u135, u136, u137, u138, u139, u140, u141, u142, u143, u144, u145, u146, u147, u148, u149, u150, u151, u152, u153, u154, u155, u156, u157, u158, u159, u160, u161, u162, u163, u164, u165, u166, u167, u168, u169, u170, u171, u172, u173, u174, u175, u176, u177, u178, u179, u180, u181, u182, u183, u184, u185, u186, u187, u188, u189, u190, u191, u192, u193, u194, u195, u196, u197, u198, u199, u200, u201, u202, u203, u204, u205, u206, u207, u208, u209, u210, u211, u212, u213, u214, u215, u216, u217, u218, u219, u220, u221, u222, u223, u224, u225, u226, u227, u228, u229, u230, u231, u232, u233, u234, u235, u236, u237, u238, u239, u240, u241, u242, u243, u244, u245, u246, u247, u248, u249, u250, u251, u252, u253, u254, u255, u256, u257, u258, u259, u260, u261, u262, u263, u264, u265, u266, u267, u268, u269, u270, u271, u272, u273, u274, u275, u276, u277, u278, u279, u280, u281, u282, u283, u284, u285, u286, u287, u288, u289, u290, u291, u292, u293, u294, u295, u296, u297, u298, u299, u300, u301, u302, u303, u304, u305, u306, u307, u308, u309, u310, u311, u312, u313, u314, u315, u316, u317, u318, u319, u320, u321, u322, u323, u324, u325, u326, u327, u328, u329, u330, u331, u332, u333, u334, u335, u336, u337, u338, u339, u340, u341, u342, u343, u344, u345, u346, u347, u348, u349, x350, x351, x352, x353, x354, x355, x356, x357, x358, x359, x360, x361, x362, x363, x364, x365, x366, x367, x368, x369, x370, x371, x372, x373, x374, u375, u376, u377, u378, u379, u380, u381, u382, u383, u384, u385, u386, u387, u388, u389, u390, u391, u392, u393, u394, u395, u396, u397, u398, u399, u400, u401, u402, u403, u404, u405, u406, u407, u408, u409, u410, u411], []⟩ wz) :
    Code.wp Tryd.prog (B17 Tryd.f17 22) Q ⟨#[u0, u1, u2, u3, u4, .int .i64 (n : Int), .slice (some ⟨H, 0, none⟩) n n, .slice (some ⟨H + 1, 0, none⟩) nn nn, .slice (some ⟨H + 2, 0, none⟩) nn nn, .pointer (some ⟨H + 3, 0, none⟩), u10, u11, u12, u13, u14, u15, u16, u17, u18, u19, u20, .slice (some ⟨S0, 0, none⟩) nn nn, .slice (some ⟨S0 + 1, 0, none⟩) n n, .int .i64 (top : Int), u24, u25, u26, u27, u28, u29, u30, u31, u32, u33, u34, u35, u36, u37, u38, u39, u40, u41, u42, u43, u44, u45, u46, u47, u48, u49, u50, u51, u52, u53, u54, u55, u56, u57, u58, u59, u60, u61, u62, u63, u64, u65, u66, u67, u68, u69, u70, u71, u72, u73, u74, u75, u76, u77, u78, u79, u80, u81, u82, u83, u84, u85, u86, u87, u88, u89, u90, u91, u92, u93, u94, u95, u96, u97, u98, u99, u100, u101, u102, u103, u104, u105, u106, u107, u108, u109, u110, u111, u112, u113, u114, u115, u116, u117, u118, u119, u120, u121, u122, u123, u124, u125, u126, u127, u128, u129, u130, u131, u132, u133, u134, u135, u136, u137, u138, u139, u140, u141, u142, u143, u144, u145, u146, u147, u148, u149, u150, u151, u152, u153, u154, u155, u156, u157, u158, u159, u160, u161, u162, u163, u164, u165, u166, u167, u168, u169, u170, u171, u172, u173, u174, u175, u176, u177, u178, u179, u180, u181, u182, u183, u184, u185, u186, u187, u188, u189, u190, u191, u192, u193, u194, u195, u196, u197, u198, u199, u200, u201, u202, u203, u204, u205, u206, u207, u208, u209, u210, u211, u212, u213, u214, u215, u216, u217, u218, u219, u220, u221, u222, u223, u224, u225, u226, u227, u228, u229, u230, u231, u232, u233, u234, u235, u236, u237, u238, u239, u240, u241, u242, u243, u244, u245, u246, u247, u248, u249, u250, u251, u252, u253, u254, u255, u256, u257, u258, u259, u260, u261, u262, u263, u264, u265, u266, u267, u268, u269, u270, u271, u272, u273, u274, u275, u276, u277, u278, u279, u280, u281, u282, u283, u284, u285, u286, u287, u288, u289, u290, u291, u292, u293, u294, u295, u296, u297, u298, u299, u300, u301, u302, u303, u304, u305, u306, u307, u308, u309, u310, u311, u312, u313, u314, u315, u316, u317, u318, u319, u320, u321, u322, u323, u324, u325, u326, u327, u328, u329, u330, u331, u332, u333, u334, u335, u336, u337, u338, u339, u340, u341, u342, u343, u344, u345, u346, u347, u348, u349, u350, u351, u352, u353, u354, u355, u356, u357, u358, u359, u360, u361, u362, u363, u364, u365, u366, u367, u368, u369, u370, u371, u372, u373, u374, u375, u376, u377, u378, u379, u380, u381, u382, u383, u384, u385, u386, u387, u388, u389, u390, u391, u392, u393, u394, u395, u396, u397, u398, u399, u400, u401, u402, u403, u404, u405, u406, u407, u408, u409, u410, u411], []⟩ w0 := by
  conv => arg 2; whnf
  go_wp2_with fail
  go_loopw [23] (fun v23 wr => ∃ k : Nat, v23 = .int .i64 k ∧ k ≤ N ∧ Hid (skip (cons2 P st3) (P.N - k) k = kz) ∧ Hid (ML2 w wr H n S0 pg N c P E hd hold2 st3)) (fun v23 _ => N - (intOf v23).toNat)
  case atStart => exact ⟨top, rfl, by omega, HK, HM2⟩
  case round =>
    clear HM2
    obtain ⟨k, rfl, hkN, HSk, HM2⟩ := hrel
    obtain ⟨vs2, L2, pl2, hms, hls, hoff⟩ := HM2.out.ex
    have c9 : wr.cell? ⟨H + 3, 0, none⟩ = some (.slice (some ⟨pg, 0, none⟩) N c) := hms.box.cell (by omega)
    by_cases hkl : k < N
    · obtain ⟨k0, k1, _⟩ := hms.prs k hkl
      have hkP : k < P.N := by rw [HPLN.out]; exact hkl
      have hxn : P.nd k < n := by rw [← HPn.out]; exact HPok.out.n1 k hkP
      have hyn : P.mb k < n := by rw [← HPn.out]; exact HPok.out.n2 k hkP
      obtain ⟨xp, hxp⟩ : ∃ xp, xp = P.nd k * n := ⟨_, rfl⟩
      have hxpn : xp + n ≤ nn := by rw [hxp, HNN.out, ← Nat.succ_mul]; exact Nat.mul_le_mul_right _ hxn
      have hxm : (P.nd k : Int) * (n : Int) = (xp : Int) := by rw [hxp]; simp
      have hidx2 : xp + P.mb k < nn := by omega
      have cst := hms.state.cell (i := xp + P.mb k) (by rw [← HNN.out]; exact hidx2)
      have hdm : (xp + P.mb k) / n = P.nd k ∧ (xp + P.mb k) % n = P.mb k := (divmod_at hyn).2 (by rw [hxp])
      rw [hdm.1, hdm.2] at cst
      have HC2 : Hid (cons2 P st3 k = (st3 (P.nd k) (P.mb k) == 2)) := rfl
      clear hms hls hoff hdm hxp
      by_cases h2 : st3 (P.nd k) (P.mb k) = 2
      · have HSk2 : Hid (skip (cons2 P st3) (P.N - (k + 1)) (k + 1) = kz) := by
          show _ = _
          rw [← HSk.out, show P.N - k = (P.N - (k + 1)) + 1 from by omega]
          conv => rhs; unfold skip
          rw [if_pos (by rw [HC2.out, h2]; rfl)]
        rw [h2] at cst
        clear h2
        generalize P.nd k = x at *
        generalize P.mb k = y at *
        go_wp2
        go_quiet (fail)
        go_wp2
        go_roundw
        case rel => exact ⟨k + 1, by go_num, by omega, HSk2, HM2.out.keep ((Fr.refl _ _).drewN _)⟩
        case measure => simp [intOf]; omega
      · have hkz : k = kz := by
          rw [← HSk.out, show P.N - k = (P.N - (k + 1)) + 1 from by omega]
          unfold skip
          rw [if_neg (by rw [HC2.out]; simpa using h2)]
        have hne : (((st3 (P.nd k) (P.mb k) : Nat) : Int) == 2) = false := by simp; omega
        clear h2 HSk HC2
        subst hkz
        generalize st3 (P.nd k) (P.mb k) = sv at *
        generalize P.nd k = x at *
        generalize P.mb k = y at *
        go_wp2
        go_quiet (fail)
        go_wp2
        exact HM2.out.keep ((Fr.refl _ _).drewN _)
    · have hkz : k = kz := by
        rw [← HSk.out, show P.N - k = 0 from by have := HPLN.out; omega]; rfl
      clear hms hls hoff HSk
      subst hkz
      go_wp2
      go_quiet (fail)
      go_wp2
      exact HM2.out.keep ((Fr.refl _ _).drewN _)
end Go.Proofs.Qxb6613821aDoor
