/- shrinkBalls, piece by piece. -/
import Derived.Test.Qxb6613821aDoorL9
namespace Go.Proofs.Qxb6613821aDoor
set_option linter.unusedVariables false
set_option linter.unusedSimpArgs false
open Ieee Go.RowKit

set_option maxHeartbeats 8000000 in
set_option maxRecDepth 1000000 in
theorem L10 {w : World} {H n S0 pg N c nn : Nat} {P : Pairs} {E : Nat → Nat → Nat} {hd : Nat → Nat → Bool} {vs' : List Value} {L' : List (List Nat)} {pl' : Nat → Nat → Int} {Q : Exit → Act → World → Prop} (HNN : Hid (nn = n * n)) (hnn : nn ≤ 65536) (hn0 : 0 < n) (hn : n ≤ 256) (hN2 : N ≤ 65792) (hp1 : H + 4 ≤ pg) (hp2 : pg < S0)
    {hold : Nat → Nat → Bool} {st3 : Nat → Nat → Nat} {rd3 : Nat → Nat} {i v ip hg hc : Nat} {l : List Nat} (HIP : Hid (ip = i * n)) (hipn : ip + n ≤ nn) (hin : i < n) (hll : l.length ≤ 256) (hhc : l.length ≤ hc) (HLin : Hid (∀ j, j ∈ l → j < n)) (HOwn : Hid (∀ (wz : World) (pl2 : Nat → Nat → Int) (sh2 st3 : Nat → Nat → Nat) (rd2 : Nat → Nat), MS w wz H n S0 pg N c vs' L' pl2 sh2 st3 rd2 P E → wz.ownsRow (H + 4) 3 1 (.slice (some ⟨hg, 0, none⟩) l.length hc) l.length (ints l))) {tl : Bool} (HTL : Hid (tl = canLeave n hold i v)) (HCL : Hid (canLeave n hold i v = true ↔ ∀ j ∈ l, 2 ≤ share n hold i j)) {u0 u1 u2 u3 u4 u10 u11 u12 u13 u14 u15 u16 u17 u18 u19 u20 u23 u24 u25 u26 u27 u28 u32 u33 u34 u35 u36 u37 u38 u39 u40 u41 u42 u43 u44 u45 u46 u47 u48 u49 u50 u51 u52 u53 u54 u55 u56 u57 u58 u59 u60 u61 u62 u63 u64 u65 u66 u67 u68 u69 u70 u71 u72 u73 u74 u75 u76 u77 u78 u79 u80 u81 u82 u83 u84 u85 u86 u87 u88 u89 u90 u91 u92 u93 u94 u95 u96 u97 u98 u99 u100 u101 u102 u103 u104 u105 u106 u107 u108 u109 u110 u111 u112 u113 u114 u115 u116 u117 u118 u119 u120 u121 u122 u123 u124 u125 u126 u127 u128 u129 u130 u131 u132 u133 u134 u135 u136 u137 u138 u139 u140 u141 u142 u143 u144 u145 u146 u147 u148 u149 u150 u151 u152 u153 u154 u155 u156 u157 u158 u159 u160 u161 u162 u163 u164 u165 u166 u167 u168 u169 u170 u171 u172 u173 u174 u175 u176 u177 u178 u179 u180 u181 u182 u183 u184 u185 u186 u187 u188 u189 u190 u191 u192 u193 u194 u195 u196 u197 u198 u199 u200 u201 u202 u203 u204 u205 u206 u207 u208 u209 u210 u211 u212 u213 u214 u215 u216 u217 u218 u219 u220 u221 u222 u223 u224 u225 u226 u227 u228 u229 u230 u231 u232 u233 u234 u235 u236 u237 u238 u239 u240 u241 u242 u243 u244 u245 u246 u247 u248 u249 u250 u251 u252 u253 u254 u255 u256 u257 u258 u259 u260 u261 u262 u263 u267 u268 u269 u270 u271 u272 u273 u274 u275 u276 u277 u278 u279 u280 u281 u282 u283 u284 u285 u286 u287 u288 u289 u290 u291 u292 u293 u294 u295 u296 u297 u298 u299 u300 u301 u302 u303 u304 u305 u306 u307 u308 u309 u310 u311 u312 u313 u314 u315 u316 u317 u318 u319 u320 u321 u322 u323 u324 u325 u326 u327 u328 u329 u330 u331 u332 u333 u334 u335 u336 u337 u338 u339 u340 u341 u342 u343 u344 u345 u346 u347 u348 u349 u350 u351 u352 u353 u354 u355 u356 u357 u358 u359 u360 u361 u362 u363 u364 u365 u366 u367 u368 u369 u370 u371 u372 u373 u374 u375 u376 u377 u378 u379 u380 u381 u382 u383 u384 u385 u386 u387 u388 u389 u390 u391 u392 u393 u394 u395 u396 u397 u398 u399 u400 u401 u402 u403 u404 u405 u406 u407 u408 u409 u410 u411 : Value} (w0 : World) (HMS6 : Hid (MS w w0 H n S0 pg N c vs' L' pl' (share n hold) st3 rd3 P E))
    (hQ : ∀ (x33 x266 x267 x268 x269 x270 x271 x272 x273 x274 x275 : Value) (wz : World), Hid (MS w wz H n S0 pg N c vs' L' pl' (share n hold) st3 rd3 P E) → Q .normal ⟨#[u0, u1, u2, u3, u4, .int .i64 (n : Int), .slice (some ⟨H, 0, none⟩) n n, .slice (some ⟨H + 1, 0, none⟩) nn nn, .slice (some ⟨H + 2, 0, none⟩) nn nn, .pointer (some ⟨H + 3, 0, none⟩), u10, u11, u12, u13, u14, u15, u16, u17, u18, u19, u20, .slice (some ⟨S0, 0, none⟩) nn nn, .slice (some ⟨S0 + 1, 0, none⟩) n n, u23, u24, u25, u26, u27, u28, .slice (some ⟨hg, 0, none⟩) l.length hc, .slice (some ⟨H + 2, ip, none⟩) n (nn - ip), .bool tl, u32, x33, u34, u35, u36, u37, u38, u39, u40, u41, u42, u43, u44, u45, u46, u47, u48, u49, u50, u51, u52, u53, u54, u55, u56, u57, u58, u59, u60, u61, u62, u63, u64, u65, u66, u67, u68, u69, u70, u71, u72, u73, u74, u75, u76, u77, u78, u79, u80, u81, u82, u83, u84, u85, u86, u87, u88, u89, u90, u91, u92, u93, u94, u95, u96, u97, u98, u99, u100, u101, u102, u103, u104, u105, u106, u107, u108, u109, u110, u111, u112, u113, u114, u115, u116, u117, u118, u119, u120, u121, u122, u123, u124, u125, u126, u127, u128, u129, u130, u131, u132, u133, u134, u135, u136, u137, u138, u139, u140, u141, u142, u143, u144, u145, u146, u147, u148, u149, u150, u151, u152, u153, u154, u155, u156, u157, u158, u159, u160, u161, u162, u163, u164, u165, u166, u167, u168, u169, u170, u171, u172, u173, u174, u175, u176, u177, u178, u179, u180, u181, u182, u183, u184, u185, u186, u187, u188, u189, u190, u191, u192, u193, u194, u195, u196, u197, u198, u199, u200, u201, u202, u203, u204, u205, u206, u207, u208, u209, u210, u211, u212, u213, u214, u215, u216, u217, u218, u219, u220, u221, u222, u223, u224, u225, u226, u227, u228, u229, u230, u231, u232, u233, u234, u235, u236, u237, u238, u239, u240, u241, u242, u243, u244, u245, u246, u247, u248, u249, u250, u251, u252, u253, u254, u255, u256, u257, u258, u259, u260, u261, u262, u263, .slice (some ⟨hg, 0, none⟩) l.length hc, .int .i64 (l.length : Int), x266, x267, x268, x269, x270, x271, x272, x273, x274, x275, u276, u277, u278, u279, u280, u281, u282, u283, u284, u285, u286, u287, u288, u289, u290, u291, u292, u293, u294, u295, u296, u297, u298, u299, u300, u301, u302, u303, u304, u305, u306, u307, u308, u309, u310, u311, u312, u313, u314, u315, u316, u317, u318, u319, u320, u321, u322, u323, u324, u325, u326, u327, u328, u329, u330, u331, u332, u333, u334, u335, u336, u337, u338, u339, u340, u341, u342, u343, u344, u345, u346, u347, u348, u349, u350, u351, u352, u353, u354, u355, u356, u357, u358, u359, u360, u361, u362, u363, u364, u365, u366, u367, u368, u369, u370, u371, u372, u373, u374, u375, u376, u377, u378, u379, u380, u381, u382, u383, u384, u385, u386, u387, u388, u389, u390, u391, u392, u393, u394, u395, u396, u397, u398, u399, u400, u401, u402, u403, u404, u405, u406, u407, u408, u409, u410, u411], []⟩ wz) :
    Code.wp Tryd.prog (B17 Tryd.f17 18) Q ⟨#[u0, u1, u2, u3, u4, .int .i64 (n : Int), .slice (some ⟨H, 0, none⟩) n n, .slice (some ⟨H + 1, 0, none⟩) nn nn, .slice (some ⟨H + 2, 0, none⟩) nn nn, .pointer (some ⟨H + 3, 0, none⟩), u10, u11, u12, u13, u14, u15, u16, u17, u18, u19, u20, .slice (some ⟨S0, 0, none⟩) nn nn, .slice (some ⟨S0 + 1, 0, none⟩) n n, u23, u24, u25, u26, u27, u28, .slice (some ⟨hg, 0, none⟩) l.length hc, .slice (some ⟨H + 2, ip, none⟩) n (nn - ip), .bool true, u32, u33, u34, u35, u36, u37, u38, u39, u40, u41, u42, u43, u44, u45, u46, u47, u48, u49, u50, u51, u52, u53, u54, u55, u56, u57, u58, u59, u60, u61, u62, u63, u64, u65, u66, u67, u68, u69, u70, u71, u72, u73, u74, u75, u76, u77, u78, u79, u80, u81, u82, u83, u84, u85, u86, u87, u88, u89, u90, u91, u92, u93, u94, u95, u96, u97, u98, u99, u100, u101, u102, u103, u104, u105, u106, u107, u108, u109, u110, u111, u112, u113, u114, u115, u116, u117, u118, u119, u120, u121, u122, u123, u124, u125, u126, u127, u128, u129, u130, u131, u132, u133, u134, u135, u136, u137, u138, u139, u140, u141, u142, u143, u144, u145, u146, u147, u148, u149, u150, u151, u152, u153, u154, u155, u156, u157, u158, u159, u160, u161, u162, u163, u164, u165, u166, u167, u168, u169, u170, u171, u172, u173, u174, u175, u176, u177, u178, u179, u180, u181, u182, u183, u184, u185, u186, u187, u188, u189, u190, u191, u192, u193, u194, u195, u196, u197, u198, u199, u200, u201, u202, u203, u204, u205, u206, u207, u208, u209, u210, u211, u212, u213, u214, u215, u216, u217, u218, u219, u220, u221, u222, u223, u224, u225, u226, u227, u228, u229, u230, u231, u232, u233, u234, u235, u236, u237, u238, u239, u240, u241, u242, u243, u244, u245, u246, u247, u248, u249, u250, u251, u252, u253, u254, u255, u256, u257, u258, u259, u260, u261, u262, u263, .slice (some ⟨hg, 0, none⟩) l.length hc, .int .i64 (l.length : Int), .int .i64 0, u267, u268, u269, u270, u271, u272, u273, u274, u275, u276, u277, u278, u279, u280, u281, u282, u283, u284, u285, u286, u287, u288, u289, u290, u291, u292, u293, u294, u295, u296, u297, u298, u299, u300, u301, u302, u303, u304, u305, u306, u307, u308, u309, u310, u311, u312, u313, u314, u315, u316, u317, u318, u319, u320, u321, u322, u323, u324, u325, u326, u327, u328, u329, u330, u331, u332, u333, u334, u335, u336, u337, u338, u339, u340, u341, u342, u343, u344, u345, u346, u347, u348, u349, u350, u351, u352, u353, u354, u355, u356, u357, u358, u359, u360, u361, u362, u363, u364, u365, u366, u367, u368, u369, u370, u371, u372, u373, u374, u375, u376, u377, u378, u379, u380, u381, u382, u383, u384, u385, u386, u387, u388, u389, u390, u391, u392, u393, u394, u395, u396, u397, u398, u399, u400, u401, u402, u403, u404, u405, u406, u407, u408, u409, u410, u411], []⟩ w0 := by
  conv => arg 2; whnf
  go_wp2_with fail
  go_loopw [31, 33, 266] (fun v31 _ va wr => ∃ a : Nat, va = .int .i64 a ∧ a ≤ l.length ∧ v31 = .bool true ∧ Hid (∀ t j, t < a → l[t]? = some j → 2 ≤ share n hold i j) ∧ Hid (MS w wr H n S0 pg N c vs' L' pl' (share n hold) st3 rd3 P E)) (fun _ _ va _ => l.length - (intOf va).toNat)
  case atStart => exact ⟨0, rfl, Nat.zero_le _, rfl, fun t j ht => absurd ht (by omega), HMS6⟩
  case round =>
    clear HMS6
    obtain ⟨a, rfl, hal, rfl, HA, HMS6⟩ := hrel
    by_cases hlt2 : a < l.length
    · obtain ⟨j, hj⟩ : ∃ j, l[a]? = some j := ⟨_, List.getElem?_eq_getElem hlt2⟩
      have hjn := HLin.out j (List.mem_of_getElem? hj)
      have cj := own_cell (HOwn.out wr _ _ _ _ HMS6.out) (ints_get l hj)
      have hkk : ip + j < n * n := by rw [← HNN.out]; omega
      have cs := HMS6.out.shared.cell hkk
      have hdm : (ip + j) / n = i ∧ (ip + j) % n = j := (divmod_at hjn).2 (by rw [HIP.out])
      rw [hdm.1, hdm.2] at cs
      have HJ4 : Hid (l[a]? = some j) := hj
      have hsle : share n hold i j ≤ n := cnt_le _ _
      clear hdm hkk hj
      by_cases h2 : 2 ≤ share n hold i j
      · have HA2 : Hid (∀ t j, t < a + 1 → l[t]? = some j → 2 ≤ share n hold i j) := fun t j' ht hj' => by
          by_cases e : t = a
          · subst e; rw [HJ4.out] at hj'; cases hj'; exact h2
          · exact HA.out t j' (by omega) hj'
        have h2i : ¬ (share n hold i j : Int) < 2 := by omega
        generalize share n hold i j = sv at *
        go_wp2
        go_roundw
        case rel => exact ⟨a + 1, by go_num, by omega, rfl, HA2, HMS6⟩
        case measure => simp [intOf]; omega
      · have HF : Hid (tl = false) := by
          show _ = _
          rw [HTL.out]
          cases hh : canLeave n hold i v with
          | false => rfl
          | true => exact absurd (HCL.out.1 hh j (List.mem_of_getElem? HJ4.out)) h2
        have h2i : (share n hold i j : Int) < 2 := by omega
        have hF := HF.out
        subst hF
        go_wp2
    · have HF : Hid (tl = true) := by
        show _ = _
        rw [HTL.out]
        refine HCL.out.2 (fun j hj => ?_)
        obtain ⟨t, ht⟩ := List.getElem?_of_mem hj
        exact HA.out t j (by have := (List.getElem?_eq_some_iff.1 ht).1; omega) ht
      have hF := HF.out
      subst hF
      go_wp2
end Go.Proofs.Qxb6613821aDoor
