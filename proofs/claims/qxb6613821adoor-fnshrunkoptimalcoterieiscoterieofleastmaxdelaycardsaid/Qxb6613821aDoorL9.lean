/- shrinkBalls: the search of a member. -/
import Derived.Test.Qxb6613821aDoorML
import Derived.Test.Qxb6613821aDoorSeek
import Derived.BigRegion
import Derived.Deep.CutBlock
import Derived.Deep.DeepCutAuto
namespace Go.Proofs.Qxb6613821aDoor
set_option linter.unusedVariables false
set_option linter.unusedSimpArgs false
open Ieee Go.RowKit

/-- The block k of a code. -/
def blk (k : Nat) : Code → Option Code
  | .block j c => if j = k then some (.block j c) else blk k c
  | .seq a b => match blk k a with
    | some c => some c
    | none => blk k b
  | .loop c => blk k c
  | .scope c => blk k c
  | .cond _ a b => match blk k a with
    | some c => some c
    | none => blk k b
  | _ => none
def B17 (f : Func) (k : Nat) : Code := (f.body.bind (blk k)).getD .skip

set_option maxHeartbeats 8000000 in
set_option maxRecDepth 1000000 in
theorem L9 {w : World} {H n S0 pg N c nn i v ip : Nat} {P : Pairs} {E : Nat → Nat → Nat} {hd : Nat → Nat → Bool} {vs' : List Value} {L' : List (List Nat)} {pl' : Nat → Nat → Int} {hold : Nat → Nat → Bool} {st2 : Nat → Nat → Nat} {top fin2 : Nat} {Q : Exit → Act → World → Prop}
    (HNN : Hid (nn = n * n)) (HIP : Hid (ip = i * n)) (hipn : ip + n ≤ nn) (him : (i : Int) * (n : Int) = (ip : Int)) (hnn : nn ≤ 65536) (hn : n ≤ 256) (hin : i < n) (hvn : v < n) (HVE : Hid (v = lead (fun v => st2 i v == 1) n 0)) (HST1 : Hid (st2 i v = 1))
    {u0 u1 u2 u3 u4 u10 u11 u12 u13 u14 u15 u16 u17 u18 u19 u20 u23 u24 u25 u27 u29 u30 u31 u32 u33 u34 u35 u36 u37 u38 u39 u40 u41 u42 u43 u44 u45 u46 u47 u48 u49 u50 u51 u52 u53 u54 u55 u56 u57 u58 u59 u60 u61 u62 u63 u64 u65 u66 u67 u68 u69 u70 u71 u72 u73 u74 u75 u76 u77 u78 u79 u80 u81 u82 u83 u84 u85 u86 u87 u88 u89 u90 u91 u92 u93 u94 u95 u96 u97 u98 u99 u100 u101 u102 u103 u104 u105 u106 u107 u108 u109 u110 u111 u112 u113 u114 u115 u116 u117 u118 u119 u120 u121 u122 u123 u124 u125 u126 u127 u128 u129 u130 u131 u132 u133 u134 u135 u136 u137 u138 u139 u140 u141 u142 u143 u144 u145 u146 u147 u148 u149 u150 u151 u152 u153 u154 u155 u156 u157 u158 u159 u160 u161 u162 u163 u164 u165 u166 u167 u168 u169 u170 u171 u172 u173 u174 u175 u176 u177 u178 u179 u180 u181 u182 u183 u184 u185 u186 u187 u188 u189 u190 u191 u192 u193 u194 u195 u196 u197 u198 u199 u200 u201 u202 u203 u204 u205 u206 u207 u208 u209 u210 u211 u212 u213 u214 u215 u216 u217 u218 u219 u220 u221 u222 u223 u224 u225 u226 u227 u228 u229 u230 u231 u232 u233 u234 u235 u236 u237 u238 u239 u240 u241 u242 u243 u244 u245 u246 u247 u248 u249 u250 u251 u252 u253 u254 u255 u256 u257 u258 u259 u260 u261 u262 u263 u264 u265 u266 u267 u268 u269 u270 u271 u272 u273 u274 u275 u276 u277 u278 u279 u280 u281 u282 u283 u284 u285 u286 u287 u288 u289 u290 u291 u292 u293 u294 u295 u296 u297 u298 u299 u300 u301 u302 u303 u304 u305 u306 u307 u308 u309 u310 u311 u312 u313 u314 u315 u316 u317 u318 u319 u320 u321 u322 u323 u324 u325 u326 u327 u328 u329 u330 u331 u332 u333 u334 u335 u336 u337 u338 u339 u340 u341 u342 u343 u344 u345 u346 u347 u348 u349 u350 u351 u352 u353 u354 u355 u356 u357 u358 u359 u360 u361 u362 u363 u364 u365 u366 u367 u368 u369 u370 u371 u372 u373 u374 u375 u376 u377 u378 u379 u380 u381 u382 u383 u384 u385 u386 u387 u388 u389 u390 u391 u392 u393 u394 u395 u396 u397 u398 u399 u400 u401 u402 u403 u404 u405 u406 u407 u408 u409 u410 u411 : Value} (w0 : World) (HML3 : Hid (MLs w w0 H n S0 pg N c P E hd vs' L' pl' hold st2 top fin2))
    (hQ : ∀ (x227 x228 x229 x230 x231 x232 x233 x234 x235 x236 x237 : Value) (wz : World), Hid (MLs w wz H n S0 pg N c P E hd vs' L' pl' hold st2 top fin2) → Q .normal ⟨#[u0, u1, u2, u3, u4, .int .i64 (n : Int), .slice (some ⟨H, 0, none⟩) n n, .slice (some ⟨H + 1, 0, none⟩) nn nn, .slice (some ⟨H + 2, 0, none⟩) nn nn, .pointer (some ⟨H + 3, 0, none⟩), u10, u11, u12, u13, u14, u15, u16, u17, u18, u19, u20, .slice (some ⟨S0, 0, none⟩) nn nn, .slice (some ⟨S0 + 1, 0, none⟩) n n, u23, u24, u25, .int .i64 (i : Int), u27, .int .i64 (v : Int), u29, u30, u31, u32, u33, u34, u35, u36, u37, u38, u39, u40, u41, u42, u43, u44, u45, u46, u47, u48, u49, u50, u51, u52, u53, u54, u55, u56, u57, u58, u59, u60, u61, u62, u63, u64, u65, u66, u67, u68, u69, u70, u71, u72, u73, u74, u75, u76, u77, u78, u79, u80, u81, u82, u83, u84, u85, u86, u87, u88, u89, u90, u91, u92, u93, u94, u95, u96, u97, u98, u99, u100, u101, u102, u103, u104, u105, u106, u107, u108, u109, u110, u111, u112, u113, u114, u115, u116, u117, u118, u119, u120, u121, u122, u123, u124, u125, u126, u127, u128, u129, u130, u131, u132, u133, u134, u135, u136, u137, u138, u139, u140, u141, u142, u143, u144, u145, u146, u147, u148, u149, u150, u151, u152, u153, u154, u155, u156, u157, u158, u159, u160, u161, u162, u163, u164, u165, u166, u167, u168, u169, u170, u171, u172, u173, u174, u175, u176, u177, u178, u179, u180, u181, u182, u183, u184, u185, u186, u187, u188, u189, u190, u191, u192, u193, u194, u195, u196, u197, u198, u199, u200, u201, u202, u203, u204, u205, u206, u207, u208, u209, u210, u211, u212, u213, u214, u215, u216, u217, u218, u219, u220, u221, u222, u223, u224, u225, u226, x227, x228, x229, x230, x231, x232, x233, x234, x235, x236, x237, u238, u239, u240, u241, u242, u243, u244, u245, u246, u247, u248, u249, u250, u251, u252, u253, u254, u255, u256, u257, u258, u259, u260, u261, u262, u263, u264, u265, u266, u267, u268, u269, u270, u271, u272, u273, u274, u275, u276, u277, u278, u279, u280, u281, u282, u283, u284, u285, u286, u287, u288, u289, u290, u291, u292, u293, u294, u295, u296, u297, u298, u299, u300, u301, u302, u303, u304, u305, u306, u307, u308, u309, u310, u311, u312, u313, u314, u315, u316, u317, u318, u319, u320, u321, u322, u323, u324, u325, u326, u327, u328, u329, u330, u331, u332, u333, u334, u335, u336, u337, u338, u339, u340, u341, u342, u343, u344, u345, u346, u347, u348, u349, u350, u351, u352, u353, u354, u355, u356, u357, u358, u359, u360, u361, u362, u363, u364, u365, u366, u367, u368, u369, u370, u371, u372, u373, u374, u375, u376, u377, u378, u379, u380, u381, u382, u383, u384, u385, u386, u387, u388, u389, u390, u391, u392, u393, u394, u395, u396, u397, u398, u399, u400, u401, u402, u403, u404, u405, u406, u407, u408, u409, u410, u411], []⟩ wz) :
    Code.wp Tryd.prog (B17 Tryd.f17 16) Q ⟨#[u0, u1, u2, u3, u4, .int .i64 (n : Int), .slice (some ⟨H, 0, none⟩) n n, .slice (some ⟨H + 1, 0, none⟩) nn nn, .slice (some ⟨H + 2, 0, none⟩) nn nn, .pointer (some ⟨H + 3, 0, none⟩), u10, u11, u12, u13, u14, u15, u16, u17, u18, u19, u20, .slice (some ⟨S0, 0, none⟩) nn nn, .slice (some ⟨S0 + 1, 0, none⟩) n n, u23, u24, u25, .int .i64 (i : Int), u27, .int .i64 0, u29, u30, u31, u32, u33, u34, u35, u36, u37, u38, u39, u40, u41, u42, u43, u44, u45, u46, u47, u48, u49, u50, u51, u52, u53, u54, u55, u56, u57, u58, u59, u60, u61, u62, u63, u64, u65, u66, u67, u68, u69, u70, u71, u72, u73, u74, u75, u76, u77, u78, u79, u80, u81, u82, u83, u84, u85, u86, u87, u88, u89, u90, u91, u92, u93, u94, u95, u96, u97, u98, u99, u100, u101, u102, u103, u104, u105, u106, u107, u108, u109, u110, u111, u112, u113, u114, u115, u116, u117, u118, u119, u120, u121, u122, u123, u124, u125, u126, u127, u128, u129, u130, u131, u132, u133, u134, u135, u136, u137, u138, u139, u140, u141, u142, u143, u144, u145, u146, u147, u148, u149, u150, u151, u152, u153, u154, u155, u156, u157, u158, u159, u160, u161, u162, u163, u164, u165, u166, u167, u168, u169, u170, u171, u172, u173, u174, u175, u176, u177, u178, u179, u180, u181, u182, u183, u184, u185, u186, u187, u188, u189, u190, u191, u192, u193, u194, u195, u196, u197, u198, u199, u200, u201, u202, u203, u204, u205, u206, u207, u208, u209, u210, u211, u212, u213, u214, u215, u216, u217, u218, u219, u220, u221, u222, u223, u224, u225, u226, u227, u228, u229, u230, u231, u232, u233, u234, u235, u236, u237, u238, u239, u240, u241, u242, u243, u244, u245, u246, u247, u248, u249, u250, u251, u252, u253, u254, u255, u256, u257, u258, u259, u260, u261, u262, u263, u264, u265, u266, u267, u268, u269, u270, u271, u272, u273, u274, u275, u276, u277, u278, u279, u280, u281, u282, u283, u284, u285, u286, u287, u288, u289, u290, u291, u292, u293, u294, u295, u296, u297, u298, u299, u300, u301, u302, u303, u304, u305, u306, u307, u308, u309, u310, u311, u312, u313, u314, u315, u316, u317, u318, u319, u320, u321, u322, u323, u324, u325, u326, u327, u328, u329, u330, u331, u332, u333, u334, u335, u336, u337, u338, u339, u340, u341, u342, u343, u344, u345, u346, u347, u348, u349, u350, u351, u352, u353, u354, u355, u356, u357, u358, u359, u360, u361, u362, u363, u364, u365, u366, u367, u368, u369, u370, u371, u372, u373, u374, u375, u376, u377, u378, u379, u380, u381, u382, u383, u384, u385, u386, u387, u388, u389, u390, u391, u392, u393, u394, u395, u396, u397, u398, u399, u400, u401, u402, u403, u404, u405, u406, u407, u408, u409, u410, u411], []⟩ w0 := by
  conv => arg 2; whnf
  go_wp2_with fail
  go_loopw [28] (fun v28 wr => ∃ u : Nat, v28 = .int .i64 u ∧ u ≤ v ∧ Hid (MLs w wr H n S0 pg N c P E hd vs' L' pl' hold st2 top fin2)) (fun v28 _ => v - (intOf v28).toNat)
  case atStart => exact ⟨0, rfl, Nat.zero_le _, HML3⟩
  case round =>
    clear HML3
    obtain ⟨u, rfl, huv, HML3⟩ := hrel
    have hun : u < n := by omega
    have hidx : ip + u < nn := by omega
    have cu := HML3.out.ms.state.cell (i := ip + u) (by rw [← HNN.out]; exact hidx)
    have hdm : (ip + u) / n = i ∧ (ip + u) % n = u := (divmod_at hun).2 (by rw [HIP.out])
    rw [hdm.1, hdm.2] at cu
    clear hdm
    by_cases hlt2 : u < v
    · have hne : ((st2 i u : Int) != 1) = true := by
        have := lead_min (p := fun v => st2 i v == 1) (f := n) (v := 0) (u := u) (Nat.zero_le _) (by rw [← HVE.out]; exact hlt2)
        simp at this
        simp; omega
      generalize st2 i u = su at *
      go_wp2
      go_roundw
      case rel => exact ⟨u + 1, by go_num, by omega, HML3⟩
      case measure => simp [intOf]; omega
    · have hu : u = v := by omega
      subst hu
      rw [HST1.out] at cu
      go_wp2
      exact HML3
end Go.Proofs.Qxb6613821aDoor
