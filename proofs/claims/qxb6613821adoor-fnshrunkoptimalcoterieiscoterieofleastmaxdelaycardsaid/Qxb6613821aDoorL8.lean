/- shrinkBalls, piece by piece. -/
import Derived.Test.Qxb6613821aDoorL9
namespace Go.Proofs.Qxb6613821aDoor
set_option linter.unusedVariables false
set_option linter.unusedSimpArgs false
open Ieee Go.RowKit

set_option maxHeartbeats 8000000 in
set_option maxRecDepth 1000000 in
theorem L8 {w : World} {H n S0 pg N c nn : Nat} {P : Pairs} {E : Nat → Nat → Nat} {hd : Nat → Nat → Bool} {vs' : List Value} {L' : List (List Nat)} {pl' : Nat → Nat → Int} {Q : Exit → Act → World → Prop} (HNN : Hid (nn = n * n)) (hnn : nn ≤ 65536) (hn0 : 0 < n) (hn : n ≤ 256) (hN2 : N ≤ 65792) (hp1 : H + 4 ≤ pg) (hp2 : pg < S0)
    {hold : Nat → Nat → Bool} {st2 : Nat → Nat → Nat} {top fin2 i : Nat} (HBest : Hid (best (ready n st2) (fun c => share n hold c c) n = some i)) {u0 u1 u2 u3 u4 u10 u11 u12 u13 u14 u15 u16 u17 u18 u19 u20 u23 u24 u25 u27 u28 u29 u30 u31 u32 u33 u34 u35 u36 u37 u38 u39 u40 u41 u42 u43 u44 u45 u46 u47 u48 u49 u50 u51 u52 u53 u54 u55 u56 u57 u58 u59 u60 u61 u62 u63 u64 u65 u66 u67 u68 u69 u70 u71 u72 u73 u74 u75 u76 u77 u78 u79 u80 u81 u82 u83 u84 u85 u86 u87 u88 u89 u90 u91 u92 u93 u94 u95 u96 u97 u98 u99 u100 u101 u102 u103 u104 u105 u106 u107 u108 u109 u110 u111 u112 u113 u114 u115 u116 u117 u118 u119 u120 u121 u122 u123 u124 u125 u126 u127 u128 u129 u130 u131 u132 u133 u134 u135 u136 u137 u138 u139 u140 u141 u142 u143 u144 u145 u146 u147 u148 u149 u150 u151 u152 u153 u154 u155 u156 u157 u158 u159 u160 u161 u162 u163 u164 u165 u166 u167 u168 u169 u170 u171 u172 u173 u174 u175 u176 u177 u178 u179 u180 u181 u182 u183 u184 u185 u186 u187 u188 u189 u190 u191 u192 u195 u196 u197 u198 u199 u200 u201 u202 u203 u204 u205 u206 u207 u208 u209 u210 u211 u212 u213 u214 u215 u216 u217 u218 u219 u220 u221 u222 u223 u224 u225 u226 u227 u228 u229 u230 u231 u232 u233 u234 u235 u236 u237 u238 u239 u240 u241 u242 u243 u244 u245 u246 u247 u248 u249 u250 u251 u252 u253 u254 u255 u256 u257 u258 u259 u260 u261 u262 u263 u264 u265 u266 u267 u268 u269 u270 u271 u272 u273 u274 u275 u276 u277 u278 u279 u280 u281 u282 u283 u284 u285 u286 u287 u288 u289 u290 u291 u292 u293 u294 u295 u296 u297 u298 u299 u300 u301 u302 u303 u304 u305 u306 u307 u308 u309 u310 u311 u312 u313 u314 u315 u316 u317 u318 u319 u320 u321 u322 u323 u324 u325 u326 u327 u328 u329 u330 u331 u332 u333 u334 u335 u336 u337 u338 u339 u340 u341 u342 u343 u344 u345 u346 u347 u348 u349 u350 u351 u352 u353 u354 u355 u356 u357 u358 u359 u360 u361 u362 u363 u364 u365 u366 u367 u368 u369 u370 u371 u372 u373 u374 u375 u376 u377 u378 u379 u380 u381 u382 u383 u384 u385 u386 u387 u388 u389 u390 u391 u392 u393 u394 u395 u396 u397 u398 u399 u400 u401 u402 u403 u404 u405 u406 u407 u408 u409 u410 u411 : Value} (w0 : World) (HML2 : Hid (MLs w w0 H n S0 pg N c P E hd vs' L' pl' hold st2 top fin2))
    (hQ : ∀ (x27 x194 x195 x196 x197 x198 x199 x200 x201 x202 x203 x204 x205 x206 x207 x208 x209 x210 x211 x212 x213 x214 x215 x216 x217 x218 x219 x220 x221 x222 x223 x224 x225 x226 : Value) (wz : World), Hid (MLs w wz H n S0 pg N c P E hd vs' L' pl' hold st2 top fin2) → Q .normal ⟨#[u0, u1, u2, u3, u4, .int .i64 (n : Int), .slice (some ⟨H, 0, none⟩) n n, .slice (some ⟨H + 1, 0, none⟩) nn nn, .slice (some ⟨H + 2, 0, none⟩) nn nn, .pointer (some ⟨H + 3, 0, none⟩), u10, u11, u12, u13, u14, u15, u16, u17, u18, u19, u20, .slice (some ⟨S0, 0, none⟩) nn nn, .slice (some ⟨S0 + 1, 0, none⟩) n n, u23, u24, u25, .int .i64 (i : Int), x27, u28, u29, u30, u31, u32, u33, u34, u35, u36, u37, u38, u39, u40, u41, u42, u43, u44, u45, u46, u47, u48, u49, u50, u51, u52, u53, u54, u55, u56, u57, u58, u59, u60, u61, u62, u63, u64, u65, u66, u67, u68, u69, u70, u71, u72, u73, u74, u75, u76, u77, u78, u79, u80, u81, u82, u83, u84, u85, u86, u87, u88, u89, u90, u91, u92, u93, u94, u95, u96, u97, u98, u99, u100, u101, u102, u103, u104, u105, u106, u107, u108, u109, u110, u111, u112, u113, u114, u115, u116, u117, u118, u119, u120, u121, u122, u123, u124, u125, u126, u127, u128, u129, u130, u131, u132, u133, u134, u135, u136, u137, u138, u139, u140, u141, u142, u143, u144, u145, u146, u147, u148, u149, u150, u151, u152, u153, u154, u155, u156, u157, u158, u159, u160, u161, u162, u163, u164, u165, u166, u167, u168, u169, u170, u171, u172, u173, u174, u175, u176, u177, u178, u179, u180, u181, u182, u183, u184, u185, u186, u187, u188, u189, u190, u191, u192, .int .i64 (n : Int), x194, x195, x196, x197, x198, x199, x200, x201, x202, x203, x204, x205, x206, x207, x208, x209, x210, x211, x212, x213, x214, x215, x216, x217, x218, x219, x220, x221, x222, x223, x224, x225, x226, u227, u228, u229, u230, u231, u232, u233, u234, u235, u236, u237, u238, u239, u240, u241, u242, u243, u244, u245, u246, u247, u248, u249, u250, u251, u252, u253, u254, u255, u256, u257, u258, u259, u260, u261, u262, u263, u264, u265, u266, u267, u268, u269, u270, u271, u272, u273, u274, u275, u276, u277, u278, u279, u280, u281, u282, u283, u284, u285, u286, u287, u288, u289, u290, u291, u292, u293, u294, u295, u296, u297, u298, u299, u300, u301, u302, u303, u304, u305, u306, u307, u308, u309, u310, u311, u312, u313, u314, u315, u316, u317, u318, u319, u320, u321, u322, u323, u324, u325, u326, u327, u328, u329, u330, u331, u332, u333, u334, u335, u336, u337, u338, u339, u340, u341, u342, u343, u344, u345, u346, u347, u348, u349, u350, u351, u352, u353, u354, u355, u356, u357, u358, u359, u360, u361, u362, u363, u364, u365, u366, u367, u368, u369, u370, u371, u372, u373, u374, u375, u376, u377, u378, u379, u380, u381, u382, u383, u384, u385, u386, u387, u388, u389, u390, u391, u392, u393, u394, u395, u396, u397, u398, u399, u400, u401, u402, u403, u404, u405, u406, u407, u408, u409, u410, u411], []⟩ wz) :
    Code.wp Tryd.prog (B17 Tryd.f17 14) Q ⟨#[u0, u1, u2, u3, u4, .int .i64 (n : Int), .slice (some ⟨H, 0, none⟩) n n, .slice (some ⟨H + 1, 0, none⟩) nn nn, .slice (some ⟨H + 2, 0, none⟩) nn nn, .pointer (some ⟨H + 3, 0, none⟩), u10, u11, u12, u13, u14, u15, u16, u17, u18, u19, u20, .slice (some ⟨S0, 0, none⟩) nn nn, .slice (some ⟨S0 + 1, 0, none⟩) n n, u23, u24, u25, .int .i64 (-1), u27, u28, u29, u30, u31, u32, u33, u34, u35, u36, u37, u38, u39, u40, u41, u42, u43, u44, u45, u46, u47, u48, u49, u50, u51, u52, u53, u54, u55, u56, u57, u58, u59, u60, u61, u62, u63, u64, u65, u66, u67, u68, u69, u70, u71, u72, u73, u74, u75, u76, u77, u78, u79, u80, u81, u82, u83, u84, u85, u86, u87, u88, u89, u90, u91, u92, u93, u94, u95, u96, u97, u98, u99, u100, u101, u102, u103, u104, u105, u106, u107, u108, u109, u110, u111, u112, u113, u114, u115, u116, u117, u118, u119, u120, u121, u122, u123, u124, u125, u126, u127, u128, u129, u130, u131, u132, u133, u134, u135, u136, u137, u138, u139, u140, u141, u142, u143, u144, u145, u146, u147, u148, u149, u150, u151, u152, u153, u154, u155, u156, u157, u158, u159, u160, u161, u162, u163, u164, u165, u166, u167, u168, u169, u170, u171, u172, u173, u174, u175, u176, u177, u178, u179, u180, u181, u182, u183, u184, u185, u186, u187, u188, u189, u190, u191, u192, .int .i64 (n : Int), .int .i64 0, u195, u196, u197, u198, u199, u200, u201, u202, u203, u204, u205, u206, u207, u208, u209, u210, u211, u212, u213, u214, u215, u216, u217, u218, u219, u220, u221, u222, u223, u224, u225, u226, u227, u228, u229, u230, u231, u232, u233, u234, u235, u236, u237, u238, u239, u240, u241, u242, u243, u244, u245, u246, u247, u248, u249, u250, u251, u252, u253, u254, u255, u256, u257, u258, u259, u260, u261, u262, u263, u264, u265, u266, u267, u268, u269, u270, u271, u272, u273, u274, u275, u276, u277, u278, u279, u280, u281, u282, u283, u284, u285, u286, u287, u288, u289, u290, u291, u292, u293, u294, u295, u296, u297, u298, u299, u300, u301, u302, u303, u304, u305, u306, u307, u308, u309, u310, u311, u312, u313, u314, u315, u316, u317, u318, u319, u320, u321, u322, u323, u324, u325, u326, u327, u328, u329, u330, u331, u332, u333, u334, u335, u336, u337, u338, u339, u340, u341, u342, u343, u344, u345, u346, u347, u348, u349, u350, u351, u352, u353, u354, u355, u356, u357, u358, u359, u360, u361, u362, u363, u364, u365, u366, u367, u368, u369, u370, u371, u372, u373, u374, u375, u376, u377, u378, u379, u380, u381, u382, u383, u384, u385, u386, u387, u388, u389, u390, u391, u392, u393, u394, u395, u396, u397, u398, u399, u400, u401, u402, u403, u404, u405, u406, u407, u408, u409, u410, u411], []⟩ w0 := by
  conv => arg 2; whnf
  go_wp2_with fail
  go_loopw [26, 27, 194] (fun v26 _ vc wr => ∃ (cc : Nat), vc = .int .i64 cc ∧ cc ≤ n ∧ v26 = .int .i64 (optI (best (ready n st2) (fun c => share n hold c c) cc)) ∧ Hid (MLs w wr H n S0 pg N c P E hd vs' L' pl' hold st2 top fin2)) (fun _ _ vc _ => n - (intOf vc).toNat)
  case atStart => exact ⟨0, rfl, Nat.zero_le _, rfl, HML2⟩
  case round =>
    clear HML2
    obtain ⟨cc, rfl, hcn, rfl, HML2⟩ := hrel
    by_cases hcl : cc < n
    · have crd := HML2.out.ms.ready.cell (i := cc) hcl
      obtain ⟨cp, hcp⟩ : ∃ cp, cp = cc * n := ⟨_, rfl⟩
      have hcpn : cp + n ≤ nn := by rw [hcp, HNN.out, ← Nat.succ_mul]; exact Nat.mul_le_mul_right _ hcl
      have hcm : (cc : Int) * (n : Int) = (cp : Int) := by rw [hcp]; simp
      have hcidx : cp + cc < nn := by omega
      have csh := HML2.out.ms.shared.cell (i := cp + cc) (by rw [← HNN.out]; exact hcidx)
      have hdm : (cp + cc) / n = cc ∧ (cp + cc) % n = cc := (divmod_at hcl).2 (by rw [hcp])
      rw [hdm.1, hdm.2] at csh
      have HBs := best_step (ready n st2) (fun c => share n hold c c) cc
      have hrb : ready n st2 cc ≤ n := cnt_le _ _
      have hsb : share n hold cc cc ≤ n := cnt_le _ _
      clear hcp hdm
      cases hb : best (ready n st2) (fun c => share n hold c c) cc with
      | none =>
        rw [hb] at HBs
        simp only [] at HBs
        rw [show optI (none : Option Nat) = -1 from rfl]
        by_cases hr : 0 < ready n st2 cc
        · have HB2 : Hid (best (ready n st2) (fun c => share n hold c c) (cc + 1) = some cc) := by show _ = _; rw [HBs, if_pos hr]
          clear HBs hb
          go_wp2
          go_quiet (fail)
          go_wp2
          go_roundw
          case rel => exact ⟨cc + 1, by go_num, by omega, by rw [HB2.out]; rfl, HML2.out.keep ((Fr.refl _ _).drewN _)⟩
          case measure => simp [intOf]; omega
        · have HB2 : Hid (best (ready n st2) (fun c => share n hold c c) (cc + 1) = none) := by show _ = _; rw [HBs, if_neg hr]
          have hr0 : ready n st2 cc = 0 := by omega
          rw [hr0] at crd
          clear HBs hb
          go_wp2
          go_quiet (fail)
          go_wp2
          go_roundw
          case rel => exact ⟨cc + 1, by go_num, by omega, by rw [HB2.out]; rfl, HML2.out.keep ((Fr.refl _ _).drewN _)⟩
          case measure => simp [intOf]; omega
      | some j =>
        rw [hb] at HBs
        simp only [] at HBs
        have hjc := (best_some hb).1
        rw [show optI (some j) = (j : Int) from rfl]
        obtain ⟨jp, hjp⟩ : ∃ jp, jp = j * n := ⟨_, rfl⟩
        have hjn : j < n := by omega
        have hjd : decide ((j : Int) < 0) = false := decide_eq_false (by omega)
        have hj0 : ¬ (j : Int) < 0 := by omega
        have hjpn : jp + n ≤ nn := by rw [hjp, HNN.out, ← Nat.succ_mul]; exact Nat.mul_le_mul_right _ hjn
        have hjm : (j : Int) * (n : Int) = (jp : Int) := by rw [hjp]; simp
        have hjidx : jp + j < nn := by omega
        have csj := HML2.out.ms.shared.cell (i := jp + j) (by rw [← HNN.out]; exact hjidx)
        have hdj : (jp + j) / n = j ∧ (jp + j) % n = j := (divmod_at hjn).2 (by rw [hjp])
        rw [hdj.1, hdj.2] at csj
        clear hjp hdj hb
        by_cases hr : 0 < ready n st2 cc
        · have hri : (0 : Int) < (ready n st2 cc : Int) := by omega
          by_cases hg : share n hold j j < share n hold cc cc
          · have HB2 : Hid (best (ready n st2) (fun c => share n hold c c) (cc + 1) = some cc) := by show _ = _; rw [HBs, if_pos ⟨hr, hg⟩]
            clear HBs
            go_wp2
            go_quiet (fail)
            go_wp2
            go_roundw
            case rel => exact ⟨cc + 1, by go_num, by omega, by rw [HB2.out]; rfl, HML2.out.keep ((Fr.refl _ _).drewN _)⟩
            case measure => simp [intOf]; omega
          · have HB2 : Hid (best (ready n st2) (fun c => share n hold c c) (cc + 1) = some j) := by show _ = _; rw [HBs, if_neg (fun x => hg x.2)]
            clear HBs
            go_wp2
            go_quiet (fail)
            go_wp2
            go_roundw
            case rel => exact ⟨cc + 1, by go_num, by omega, by rw [HB2.out]; rfl, HML2.out.keep ((Fr.refl _ _).drewN _)⟩
            case measure => simp [intOf]; omega
        · have HB2 : Hid (best (ready n st2) (fun c => share n hold c c) (cc + 1) = some j) := by show _ = _; rw [HBs, if_neg (fun x => hr x.1)]
          have hr0 : ready n st2 cc = 0 := by omega
          rw [hr0] at crd
          clear HBs
          go_wp2
          go_quiet (fail)
          go_wp2
          go_roundw
          case rel => exact ⟨cc + 1, by go_num, by omega, by rw [HB2.out]; rfl, HML2.out.keep ((Fr.refl _ _).drewN _)⟩
          case measure => simp [intOf]; omega
    · have HB3 : Hid (optI (best (ready n st2) (fun c => share n hold c c) cc) = (i : Int)) := by
        show _ = _
        rw [show cc = n from by omega, HBest.out]; rfl
      rw [HB3.out]
      go_wp2
      exact HML2
end Go.Proofs.Qxb6613821aDoor
