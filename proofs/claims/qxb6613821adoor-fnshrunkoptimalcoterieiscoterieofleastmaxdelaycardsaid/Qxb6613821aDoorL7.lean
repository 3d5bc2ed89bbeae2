/- shrinkBalls, piece by piece. -/
import Derived.Test.Qxb6613821aDoorL9
namespace Go.Proofs.Qxb6613821aDoor
set_option linter.unusedVariables false
set_option linter.unusedSimpArgs false
open Ieee Go.RowKit

set_option maxHeartbeats 8000000 in
set_option maxRecDepth 1000000 in
theorem L7 {w : World} {H n S0 pg N c nn : Nat} {P : Pairs} {E : Nat → Nat → Nat} {hd : Nat → Nat → Bool} {vs' : List Value} {L' : List (List Nat)} {pl' : Nat → Nat → Int} {Q : Exit → Act → World → Prop} (HNN : Hid (nn = n * n)) (hnn : nn ≤ 65536) (hn0 : 0 < n) (hn : n ≤ 256) (hN2 : N ≤ 65792) (hp1 : H + 4 ≤ pg) (hp2 : pg < S0)
    {hold : Nat → Nat → Bool} {st0 st2 : Nat → Nat → Nat} {top fin0 fin2 : Nat} (HPok : Hid (P.Ok hd)) (HPn : Hid (P.n = n)) (HPLN : Hid (P.N = N)) (HPle : Hid (∀ a b, P.le a b = am (E (P.nd a) (P.mb a)) (E (P.nd b) (P.mb b)))) (HD' : Hid (∀ i j, nf (E i j) = true)) (hlt : top < N) (hfinN : fin0 ≤ N) (HJ : Hid (joinTo P top (P.N - fin0) fin0 st0 = (fin2, st2))) {u0 u1 u2 u3 u4 u10 u11 u12 u13 u14 u15 u16 u17 u18 u19 u20 u25 u26 u27 u28 u29 u30 u31 u32 u33 u34 u35 u36 u37 u38 u39 u40 u41 u42 u43 u44 u45 u46 u47 u48 u49 u50 u51 u52 u53 u54 u55 u56 u57 u58 u59 u60 u61 u62 u63 u64 u65 u66 u67 u68 u69 u70 u71 u72 u73 u74 u75 u76 u77 u78 u79 u80 u81 u82 u83 u84 u85 u86 u87 u88 u89 u90 u91 u92 u93 u94 u95 u96 u97 u98 u99 u100 u101 u102 u103 u104 u105 u106 u107 u108 u109 u110 u111 u112 u113 u114 u115 u116 u117 u118 u119 u120 u121 u122 u123 u124 u125 u126 u127 u128 u129 u130 u131 u132 u133 u134 u135 u136 u137 u138 u139 u140 u141 u142 u143 u144 u145 u146 u147 u148 u149 u150 u151 u152 u153 u154 u155 u156 u157 u158 u159 u160 u161 u162 u163 u164 u165 u166 u167 u168 u169 u170 u171 u172 u173 u174 u175 u176 u177 u178 u179 u180 u181 u182 u183 u184 u185 u186 u187 u188 u189 u190 u191 u192 u193 u194 u195 u196 u197 u198 u199 u200 u201 u202 u203 u204 u205 u206 u207 u208 u209 u210 u211 u212 u213 u214 u215 u216 u217 u218 u219 u220 u221 u222 u223 u224 u225 u226 u227 u228 u229 u230 u231 u232 u233 u234 u235 u236 u237 u238 u239 u240 u241 u242 u243 u244 u245 u246 u247 u248 u249 u250 u251 u252 u253 u254 u255 u256 u257 u258 u259 u260 u261 u262 u263 u264 u265 u266 u267 u268 u269 u270 u271 u272 u273 u274 u275 u276 u277 u278 u279 u280 u281 u282 u283 u284 u285 u286 u287 u288 u289 u290 u291 u292 u293 u294 u295 u296 u297 u298 u299 u300 u301 u302 u303 u304 u305 u306 u307 u308 u309 u310 u311 u312 u313 u314 u315 u316 u317 u318 u319 u320 u321 u322 u323 u324 u325 u326 u327 u328 u329 u330 u331 u332 u333 u334 u335 u336 u337 u338 u339 u340 u341 u342 u343 u344 u345 u346 u347 u348 u349 u350 u351 u352 u353 u354 u355 u356 u357 u358 u359 u360 u361 u362 u363 u364 u365 u366 u367 u368 u369 u370 u371 u372 u373 u374 u375 u376 u377 u378 u379 u380 u381 u382 u383 u384 u385 u386 u387 u388 u389 u390 u391 u392 u393 u394 u395 u396 u397 u398 u399 u400 u401 u402 u403 u404 u405 u406 u407 u408 u409 u410 u411 : Value} (w0 : World) (HML0 : Hid (MLs w w0 H n S0 pg N c P E hd vs' L' pl' hold st0 top fin0))
    (hQ : ∀ (x25 x154 x155 x156 x157 x158 x159 x160 x161 x162 x163 x164 x165 x166 x167 x168 x169 x170 x171 x172 x173 x174 x175 x176 x177 x178 x179 x180 x181 x182 x183 x184 x185 x186 x187 x188 x189 x190 x191 x192 : Value) (wz : World), Hid (MLs w wz H n S0 pg N c P E hd vs' L' pl' hold st2 top fin2) → Q .normal ⟨#[u0, u1, u2, u3, u4, .int .i64 (n : Int), .slice (some ⟨H, 0, none⟩) n n, .slice (some ⟨H + 1, 0, none⟩) nn nn, .slice (some ⟨H + 2, 0, none⟩) nn nn, .pointer (some ⟨H + 3, 0, none⟩), u10, u11, u12, u13, u14, u15, u16, u17, u18, u19, u20, .slice (some ⟨S0, 0, none⟩) nn nn, .slice (some ⟨S0 + 1, 0, none⟩) n n, .int .i64 (top : Int), .int .i64 (fin2 : Int), x25, u26, u27, u28, u29, u30, u31, u32, u33, u34, u35, u36, u37, u38, u39, u40, u41, u42, u43, u44, u45, u46, u47, u48, u49, u50, u51, u52, u53, u54, u55, u56, u57, u58, u59, u60, u61, u62, u63, u64, u65, u66, u67, u68, u69, u70, u71, u72, u73, u74, u75, u76, u77, u78, u79, u80, u81, u82, u83, u84, u85, u86, u87, u88, u89, u90, u91, u92, u93, u94, u95, u96, u97, u98, u99, u100, u101, u102, u103, u104, u105, u106, u107, u108, u109, u110, u111, u112, u113, u114, u115, u116, u117, u118, u119, u120, u121, u122, u123, u124, u125, u126, u127, u128, u129, u130, u131, u132, u133, u134, u135, u136, u137, u138, u139, u140, u141, u142, u143, u144, u145, u146, u147, u148, u149, u150, u151, u152, u153, x154, x155, x156, x157, x158, x159, x160, x161, x162, x163, x164, x165, x166, x167, x168, x169, x170, x171, x172, x173, x174, x175, x176, x177, x178, x179, x180, x181, x182, x183, x184, x185, x186, x187, x188, x189, x190, x191, x192, u193, u194, u195, u196, u197, u198, u199, u200, u201, u202, u203, u204, u205, u206, u207, u208, u209, u210, u211, u212, u213, u214, u215, u216, u217, u218, u219, u220, u221, u222, u223, u224, u225, u226, u227, u228, u229, u230, u231, u232, u233, u234, u235, u236, u237, u238, u239, u240, u241, u242, u243, u244, u245, u246, u247, u248, u249, u250, u251, u252, u253, u254, u255, u256, u257, u258, u259, u260, u261, u262, u263, u264, u265, u266, u267, u268, u269, u270, u271, u272, u273, u274, u275, u276, u277, u278, u279, u280, u281, u282, u283, u284, u285, u286, u287, u288, u289, u290, u291, u292, u293, u294, u295, u296, u297, u298, u299, u300, u301, u302, u303, u304, u305, u306, u307, u308, u309, u310, u311, u312, u313, u314, u315, u316, u317, u318, u319, u320, u321, u322, u323, u324, u325, u326, u327, u328, u329, u330, u331, u332, u333, u334, u335, u336, u337, u338, u339, u340, u341, u342, u343, u344, u345, u346, u347, u348, u349, u350, u351, u352, u353, u354, u355, u356, u357, u358, u359, u360, u361, u362, u363, u364, u365, u366, u367, u368, u369, u370, u371, u372, u373, u374, u375, u376, u377, u378, u379, u380, u381, u382, u383, u384, u385, u386, u387, u388, u389, u390, u391, u392, u393, u394, u395, u396, u397, u398, u399, u400, u401, u402, u403, u404, u405, u406, u407, u408, u409, u410, u411], []⟩ wz) :
    Code.wp Tryd.prog (B17 Tryd.f17 12) Q ⟨#[u0, u1, u2, u3, u4, .int .i64 (n : Int), .slice (some ⟨H, 0, none⟩) n n, .slice (some ⟨H + 1, 0, none⟩) nn nn, .slice (some ⟨H + 2, 0, none⟩) nn nn, .pointer (some ⟨H + 3, 0, none⟩), u10, u11, u12, u13, u14, u15, u16, u17, u18, u19, u20, .slice (some ⟨S0, 0, none⟩) nn nn, .slice (some ⟨S0 + 1, 0, none⟩) n n, .int .i64 (top : Int), .int .i64 (fin0 : Int), u25, u26, u27, u28, u29, u30, u31, u32, u33, u34, u35, u36, u37, u38, u39, u40, u41, u42, u43, u44, u45, u46, u47, u48, u49, u50, u51, u52, u53, u54, u55, u56, u57, u58, u59, u60, u61, u62, u63, u64, u65, u66, u67, u68, u69, u70, u71, u72, u73, u74, u75, u76, u77, u78, u79, u80, u81, u82, u83, u84, u85, u86, u87, u88, u89, u90, u91, u92, u93, u94, u95, u96, u97, u98, u99, u100, u101, u102, u103, u104, u105, u106, u107, u108, u109, u110, u111, u112, u113, u114, u115, u116, u117, u118, u119, u120, u121, u122, u123, u124, u125, u126, u127, u128, u129, u130, u131, u132, u133, u134, u135, u136, u137, u138, u139, u140, u141, u142, u143, u144, u145, u146, u147, u148, u149, u150, u151, u152, u153, u154, u155, u156, u157, u158, u159, u160, u161, u162, u163, u164, u165, u166, u167, u168, u169, u170, u171, u172, u173, u174, u175, u176, u177, u178, u179, u180, u181, u182, u183, u184, u185, u186, u187, u188, u189, u190, u191, u192, u193, u194, u195, u196, u197, u198, u199, u200, u201, u202, u203, u204, u205, u206, u207, u208, u209, u210, u211, u212, u213, u214, u215, u216, u217, u218, u219, u220, u221, u222, u223, u224, u225, u226, u227, u228, u229, u230, u231, u232, u233, u234, u235, u236, u237, u238, u239, u240, u241, u242, u243, u244, u245, u246, u247, u248, u249, u250, u251, u252, u253, u254, u255, u256, u257, u258, u259, u260, u261, u262, u263, u264, u265, u266, u267, u268, u269, u270, u271, u272, u273, u274, u275, u276, u277, u278, u279, u280, u281, u282, u283, u284, u285, u286, u287, u288, u289, u290, u291, u292, u293, u294, u295, u296, u297, u298, u299, u300, u301, u302, u303, u304, u305, u306, u307, u308, u309, u310, u311, u312, u313, u314, u315, u316, u317, u318, u319, u320, u321, u322, u323, u324, u325, u326, u327, u328, u329, u330, u331, u332, u333, u334, u335, u336, u337, u338, u339, u340, u341, u342, u343, u344, u345, u346, u347, u348, u349, u350, u351, u352, u353, u354, u355, u356, u357, u358, u359, u360, u361, u362, u363, u364, u365, u366, u367, u368, u369, u370, u371, u372, u373, u374, u375, u376, u377, u378, u379, u380, u381, u382, u383, u384, u385, u386, u387, u388, u389, u390, u391, u392, u393, u394, u395, u396, u397, u398, u399, u400, u401, u402, u403, u404, u405, u406, u407, u408, u409, u410, u411], []⟩ w0 := by
  conv => arg 2; whnf
  have HML : Hid (MLs w w0 H n S0 pg N c P E hd vs' L' pl' hold st0 top fin0) := HML0
  have c9 := HML.out.ms.box
  go_wp2_with fail
  go_loopw [24, 25] (fun v24 _ wr => ∃ (fin : Nat) (st : Nat → Nat → Nat), v24 = .int .i64 fin ∧ fin ≤ N ∧ Hid (joinTo P top (P.N - fin) fin st = (fin2, st2)) ∧ Hid (MLs w wr H n S0 pg N c P E hd vs' L' pl' hold st top fin)) (fun v24 _ _ => N - (intOf v24).toNat)
  case atStart => exact ⟨fin0, st0, rfl, hfinN, HJ, HML⟩
  case round =>
    clear HML c9
    obtain ⟨fin, st, rfl, hfN, HJ2, HML⟩ := hrel
    have c9 : wr.cell? ⟨H + 3, 0, none⟩ = some (.slice (some ⟨pg, 0, none⟩) N c) := HML.out.ms.box.cell (by omega)
    by_cases hfl : fin < N
    · obtain ⟨_, _, ct⟩ := HML.out.ms.prs top hlt
      obtain ⟨cf0, cf1, cf⟩ := HML.out.ms.prs fin hfl
      have HAM : Hid (∀ w, Calls Tryd.prog 24 #[.float .f64 (E (P.nd top) (P.mb top)), .float .f64 (E (P.nd fin) (P.mb fin))] w fun e w' => e = .returned (.bool (P.le top fin)) ∧ w' = w) := fun w => by rw [HPle.out]; exact atMost_any _ _ (HD'.out _ _) (HD'.out _ _) w
      have hfP : fin < P.N := by rw [HPLN.out]; exact hfl
      have hxn : P.nd fin < n := by rw [← HPn.out]; exact HPok.out.n1 fin hfP
      have hyn : P.mb fin < n := by rw [← HPn.out]; exact HPok.out.n2 fin hfP
      have HJn : Hid (MLs w ((wr.setCell ⟨S0, P.nd fin * n + P.mb fin, none⟩ (.int .u8 ((1 : Nat) : Int))).setCell ⟨S0 + 1, P.nd fin, none⟩ (.int .i64 ((ready n st (P.nd fin) + 1 : Nat) : Int))) H n S0 pg N c P E hd vs' L' pl' hold (upd st (P.nd fin) (P.mb fin) 1) top (fin + 1)) := HML.out.join HPok.out HPn.out hfP
      obtain ⟨sp, hsp⟩ : ∃ sp, sp = P.nd fin * n := ⟨_, rfl⟩
      have hspn : sp + n ≤ nn := by rw [hsp, HNN.out, ← Nat.succ_mul]; exact Nat.mul_le_mul_right _ hxn
      have hm1 : (P.nd fin : Int) * (n : Int) = (sp : Int) := by rw [hsp]; simp
      have hidx : sp + P.mb fin < nn := by omega
      have hxz : P.nd fin < n := hxn
      have cst := HML.out.ms.state.cell (i := sp + P.mb fin) (by rw [← HNN.out]; omega)
      have fst : wr.frozen? ⟨S0, sp + P.mb fin, none⟩ = false := HML.out.ms.state.frozen _
      have crd := HML.out.ms.ready.cell (i := P.nd fin) hxn
      have frd : wr.frozen? ⟨S0 + 1, P.nd fin, none⟩ = false := HML.out.ms.ready.frozen _
      have hrle : ready n st (P.nd fin) ≤ n := cnt_le _ _
      have hszr := HML.out.ms.sz
      rw [← hsp] at HJn
      have hle := HPle.out top fin
      cases hL : P.le top fin with
      | true =>
        rw [hL] at HAM
        have HJ3 : Hid (joinTo P top (P.N - (fin + 1)) (fin + 1) (upd st (P.nd fin) (P.mb fin) 1) = (fin2, st2)) := by
          show _ = _
          rw [← HJ2.out, show P.N - fin = (P.N - (fin + 1)) + 1 from by omega, joinTo_go hL]
        generalize upd st (P.nd fin) (P.mb fin) 1 = stn at *
        generalize ready n st (P.nd fin) = rv at *
        generalize E (P.nd top) (P.mb top) = e1 at *
        generalize E (P.nd fin) (P.mb fin) = e2 at *
        generalize P.nd fin = x at *
        generalize P.mb fin = y at *
        clear hL hle hsp hfP
        go_wp2
        go_quiet ((go_at_call 24; exact Calls.quiet_of_same (HAM.out _)))
        have c9' : (wr.drewN nq).cell? ⟨H + 3, 0, none⟩ = _ := c9
        have cf0' : (wr.drewN nq).cell? ⟨pg, fin * 3, none⟩ = _ := cf0
        have cf1' : (wr.drewN nq).cell? ⟨pg, fin * 3 + 1, none⟩ = _ := cf1
        have cf2' : (wr.drewN nq).cell? ⟨pg, fin * 3 + 2, none⟩ = _ := cf
        have cst' : (wr.drewN nq).cell? ⟨S0, sp + y, none⟩ = _ := cst
        have fst' : (wr.drewN nq).frozen? ⟨S0, sp + y, none⟩ = false := fst
        have crd' : (wr.drewN nq).cell? ⟨S0 + 1, x, none⟩ = _ := crd
        have frd' : (wr.drewN nq).frozen? ⟨S0 + 1, x, none⟩ = false := frd
        have hsz' : S0 + 1 < (wr.drewN nq).heap.size := hszr
        have HJn2 : Hid (MLs w (((wr.drewN nq).setCell ⟨S0, sp + y, none⟩ (.int .u8 ((1 : Nat) : Int))).setCell ⟨S0 + 1, x, none⟩ (.int .i64 ((rv + 1 : Nat) : Int))) H n S0 pg N c P E hd vs' L' pl' hold stn top (fin + 1)) := HJn.out.keep ((Fr.refl _ _).drewN nq)
        clear c9 cf0 cf1 cf cst fst crd frd HJn HML ct
        generalize wr.drewN nq = W2 at *
        have hsf := store_pair W2 x y e2
        have hS0l : S0 < W2.heap.size := by omega
        have hpgl : pg < W2.heap.size := by omega
        have hH3l : H + 3 < W2.heap.size := by omega
        go_wp2
        go_roundw
        case rel => exact ⟨fin + 1, stn, by go_num, by omega, HJ3, HJn2.out.keep ((Fr.refl _ _).alloc _)⟩
        case measure => simp [intOf]; omega
      | false =>
        rw [hL] at HAM
        have HJ3 : Hid ((fin, st) = (fin2, st2)) := by show _ = _; rw [← HJ2.out, joinTo_stop (Or.inr hL)]
        obtain ⟨rfl, rfl⟩ := Prod.mk.inj HJ3.out
        generalize E (P.nd top) (P.mb top) = e1 at *
        generalize E (P.nd fin) (P.mb fin) = e2 at *
        clear hL hle HJn
        go_wp2
        go_quiet ((go_at_call 24; exact Calls.quiet_of_same (HAM.out _)))
        go_wp2
        exact HML.out.keep ((Fr.refl _ _).drewN _)
    · have HJ3 : Hid ((fin, st) = (fin2, st2)) := by show _ = _; rw [← HJ2.out, joinTo_stop (Or.inl (by have := HPLN.out; omega))]
      obtain ⟨rfl, rfl⟩ := Prod.mk.inj HJ3.out
      go_wp2
      go_quiet (fail)
      go_wp2
      exact HML.out.keep ((Fr.refl _ _).drewN _)
end Go.Proofs.Qxb6613821aDoor
