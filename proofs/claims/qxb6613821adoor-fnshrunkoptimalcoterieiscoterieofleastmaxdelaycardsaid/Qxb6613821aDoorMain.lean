/- shrinkBalls: the main loop. -/
import Derived.Test.Qxb6613821aDoorL7
import Derived.Test.Qxb6613821aDoorL8
import Derived.Test.Qxb6613821aDoorL10
import Derived.Test.Qxb6613821aDoorL11
import Derived.Test.Qxb6613821aDoorL12
namespace Go.Proofs.Qxb6613821aDoor
set_option linter.unusedVariables false
set_option linter.unusedSimpArgs false
open Ieee Go.RowKit

set_option maxHeartbeats 8000000 in
set_option maxRecDepth 1000000 in
theorem Main17 {w : World} {H n S0 pg N c nn : Nat} {P : Pairs} {E : Nat → Nat → Nat} {hd : Nat → Nat → Bool} {vs : List Value} {L : List (List Nat)} {pl : Nat → Nat → Int} {Q : Exit → Act → World → Prop} (HNN : Hid (nn = n * n)) (hnn : nn ≤ 65536) (hn0 : 0 < n) (hn : n ≤ 256) (hN2 : N ≤ 65792) (hp1 : H + 4 ≤ pg) (hp2 : pg < S0)
    (HPok : Hid (P.Ok hd)) (HPn : Hid (P.n = n)) (HPLN : Hid (P.N = N)) (HPle : Hid (∀ a b, P.le a b = am (E (P.nd a) (P.mb a)) (E (P.nd b) (P.mb b)))) (HD' : Hid (∀ i j, nf (E i j) = true)) (HHin : Hid (∀ i v, hd i v = true → i < n ∧ v < n))
    {u0 u1 u2 u3 u4 u10 u11 u12 u13 u14 u15 u16 u17 u18 u19 u20 u25 u26 u27 u28 u29 u30 u31 u32 u33 u34 u35 u36 u37 u38 u39 u40 u41 u42 u43 u44 u45 u46 u47 u48 u49 u50 u51 u52 u53 u54 u55 u56 u57 u58 u59 u60 u61 u62 u63 u64 u65 u66 u67 u68 u69 u70 u71 u72 u73 u74 u75 u76 u77 u78 u79 u80 u81 u82 u83 u84 u85 u86 u87 u88 u89 u90 u91 u92 u93 u94 u95 u96 u97 u98 u99 u100 u101 u102 u103 u104 u105 u106 u107 u108 u109 u110 u111 u112 u113 u114 u115 u116 u117 u118 u119 u120 u121 u122 u123 u124 u125 u126 u127 u128 u129 u130 u131 u132 u133 u134 u135 u136 u137 u138 u139 u140 u141 u142 u143 u144 u145 u146 u147 u148 u149 u150 u151 u152 u153 u154 u155 u156 u157 u158 u159 u160 u161 u162 u163 u164 u165 u166 u167 u168 u169 u170 u171 u172 u173 u174 u175 u176 u177 u178 u179 u180 u181 u182 u183 u184 u185 u186 u187 u188 u189 u190 u191 u192 u193 u194 u195 u196 u197 u198 u199 u200 u201 u202 u203 u204 u205 u206 u207 u208 u209 u210 u211 u212 u213 u214 u215 u216 u217 u218 u219 u220 u221 u222 u223 u224 u225 u226 u227 u228 u229 u230 u231 u232 u233 u234 u235 u236 u237 u238 u239 u240 u241 u242 u243 u244 u245 u246 u247 u248 u249 u250 u251 u252 u253 u254 u255 u256 u257 u258 u259 u260 u261 u262 u263 u264 u265 u266 u267 u268 u269 u270 u271 u272 u273 u274 u275 u276 u277 u278 u279 u280 u281 u282 u283 u284 u285 u286 u287 u288 u289 u290 u291 u292 u293 u294 u295 u296 u297 u298 u299 u300 u301 u302 u303 u304 u305 u306 u307 u308 u309 u310 u311 u312 u313 u314 u315 u316 u317 u318 u319 u320 u321 u322 u323 u324 u325 u326 u327 u328 u329 u330 u331 u332 u333 u334 u335 u336 u337 u338 u339 u340 u341 u342 u343 u344 u345 u346 u347 u348 u349 u350 u351 u352 u353 u354 u355 u356 u357 u358 u359 u360 u361 u362 u363 u364 u365 u366 u367 u368 u369 u370 u371 u372 u373 u374 u375 u376 u377 u378 u379 u380 u381 u382 u383 u384 u385 u386 u387 u388 u389 u390 u391 u392 u393 u394 u395 u396 u397 u398 u399 u400 u401 u402 u403 u404 u405 u406 u407 u408 u409 u410 u411 : Value} (w0 : World) (HML0 : Hid (MLs w w0 H n S0 pg N c P E hd vs L pl hd (fun _ _ => 0) 0 0))
    (hQ : ∀ (x23 x24 x25 x26 x27 x28 x29 x30 x31 x33 x35 x36 x150 x151 x152 x153 x154 x155 x156 x157 x158 x159 x160 x161 x162 x163 x164 x165 x166 x167 x168 x169 x170 x171 x172 x173 x174 x175 x176 x177 x178 x179 x180 x181 x182 x183 x184 x185 x186 x187 x188 x189 x190 x191 x192 x193 x194 x195 x196 x197 x198 x199 x200 x201 x202 x203 x204 x205 x206 x207 x208 x209 x210 x211 x212 x213 x214 x215 x216 x217 x218 x219 x220 x221 x222 x223 x224 x225 x226 x227 x228 x229 x230 x231 x232 x233 x234 x235 x236 x237 x238 x239 x240 x241 x242 x243 x244 x245 x246 x247 x248 x249 x250 x251 x252 x253 x254 x255 x256 x257 x258 x259 x260 x261 x262 x263 x264 x265 x266 x267 x268 x269 x270 x271 x272 x273 x274 x275 x276 x277 x278 x279 x280 x281 x282 x283 x284 x285 x286 x287 x288 x289 x290 x291 x292 x293 x294 x295 x296 x297 x298 x299 x300 x301 x302 x303 x304 x305 x306 x307 x308 x309 x310 x311 x312 x313 x314 x315 x316 x317 x318 x319 x320 x321 x322 x323 x324 x325 x326 x327 x328 x329 x330 x331 x332 x333 x334 x335 x336 x337 x338 x339 x340 x341 x342 x343 x344 x345 x346 x347 x348 x349 x350 x351 x352 x353 x354 x355 x356 x357 x358 x359 x360 x361 x362 x363 x364 x365 x366 x367 x368 x369 x370 x371 x372 x373 x374 : Value) (wz : World), (∃ (s : SS) (vs' : List Value) (L' : List (List Nat)) (pl' : Nat → Nat → Int), Hid (s = SS.run P (N + 2) ⟨hd, fun _ _ => 0, 0, 0⟩) ∧ Hid (MLs w wz H n S0 pg N c P E hd vs' L' pl' s.hold s.st s.top s.fin)) → Q .normal ⟨#[u0, u1, u2, u3, u4, .int .i64 (n : Int), .slice (some ⟨H, 0, none⟩) n n, .slice (some ⟨H + 1, 0, none⟩) nn nn, .slice (some ⟨H + 2, 0, none⟩) nn nn, .pointer (some ⟨H + 3, 0, none⟩), u10, u11, u12, u13, u14, u15, u16, u17, u18, u19, u20, .slice (some ⟨S0, 0, none⟩) nn nn, .slice (some ⟨S0 + 1, 0, none⟩) n n, x23, x24, x25, x26, x27, x28, x29, x30, x31, u32, x33, u34, x35, x36, u37, u38, u39, u40, u41, u42, u43, u44, u45, u46, u47, u48, u49, u50, u51, u52, u53, u54, u55, u56, u57, u58, u59, u60, u61, u62, u63, u64, u65, u66, u67, u68, u69, u70, u71, u72, u73, u74, u75, u76, u77, u78, u79, u80, u81, u82, u83, u84, u85, u86, u87, u88, u89, u90, u91, u92, u93, u94, u95, u96, u97, u98, u99, u100, u101, u102, u103, u104, u105, u106, u107, u108, u109, u110, u111, u112, u113, u114, u115, u116, u117, u118, u119, u120, u121, u122, u123, u124, u125, u126, u127, u128, u129, u130, u131, u132, u133, u134, u135, u136, u137, u138, u139, u140, u141, u142, u143, u144, u145, u146, u147, u148, u149, x150, x151, x152, x153, x154, x155, x156, x157, x158, x159, x160, x161, x162, x163, x164, x165, x166, x167, x168, x169, x170, x171, x172, x173, x174, x175, x176, x177, x178, x179, x180, x181, x182, x183, x184, x185, x186, x187, x188, x189, x190, x191, x192, x193, x194, x195, x196, x197, x198, x199, x200, x201, x202, x203, x204, x205, x206, x207, x208, x209, x210, x211, x212, x213, x214, x215, x216, x217, x218, x219, x220, x221, x222, x223, x224, x225, x226, x227, x228, x229, x230, x231, x232, x233, x234, x235, x236, x237, x238, x239, x240, x241, x242, x243, x244, x245, x246, x247, x248, x249, x250, x251, x252, x253, x254, x255, x256, x257, x258, x259, x260, x261, x262, x263, x264, x265, x266, x267, x268, x269, x270, x271, x272, x273, x274, x275, x276, x277, x278, x279, x280, x281, x282, x283, x284, x285, x286, x287, x288, x289, x290, x291, x292, x293, x294, x295, x296, x297, x298, x299, x300, x301, x302, x303, x304, x305, x306, x307, x308, x309, x310, x311, x312, x313, x314, x315, x316, x317, x318, x319, x320, x321, x322, x323, x324, x325, x326, x327, x328, x329, x330, x331, x332, x333, x334, x335, x336, x337, x338, x339, x340, x341, x342, x343, x344, x345, x346, x347, x348, x349, x350, x351, x352, x353, x354, x355, x356, x357, x358, x359, x360, x361, x362, x363, x364, x365, x366, x367, x368, x369, x370, x371, x372, x373, x374, u375, u376, u377, u378, u379, u380, u381, u382, u383, u384, u385, u386, u387, u388, u389, u390, u391, u392, u393, u394, u395, u396, u397, u398, u399, u400, u401, u402, u403, u404, u405, u406, u407, u408, u409, u410, u411], []⟩ wz) :
    Code.wp Tryd.prog (B17 Tryd.f17 10) Q ⟨#[u0, u1, u2, u3, u4, .int .i64 (n : Int), .slice (some ⟨H, 0, none⟩) n n, .slice (some ⟨H + 1, 0, none⟩) nn nn, .slice (some ⟨H + 2, 0, none⟩) nn nn, .pointer (some ⟨H + 3, 0, none⟩), u10, u11, u12, u13, u14, u15, u16, u17, u18, u19, u20, .slice (some ⟨S0, 0, none⟩) nn nn, .slice (some ⟨S0 + 1, 0, none⟩) n n, .int .i64 0, .int .i64 0, u25, u26, u27, u28, u29, u30, u31, u32, u33, u34, u35, u36, u37, u38, u39, u40, u41, u42, u43, u44, u45, u46, u47, u48, u49, u50, u51, u52, u53, u54, u55, u56, u57, u58, u59, u60, u61, u62, u63, u64, u65, u66, u67, u68, u69, u70, u71, u72, u73, u74, u75, u76, u77, u78, u79, u80, u81, u82, u83, u84, u85, u86, u87, u88, u89, u90, u91, u92, u93, u94, u95, u96, u97, u98, u99, u100, u101, u102, u103, u104, u105, u106, u107, u108, u109, u110, u111, u112, u113, u114, u115, u116, u117, u118, u119, u120, u121, u122, u123, u124, u125, u126, u127, u128, u129, u130, u131, u132, u133, u134, u135, u136, u137, u138, u139, u140, u141, u142, u143, u144, u145, u146, u147, u148, u149, u150, u151, u152, u153, u154, u155, u156, u157, u158, u159, u160, u161, u162, u163, u164, u165, u166, u167, u168, u169, u170, u171, u172, u173, u174, u175, u176, u177, u178, u179, u180, u181, u182, u183, u184, u185, u186, u187, u188, u189, u190, u191, u192, u193, u194, u195, u196, u197, u198, u199, u200, u201, u202, u203, u204, u205, u206, u207, u208, u209, u210, u211, u212, u213, u214, u215, u216, u217, u218, u219, u220, u221, u222, u223, u224, u225, u226, u227, u228, u229, u230, u231, u232, u233, u234, u235, u236, u237, u238, u239, u240, u241, u242, u243, u244, u245, u246, u247, u248, u249, u250, u251, u252, u253, u254, u255, u256, u257, u258, u259, u260, u261, u262, u263, u264, u265, u266, u267, u268, u269, u270, u271, u272, u273, u274, u275, u276, u277, u278, u279, u280, u281, u282, u283, u284, u285, u286, u287, u288, u289, u290, u291, u292, u293, u294, u295, u296, u297, u298, u299, u300, u301, u302, u303, u304, u305, u306, u307, u308, u309, u310, u311, u312, u313, u314, u315, u316, u317, u318, u319, u320, u321, u322, u323, u324, u325, u326, u327, u328, u329, u330, u331, u332, u333, u334, u335, u336, u337, u338, u339, u340, u341, u342, u343, u344, u345, u346, u347, u348, u349, u350, u351, u352, u353, u354, u355, u356, u357, u358, u359, u360, u361, u362, u363, u364, u365, u366, u367, u368, u369, u370, u371, u372, u373, u374, u375, u376, u377, u378, u379, u380, u381, u382, u383, u384, u385, u386, u387, u388, u389, u390, u391, u392, u393, u394, u395, u396, u397, u398, u399, u400, u401, u402, u403, u404, u405, u406, u407, u408, u409, u410, u411], []⟩ w0 := by
  conv => arg 2; whnf
  conv => arg 4; dsimp only
  go_wp2_with fail
  go_loopg [23, 24] (N + 2) (fun gk v23 v24 wr => ∃ (s : SS) (vs' : List Value) (L' : List (List Nat)) (pl' : Nat → Nat → Int), v23 = .int .i64 s.top ∧ v24 = .int .i64 s.fin ∧ Hid (SS.run P gk s = SS.run P (N + 2) ⟨hd, fun _ _ => 0, 0, 0⟩) ∧ left P s.st < gk ∧ Hid (MLs w wr H n S0 pg N c P E hd vs' L' pl' s.hold s.st s.top s.fin))
  case atStart => exact ⟨⟨hd, fun _ _ => 0, 0, 0⟩, vs, L, pl, rfl, rfl, rfl, Nat.lt_of_le_of_lt (left_le P _) (by rw [HPLN.out]; omega), HML0⟩
  case round =>
    clear HML0
    obtain ⟨s, vs', L', pl', rfl, rfl, HRun, hleft, HML⟩ := hrel
    have htopN : s.top ≤ N := by rw [← HPLN.out]; exact HML.out.inv.topN
    have hfinN : s.fin ≤ N := by rw [← HPLN.out]; exact HML.out.inv.finN
    have c9 : wr.cell? ⟨H + 3, 0, none⟩ = some (.slice (some ⟨pg, 0, none⟩) N c) := HML.out.ms.box.cell (by omega)
    by_cases hlt : s.top < N
    · obtain ⟨g, rfl⟩ : ∃ g, gk = g + 1 := ⟨gk - 1, by omega⟩
      obtain ⟨fin2, st2, hJ⟩ : ∃ fin2 st2, joinTo P s.top (P.N - s.fin) s.fin s.st = (fin2, st2) := ⟨_, _, rfl⟩
      have HJ : Hid (joinTo P s.top (P.N - s.fin) s.fin s.st = (fin2, st2)) := hJ
      clear hJ
      go_upto_block 12 with fail
      refine L7 HNN hnn hn0 hn hN2 hp1 hp2 HPok HPn HPLN HPle HD' hlt hfinN HJ _ HML ?_
      intro x25 x154 x155 x156 x157 x158 x159 x160 x161 x162 x163 x164 x165 x166 x167 x168 x169 x170 x171 x172 x173 x174 x175 x176 x177 x178 x179 x180 x181 x182 x183 x184 x185 x186 x187 x188 x189 x190 x191 x192 wc HML2
      clear c9
      have HInv0 : Hid (Inv P hd s.hold s.st s.top s.fin) := HML.out.inv
      have htf : s.top < fin2 := by
        have := joinTo_gt (P := P) (hold := s.hold) (f := P.N - s.fin) (fin := s.fin) (st := s.st) HPok.out HML.out.inv (by have := HPLN.out; omega) (by rw [HPLN.out]; exact hlt)
        rw [HJ.out] at this; exact this
      have hst2P := HML2.out
      obtain ⟨i, hi⟩ := pick_some HPok.out HML2.out.inv (by rw [HPLN.out]; exact hlt) htf (fun c => share P.n s.hold c c)
      have HBest : Hid (best (ready n st2) (fun c => share n s.hold c c) n = some i) := by rw [HPn.out] at hi; exact hi
      have HPick : Hid (pickN P s st2 = i) := by show _ = _; unfold pickN; rw [hi]; rfl
      obtain ⟨hin, hrdi⟩ := best_some HBest.out
      obtain ⟨v, hve⟩ : ∃ v, v = lead (fun v => st2 i v == 1) n 0 := ⟨_, rfl⟩
      obtain ⟨hst1, hvn⟩ := lead_ready hrdi
      rw [← hve] at hst1 hvn
      have HST1 : Hid (st2 i v = 1) := hst1
      have HVE : Hid (v = lead (fun v => st2 i v == 1) n 0) := hve
      clear hst2P hi hve hst1 hrdi
      clear HML
      go_upto_block 14 with fail
      refine L8 HNN hnn hn0 hn hN2 hp1 hp2 HBest _ HML2 ?_
      intro x27 x194 x195 x196 x197 x198 x199 x200 x201 x202 x203 x204 x205 x206 x207 x208 x209 x210 x211 x212 x213 x214 x215 x216 x217 x218 x219 x220 x221 x222 x223 x224 x225 x226 wc2 HML3
      clear HML2
      clear HBest
      obtain ⟨ip, hip⟩ : ∃ ip, ip = i * n := ⟨_, rfl⟩
      have HIP : Hid (ip = i * n) := hip
      have hipn : ip + n ≤ nn := by rw [hip, HNN.out, ← Nat.succ_mul]; exact Nat.mul_le_mul_right _ hin
      have him : (i : Int) * (n : Int) = (ip : Int) := by rw [hip]; simp
      clear hip
      go_upto_block 16 with fail
      refine L9 HNN HIP hipn him hnn hn hin hvn HVE HST1 _ HML3 ?_
      intro x227 x228 x229 x230 x231 x232 x233 x234 x235 x236 x237 wc HML4
      clear HML3
      have hidx : ip + v < nn := by omega
      have cst := HML4.out.ms.state.cell (i := ip + v) (by rw [← HNN.out]; exact hidx)
      have fst : wc.frozen? ⟨S0, ip + v, none⟩ = false := HML4.out.ms.state.frozen _
      have crd := HML4.out.ms.ready.cell (i := i) hin
      have frd : wc.frozen? ⟨S0 + 1, i, none⟩ = false := HML4.out.ms.ready.frozen _
      have hr1 : 1 ≤ ready n st2 i := cnt_has (k := v) hvn (by rw [HST1.out]; rfl)
      have hr2 : ready n st2 i ≤ n := cnt_le _ _
      have hrs : (ready n st2 i : Int) - 1 = ((ready n st2 i - 1 : Nat) : Int) := by omega
      have HMS5 : Hid (MS w ((wc.setCell ⟨S0, ip + v, none⟩ (.int .u8 ((2 : Nat) : Int))).setCell ⟨S0 + 1, i, none⟩ (.int .i64 ((ready n st2 i - 1 : Nat) : Int))) H n S0 pg N c vs' L' pl' (share n s.hold) (upd st2 i v 2) (ready n (upd st2 i v 2)) P E) := by
        have h := (HML4.out.ms.setState (a := i) hvn 2).setReady i (ready n st2 i - 1)
        rw [← HIP.out] at h
        exact h.congr (fun _ _ => rfl) (fun _ _ => rfl) (fun x => (ready_act HST1.out hvn x).symm)
      obtain ⟨l, hL, hLs⟩ := HML4.out.ls v hvn
      have HLl : Hid (L'[v]? = some l) := hL
      have HLs : Hid (Listed l (fun i => s.hold i v) (pl' v)) := hLs
      have HOff : Hid (∀ i v, hd i v = true → s.hold i v = false → pl' v i = -1) := HML4.out.off
      have HLsA : Hid (∀ v, v < n → ∃ l, L'[v]? = some l ∧ Listed l (fun i => s.hold i v) (pl' v)) := HML4.out.ls
      have HInv : Hid (Inv P hd s.hold st2 s.top fin2) := HML4.out.inv
      have HIV : Hid (s.hold i v = true) := HML4.out.inv.keep i v (HML4.out.inv.out i v (by rw [HST1.out]; omega)) (by rw [HST1.out]; omega)
      have HLin : Hid (∀ j, j ∈ l → j < n) := fun j hj => by
        have h1 := HML4.out.inv.sub j v ((hLs.mem j).1 hj)
        exact (HHin.out j v h1).1
      obtain ⟨hv0, hv0e⟩ : ∃ hv0, vs'[v]? = some hv0 := by
        have hl := HML4.out.ms.rows.len
        have h2 : v < L'.length := (List.getElem?_eq_some_iff.1 hL).1
        exact ⟨vs'[v]'(by omega), List.getElem?_eq_getElem _⟩
      have hl0 : 0 < l.length := List.length_pos_of_mem ((hLs.mem i).2 HIV.out)
      obtain ⟨hg, hc, hho, hhc, hg4, _⟩ := own_form' (HML4.out.ms.rows.own v hv0 l hv0e hL) hl0
      subst hho
      have HVE0 : Hid (vs'[v]? = some (.slice (some ⟨hg, 0, none⟩) l.length hc)) := hv0e
      have hll : l.length ≤ 256 := Nat.le_trans (nodup_len (List.nodup_iff_pairwise_ne.2 (by
        rw [List.pairwise_iff_getElem]
        intro a b ha hb hab e
        have := hLs.inj a b l[a] (List.getElem?_eq_getElem ha) (by rw [e]; exact List.getElem?_eq_getElem hb)
        omega)) HLin.out) hn
      clear hL hLs hv0e HML4
      go_upto_region 53 with fail
      try rw [hrs]
      generalize (wc.setCell ⟨S0, ip + v, none⟩ (.int .u8 ((2 : Nat) : Int))).setCell ⟨S0 + 1, i, none⟩ (.int .i64 ((ready n st2 i - 1 : Nat) : Int)) = W5 at *
      have ch : W5.cell? ⟨H, v, none⟩ = some (.slice (some ⟨hg, 0, none⟩) l.length hc) := by rw [cell_of_row W5 H v _ _ _ HMS5.out.out]; simpa using HVE0.out
      have hm2 : ((i : Int) + 1) * (n : Int) = ((ip + n : Nat) : Int) := by rw [Int.add_mul, him]; simp
      clear cst fst crd frd
      go_quiet (fail)
      have HMS6 : Hid (MS w (W5.drewN nq) H n S0 pg N c vs' L' pl' (share n s.hold) (upd st2 i v 2) (ready n (upd st2 i v 2)) P E) := HMS5.out.drewN nq
      generalize W5.drewN nq = W6 at *
      clear HMS5 ch hm2
      obtain ⟨tl, htl⟩ : ∃ tl : Bool, tl = canLeave n s.hold i v := ⟨_, rfl⟩
      have HTL : Hid (tl = canLeave n s.hold i v) := htl
      have HCL : Hid (canLeave n s.hold i v = true ↔ ∀ j ∈ l, 2 ≤ share n s.hold i j) := canLeave_list HLs.out.mem HLin.out
      have HOwn : Hid (∀ (wz : World) (pl2 : Nat → Nat → Int) (sh2 st3 : Nat → Nat → Nat) (rd2 : Nat → Nat), MS w wz H n S0 pg N c vs' L' pl2 sh2 st3 rd2 P E → wz.ownsRow (H + 4) 3 1 (.slice (some ⟨hg, 0, none⟩) l.length hc) l.length (ints l)) := fun wz pl2 sh2 st3 rd2 hz => hz.rows.own v _ _ HVE0.out HLl.out
      clear htl
      obtain ⟨kz, hkz⟩ : ∃ kz, skip (cons2 P (upd st2 i v 2)) (P.N - s.top) s.top = kz := ⟨_, rfl⟩
      have HKz : Hid (skip (cons2 P (upd st2 i v 2)) (P.N - s.top) s.top = kz) := hkz
      clear hkz
      have HAct : Hid (s.step P = s.act P fin2 st2 i v) := by
        show _ = _
        unfold SS.step
        rw [HJ.out]
        simp only []
        rw [HPick.out, HPn.out, ← HVE.out]
      have HLeft : Hid (left P (upd st2 i v 2) < left P s.st) := by
        show _ < _
        have h1 := left_act HPok.out HInv.out HST1.out
        have h2 := left_joinTo (P := P) (hold := s.hold) (top := s.top) (f := P.N - s.fin) (fin := s.fin) (st := s.st) HPok.out HInv0.out (by have := HPLN.out; omega)
        rw [HJ.out] at h2
        simp only [] at h2
        omega
      go_upto_block 18 with fail
      rw [show ip + n - ip = n from by omega]
      refine L10 (hd := hd) HNN hnn hn0 hn hN2 hp1 hp2 HIP hipn hin hll hhc HLin HOwn HTL HCL _ HMS6 ?_
      intro x33 x266 x267 x268 x269 x270 x271 x272 x273 x274 x275 wc7 HMS7
      clear HMS6
      cases tl with
      | false =>
        have hcl : canLeave n s.hold i v = false := HTL.out.symm
        have HM2 : Hid (ML2 w wc7 H n S0 pg N c P E hd (if canLeave n s.hold i v then upd s.hold i v false else s.hold) (upd st2 i v 2)) := by
          show ML2 _ _ _ _ _ _ _ _ _ _ _ _ _
          rw [hcl]
          exact ⟨vs', L', pl', HMS7.out, HLsA.out, HOff.out⟩
        clear hcl
        go_upto_block 22 with fail
        refine L12 (vs' := vs') (L' := L') (pl' := pl') HNN hnn hn0 hn hN2 hp1 hp2 HPok HPn HPLN hlt HKz _ HM2 ?_
        intro x350 x351 x352 x353 x354 x355 x356 x357 x358 x359 x360 x361 x362 x363 x364 x365 x366 x367 x368 x369 x370 x371 x372 x373 x374 wz HM3
        obtain ⟨vs2, L2, pl2, hms, hls, hoff⟩ := HM3.out.ex
        go_wp2
        go_roundg g
        case rel =>
          have hac := Inv.acted (s := s) HPok.out HInv.out HST1.out
          have e : (s.act P fin2 st2 i v).hold = if canLeave n s.hold i v then upd s.hold i v false else s.hold := by
            show (if canLeave P.n s.hold i v then upd s.hold i v false else s.hold) = _
            rw [HPn.out]
          refine ⟨s.act P fin2 st2 i v, vs2, L2, pl2, ?_, rfl, ?_, ?_, ?_⟩
          · show Value.int .i64 (kz : Int) = .int .i64 ((skip (cons2 P (upd st2 i v 2)) (P.N - s.top) s.top : Nat) : Int)
            rw [HKz.out]
          · show _ = _
            rw [← HRun.out, ← HAct.out]
            rw [show SS.run P (g + 1) s = if s.top < P.N then SS.run P g (s.step P) else s from rfl, if_pos (by rw [HPLN.out]; exact hlt)]
          · have := HLeft.out
            show left P (upd st2 i v 2) < g
            omega
          · refine ⟨?_, hac, ?_, ?_⟩
            · rw [e]; exact hms
            · intro u hu
              rw [e]; exact hls u hu
            · intro x u h1 h2
              rw [e] at h2; exact hoff x u h1 h2
        case measure => omega
      | true =>
        have hcl : canLeave n s.hold i v = true := HTL.out.symm
        have HFn : Hid ((if canLeave n s.hold i v then upd s.hold i v false else s.hold) = upd s.hold i v false) := by show _ = _; rw [hcl]; rfl
        have HCL2 : Hid (∀ j ∈ l, 2 ≤ share n s.hold i j) := HCL.out.1 hcl
        clear hcl
        go_upto_block 20 with fail
        refine L11 (hd := hd) HNN hnn hn0 hn hN2 hp1 hp2 HIP hipn hin hll hhc HLin HOwn hvn HLs HIV HCL2 _ HMS7 ?_
        intro x35 x279 x280 x281 x282 x283 x284 x285 x286 x287 x288 x289 x290 x291 x292 x293 x294 x295 x296 x297 x298 x299 x300 x301 x302 wr HMSe
        clear HMS7
        obtain ⟨t, ht⟩ := List.getElem?_of_mem ((HLs.out.mem i).2 HIV.out)
        have htl : t < l.length := (List.getElem?_eq_some_iff.1 ht).1
        obtain ⟨la, hla⟩ : ∃ la, l[l.length - 1]? = some la := ⟨_, List.getElem?_eq_getElem (by omega)⟩
        have hlan := HLin.out la (List.mem_of_getElem? hla)
        have hpl := HLs.out.at_ t i ht
        obtain ⟨vp, hvp⟩ : ∃ vp, vp = v * n := ⟨_, rfl⟩
        have HVP : Hid (vp = v * n) := hvp
        have hvpn : vp + n ≤ nn := by rw [hvp, HNN.out, ← Nat.succ_mul]; exact Nat.mul_le_mul_right _ hvn
        have hvm : (v : Int) * (n : Int) = (vp : Int) := by rw [hvp]; simp
        have hi1 : vp + i < nn := by omega
        have hi2 : vp + la < nn := by omega
        have hd1 : (vp + i) / n = v ∧ (vp + i) % n = i := (divmod_at hin).2 (by rw [hvp])
        have cl := own_cell (HOwn.out wr _ _ _ _ HMSe.out) (ints_get l hla)
        have ct := own_cell (HOwn.out wr _ _ _ _ HMSe.out) (ints_get l ht)
        have ft : wr.frozen? ⟨hg, t, none⟩ = false := own_frozen (HOwn.out wr _ _ _ _ HMSe.out) t
        have cp := HMSe.out.place.cell (i := vp + i) (by rw [← HNN.out]; exact hi1)
        rw [hd1.1, hd1.2, hpl] at cp
        have HMS8 : Hid (MS w (wr.setCell ⟨hg, t, none⟩ (.int .i64 (la : Int))) H n S0 pg N c vs' (L'.set v (l.set t la)) pl' (share n (upd s.hold i v false)) (upd st2 i v 2) (ready n (upd st2 i v 2)) P E) := HMSe.out.rowCell HVE0.out HLl.out
        have HT : Hid (l[t]? = some i) := ht
        have HLA : Hid (l[l.length - 1]? = some la) := hla
        have hgH : ¬ hg = H + 1 := by omega
        have hk0 : (0 : Int) ≤ (l.length : Int) - 1 := by omega
        have hk2 : (l.length : Int) - 1 < (l.length : Int) := by omega
        have hkw : IntKind.i64.wrap ((l.length : Int) - 1) = (l.length : Int) - 1 := by simp [IntKind.wrap, IntKind.bits, IntKind.signed]; omega
        have hk3 : ((l.length : Int) - 1).toNat = l.length - 1 := by omega
        have hk4 : (1 : Int) ≤ (l.length : Int) := by omega
        have hk5 : 1 ≤ l.length := by omega
        have hk6 : (l.length : Int) - 1 ≤ (hc : Int) := by omega
        have hk7 : l.length - 1 ≤ hc := by omega
        clear ht hla hpl hvp hd1
        go_upto_region 71 with fail
        generalize wr.setCell ⟨hg, t, none⟩ (.int .i64 (la : Int)) = W8 at *
        clear cl ct ft cp
        have cp1 := HMS8.out.place.cell (i := vp + i) (by rw [← HNN.out]; exact hi1)
        have hd1 : (vp + i) / n = v ∧ (vp + i) % n = i := (divmod_at hin).2 (by rw [HVP.out])
        rw [hd1.1, hd1.2, HLs.out.at_ t i HT.out] at cp1
        have cp2 := HMS8.out.place.cell (i := vp + la) (by rw [← HNN.out]; exact hi2)
        have fp2 : W8.frozen? ⟨H + 1, vp + la, none⟩ = false := HMS8.out.place.frozen _
        have HMS9 : Hid (MS w (W8.setCell ⟨H + 1, vp + la, none⟩ (.int .i64 (t : Int))) H n S0 pg N c vs' (L'.set v (l.set t la)) (upd pl' v la (t : Int)) (share n (upd s.hold i v false)) (upd st2 i v 2) (ready n (upd st2 i v 2)) P E) := by
          have h := HMS8.out.setPlace (v := v) (i := la) hlan (t : Int)
          rw [← HVP.out] at h; exact h
        clear hd1
        go_upto_region 72 with fail
        generalize W8.setCell ⟨H + 1, vp + la, none⟩ (.int .i64 (t : Int)) = W9 at *
        clear cp1 cp2 fp2
        have cp3 := HMS9.out.place.cell (i := vp + i) (by rw [← HNN.out]; exact hi1)
        have fp3 : W9.frozen? ⟨H + 1, vp + i, none⟩ = false := HMS9.out.place.frozen _
        have HMS10 : Hid (MS w (W9.setCell ⟨H + 1, vp + i, none⟩ (.int .i64 (-1))) H n S0 pg N c vs' (L'.set v (l.set t la)) (upd (upd pl' v la (t : Int)) v i (-1)) (share n (upd s.hold i v false)) (upd st2 i v 2) (ready n (upd st2 i v 2)) P E) := by
          have h := HMS9.out.setPlace (v := v) (i := i) hin (-1)
          rw [← HVP.out] at h; exact h
        go_upto_region 73 with fail
        generalize W9.setCell ⟨H + 1, vp + i, none⟩ (.int .i64 (-1)) = W10 at *
        clear cp3 fp3
        have chv : W10.cell? ⟨H, v, none⟩ = some (.slice (some ⟨hg, 0, none⟩) l.length hc) := by rw [cell_of_row W10 H v _ _ _ HMS10.out.out]; simpa using HVE0.out
        have fhv : W10.frozen? ⟨H, v, none⟩ = false := frozen_of_row W10 H v _ _ HMS10.out.out
        have hvL : v < L'.length := (List.getElem?_eq_some_iff.1 HLl.out).1
        have HMS11 : Hid (MS w (W10.setCell ⟨H, v, none⟩ (.slice (some ⟨hg, 0, none⟩) (l.length - 1) hc)) H n S0 pg N c (vs'.set v (.slice (some ⟨hg, 0, none⟩) (l.length - 1) hc)) (L'.set v (without l t la)) (upd (upd pl' v la (t : Int)) v i (-1)) (share n (upd s.hold i v false)) (upd st2 i v 2) (ready n (upd st2 i v 2)) P E) := by
          have h := HMS10.out.rowCut (i := v) (g := hg) (cap := hc) (k := l.length - 1) (l := l.set t la) (by rw [List.length_set]; exact HVE0.out) (by rw [List.getElem?_set_self hvL]) (by rw [List.length_set]; omega)
          rw [List.set_set] at h
          exact h
        have HM2 : Hid (ML2 w (W10.setCell ⟨H, v, none⟩ (.slice (some ⟨hg, 0, none⟩) (l.length - 1) hc)) H n S0 pg N c P E hd (if canLeave n s.hold i v then upd s.hold i v false else s.hold) (upd st2 i v 2)) := by
          show ML2 _ _ _ _ _ _ _ _ _ _ _ _ _
          rw [HFn.out]
          refine ⟨_, _, _, HMS11.out, fun u hu => ?_, fun x u h1 h2 => ?_⟩
          · by_cases e : u = v
            · subst e
              refine ⟨_, List.getElem?_set_self hvL, ?_⟩
              have h := HLs.out.out HT.out HLA.out (pl' := upd (upd pl' u la (t : Int)) u i (-1) u) (fun x hx => by
                rw [upd_ne _ _ _ _ (fun y => hx y.2)]
                by_cases e : x = la
                · subst e; rw [upd_same, if_pos rfl]
                · rw [upd_ne _ _ _ _ (fun y => e y.2), if_neg e])
              refine ⟨h.inj, fun x => ?_, h.at_⟩
              rw [h.mem x]
              by_cases e : x = i
              · subst e; rw [if_pos rfl, upd_same]
              · rw [if_neg e, upd_ne _ _ _ _ (fun y => e y.1)]
            · obtain ⟨l2, hl2, hls2⟩ := HLsA.out u hu
              refine ⟨l2, by rw [List.getElem?_set_ne (fun x => e x.symm)]; exact hl2, hls2.inj, fun x => ?_, fun t' x hx => ?_⟩
              · rw [hls2.mem x, upd_ne _ _ _ _ (fun y => e y.2)]
              · rw [upd_ne _ _ _ _ (fun y => e y.1), upd_ne _ _ _ _ (fun y => e y.1)]
                exact hls2.at_ t' x hx
          · by_cases e : u = v ∧ x = i
            · obtain ⟨rfl, rfl⟩ := e; rw [upd_same]
            · rw [upd_ne _ _ _ _ e]
              rw [upd_ne _ _ _ _ (fun y => e ⟨y.2, y.1⟩)] at h2
              have hp := HOff.out x u h1 h2
              by_cases e2 : u = v ∧ x = la
              · obtain ⟨rfl, rfl⟩ := e2
                have := (HLs.out.mem x).1 (List.mem_of_getElem? HLA.out)
                rw [h2] at this; cases this
              · rw [upd_ne _ _ _ _ e2]; exact hp
        go_upto_block 22 with fail
        refine L12 (vs' := vs') (L' := L') (pl' := pl') HNN hnn hn0 hn hN2 hp1 hp2 HPok HPn HPLN hlt HKz _ HM2 ?_
        intro x350 x351 x352 x353 x354 x355 x356 x357 x358 x359 x360 x361 x362 x363 x364 x365 x366 x367 x368 x369 x370 x371 x372 x373 x374 wz HM3
        obtain ⟨vs2, L2, pl2, hms, hls, hoff⟩ := HM3.out.ex
        go_wp2
        go_roundg g
        case rel =>
          have hac := Inv.acted (s := s) HPok.out HInv.out HST1.out
          have e : (s.act P fin2 st2 i v).hold = if canLeave n s.hold i v then upd s.hold i v false else s.hold := by
            show (if canLeave P.n s.hold i v then upd s.hold i v false else s.hold) = _
            rw [HPn.out]
          refine ⟨s.act P fin2 st2 i v, vs2, L2, pl2, ?_, rfl, ?_, ?_, ?_⟩
          · show Value.int .i64 (kz : Int) = .int .i64 ((skip (cons2 P (upd st2 i v 2)) (P.N - s.top) s.top : Nat) : Int)
            rw [HKz.out]
          · show _ = _
            rw [← HRun.out, ← HAct.out]
            rw [show SS.run P (g + 1) s = if s.top < P.N then SS.run P g (s.step P) else s from rfl, if_pos (by rw [HPLN.out]; exact hlt)]
          · have := HLeft.out
            show left P (upd st2 i v 2) < g
            omega
          · refine ⟨?_, hac, ?_, ?_⟩
            · rw [e]; exact hms
            · intro u hu
              rw [e]; exact hls u hu
            · intro x u h1 h2
              rw [e] at h2; exact hoff x u h1 h2
        case measure => omega
    · have HEnd : Hid (s = SS.run P (N + 2) ⟨hd, fun _ _ => 0, 0, 0⟩) := by
        show _ = _
        rw [← HRun.out]
        cases gk with
        | zero => rfl
        | succ g => unfold SS.run; rw [if_neg (by rw [HPLN.out]; exact hlt)]
      go_wp2
      exact ⟨s, vs', L', pl', HEnd, HML⟩
end Go.Proofs.Qxb6613821aDoor
