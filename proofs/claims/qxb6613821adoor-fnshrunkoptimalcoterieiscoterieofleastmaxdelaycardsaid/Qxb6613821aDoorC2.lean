/- shrinkBalls, piece by piece. -/
import Derived.Test.Qxb6613821aDoorL9
import Derived.Test.Qxb6613821aDoorG1
namespace Go.Proofs.Qxb6613821aDoor
set_option linter.unusedVariables false
set_option linter.unusedSimpArgs false
open Ieee Go.RowKit

set_option maxHeartbeats 8000000 in
set_option maxRecDepth 1000000 in
theorem C2 {w : World} {H n nn Bb : Nat} {vb : List Value} {BL : List (List Nat)} {Q : Exit → Act → World → Prop} (HNN : Hid (nn = n * n)) (hnn : nn ≤ 65536) (hn0 : 0 < n) (hn : n ≤ 256) (hBbl : Bb < H) (HHe : Hid (w.heap.size = H)) (HN : Hid (Nest w Bb vb BL)) (HND : Hid (∀ a, (BL.getD a []).Nodup)) (HLT : Hid (∀ a, ∀ v ∈ BL.getD a [], v < n)) (HB2 : Hid (∀ a, (BL.getD a []).length ≤ 256)) (HLen : Hid (BL.length = n))
    {vs : List Value} {pl : Nat → Nat → Int} {pv : Value} {PS : List (Nat × Nat)} {xs : List Value} {hd : Nat → Nat → Bool} (HBA : Hid (BA n PS pl)) (HHD : Hid (∀ i v, hd i v = decide ((i, v) ∈ PS))) (HPin : Hid (∀ i v, (i, v) ∈ PS → i < n ∧ v < n)) (hPL : PS.length ≤ 65792) (HVL : Hid (vs.length = n)) {u0 u2 u3 u4 u10 u11 u12 u13 u14 u15 u16 u17 u18 u19 u20 u21 u22 u23 u24 u25 u26 u27 u28 u29 u30 u31 u32 u33 u34 u35 u36 u37 u38 u39 u40 u41 u42 u43 u44 u45 u46 u47 u48 u49 u50 u51 u52 u53 u54 u55 u56 u57 u58 u59 u60 u61 u62 u63 u64 u65 u66 u67 u68 u69 u70 u71 u72 u73 u74 u75 u76 u77 u78 u79 u80 u81 u82 u83 u84 u85 u86 u87 u88 u89 u90 u91 u92 u93 u94 u95 u96 u97 u98 u99 u100 u101 u102 u103 u107 u108 u109 u110 u111 u112 u113 u114 u115 u116 u117 u118 u119 u120 u121 u122 u123 u124 u125 u126 u127 u128 u129 u130 u131 u132 u133 u134 u135 u136 u137 u138 u139 u140 u141 u142 u143 u144 u145 u146 u147 u148 u149 u150 u151 u152 u153 u154 u155 u156 u157 u158 u159 u160 u161 u162 u163 u164 u165 u166 u167 u168 u169 u170 u171 u172 u173 u174 u175 u176 u177 u178 u179 u180 u181 u182 u183 u184 u185 u186 u187 u188 u189 u190 u191 u192 u193 u194 u195 u196 u197 u198 u199 u200 u201 u202 u203 u204 u205 u206 u207 u208 u209 u210 u211 u212 u213 u214 u215 u216 u217 u218 u219 u220 u221 u222 u223 u224 u225 u226 u227 u228 u229 u230 u231 u232 u233 u234 u235 u236 u237 u238 u239 u240 u241 u242 u243 u244 u245 u246 u247 u248 u249 u250 u251 u252 u253 u254 u255 u256 u257 u258 u259 u260 u261 u262 u263 u264 u265 u266 u267 u268 u269 u270 u271 u272 u273 u274 u275 u276 u277 u278 u279 u280 u281 u282 u283 u284 u285 u286 u287 u288 u289 u290 u291 u292 u293 u294 u295 u296 u297 u298 u299 u300 u301 u302 u303 u304 u305 u306 u307 u308 u309 u310 u311 u312 u313 u314 u315 u316 u317 u318 u319 u320 u321 u322 u323 u324 u325 u326 u327 u328 u329 u330 u331 u332 u333 u334 u335 u336 u337 u338 u339 u340 u341 u342 u343 u344 u345 u346 u347 u348 u349 u350 u351 u352 u353 u354 u355 u356 u357 u358 u359 u360 u361 u362 u363 u364 u365 u366 u367 u368 u369 u370 u371 u372 u373 u374 u375 u376 u377 u378 u379 u380 u381 u382 u383 u384 u385 u386 u387 u388 u389 u390 u391 u392 u393 u394 u395 u396 u397 u398 u399 u400 u401 u402 u403 u404 u405 u406 u407 u408 u409 u410 u411 : Value} (w0 : World) (HBM : Hid (BM w w0 H n vs (hlists n PS) pl (fun _ _ => 0) pv PS.length xs))
    (hQ : ∀ (x15 x17 x18 x20 x106 x107 x108 x109 x110 x111 x112 x113 x114 x115 x116 x117 x118 x119 x120 x121 x122 x123 x124 x125 x126 x127 x128 x129 x130 x131 x132 x133 x134 x135 x136 x137 x138 x139 : Value) (wz : World), Hid (BM w wz H n vs (hlists n PS) pl (share n hd) pv PS.length xs) → Q .normal ⟨#[u0, .slice (some ⟨Bb, 0, none⟩) n n, u2, u3, u4, .int .i64 (n : Int), .slice (some ⟨H, 0, none⟩) n n, .slice (some ⟨H + 1, 0, none⟩) nn nn, .slice (some ⟨H + 2, 0, none⟩) nn nn, .pointer (some ⟨H + 3, 0, none⟩), u10, u11, u12, u13, u14, x15, u16, x17, x18, u19, x20, u21, u22, u23, u24, u25, u26, u27, u28, u29, u30, u31, u32, u33, u34, u35, u36, u37, u38, u39, u40, u41, u42, u43, u44, u45, u46, u47, u48, u49, u50, u51, u52, u53, u54, u55, u56, u57, u58, u59, u60, u61, u62, u63, u64, u65, u66, u67, u68, u69, u70, u71, u72, u73, u74, u75, u76, u77, u78, u79, u80, u81, u82, u83, u84, u85, u86, u87, u88, u89, u90, u91, u92, u93, u94, u95, u96, u97, u98, u99, u100, u101, u102, u103, .slice (some ⟨H, 0, none⟩) n n, .int .i64 (n : Int), x106, x107, x108, x109, x110, x111, x112, x113, x114, x115, x116, x117, x118, x119, x120, x121, x122, x123, x124, x125, x126, x127, x128, x129, x130, x131, x132, x133, x134, x135, x136, x137, x138, x139, u140, u141, u142, u143, u144, u145, u146, u147, u148, u149, u150, u151, u152, u153, u154, u155, u156, u157, u158, u159, u160, u161, u162, u163, u164, u165, u166, u167, u168, u169, u170, u171, u172, u173, u174, u175, u176, u177, u178, u179, u180, u181, u182, u183, u184, u185, u186, u187, u188, u189, u190, u191, u192, u193, u194, u195, u196, u197, u198, u199, u200, u201, u202, u203, u204, u205, u206, u207, u208, u209, u210, u211, u212, u213, u214, u215, u216, u217, u218, u219, u220, u221, u222, u223, u224, u225, u226, u227, u228, u229, u230, u231, u232, u233, u234, u235, u236, u237, u238, u239, u240, u241, u242, u243, u244, u245, u246, u247, u248, u249, u250, u251, u252, u253, u254, u255, u256, u257, u258, u259, u260, u261, u262, u263, u264, u265, u266, u267, u268, u269, u270, u271, u272, u273, u274, u275, u276, u277, u278, u279, u280, u281, u282, u283, u284, u285, u286, u287, u288, u289, u290, u291, u292, u293, u294, u295, u296, u297, u298, u299, u300, u301, u302, u303, u304, u305, u306, u307, u308, u309, u310, u311, u312, u313, u314, u315, u316, u317, u318, u319, u320, u321, u322, u323, u324, u325, u326, u327, u328, u329, u330, u331, u332, u333, u334, u335, u336, u337, u338, u339, u340, u341, u342, u343, u344, u345, u346, u347, u348, u349, u350, u351, u352, u353, u354, u355, u356, u357, u358, u359, u360, u361, u362, u363, u364, u365, u366, u367, u368, u369, u370, u371, u372, u373, u374, u375, u376, u377, u378, u379, u380, u381, u382, u383, u384, u385, u386, u387, u388, u389, u390, u391, u392, u393, u394, u395, u396, u397, u398, u399, u400, u401, u402, u403, u404, u405, u406, u407, u408, u409, u410, u411], []⟩ wz) :
    Code.wp Tryd.prog (B17 Tryd.f17 4) Q ⟨#[u0, .slice (some ⟨Bb, 0, none⟩) n n, u2, u3, u4, .int .i64 (n : Int), .slice (some ⟨H, 0, none⟩) n n, .slice (some ⟨H + 1, 0, none⟩) nn nn, .slice (some ⟨H + 2, 0, none⟩) nn nn, .pointer (some ⟨H + 3, 0, none⟩), u10, u11, u12, u13, u14, u15, u16, u17, u18, u19, u20, u21, u22, u23, u24, u25, u26, u27, u28, u29, u30, u31, u32, u33, u34, u35, u36, u37, u38, u39, u40, u41, u42, u43, u44, u45, u46, u47, u48, u49, u50, u51, u52, u53, u54, u55, u56, u57, u58, u59, u60, u61, u62, u63, u64, u65, u66, u67, u68, u69, u70, u71, u72, u73, u74, u75, u76, u77, u78, u79, u80, u81, u82, u83, u84, u85, u86, u87, u88, u89, u90, u91, u92, u93, u94, u95, u96, u97, u98, u99, u100, u101, u102, u103, .slice (some ⟨H, 0, none⟩) n n, .int .i64 (n : Int), .int .i64 0, u107, u108, u109, u110, u111, u112, u113, u114, u115, u116, u117, u118, u119, u120, u121, u122, u123, u124, u125, u126, u127, u128, u129, u130, u131, u132, u133, u134, u135, u136, u137, u138, u139, u140, u141, u142, u143, u144, u145, u146, u147, u148, u149, u150, u151, u152, u153, u154, u155, u156, u157, u158, u159, u160, u161, u162, u163, u164, u165, u166, u167, u168, u169, u170, u171, u172, u173, u174, u175, u176, u177, u178, u179, u180, u181, u182, u183, u184, u185, u186, u187, u188, u189, u190, u191, u192, u193, u194, u195, u196, u197, u198, u199, u200, u201, u202, u203, u204, u205, u206, u207, u208, u209, u210, u211, u212, u213, u214, u215, u216, u217, u218, u219, u220, u221, u222, u223, u224, u225, u226, u227, u228, u229, u230, u231, u232, u233, u234, u235, u236, u237, u238, u239, u240, u241, u242, u243, u244, u245, u246, u247, u248, u249, u250, u251, u252, u253, u254, u255, u256, u257, u258, u259, u260, u261, u262, u263, u264, u265, u266, u267, u268, u269, u270, u271, u272, u273, u274, u275, u276, u277, u278, u279, u280, u281, u282, u283, u284, u285, u286, u287, u288, u289, u290, u291, u292, u293, u294, u295, u296, u297, u298, u299, u300, u301, u302, u303, u304, u305, u306, u307, u308, u309, u310, u311, u312, u313, u314, u315, u316, u317, u318, u319, u320, u321, u322, u323, u324, u325, u326, u327, u328, u329, u330, u331, u332, u333, u334, u335, u336, u337, u338, u339, u340, u341, u342, u343, u344, u345, u346, u347, u348, u349, u350, u351, u352, u353, u354, u355, u356, u357, u358, u359, u360, u361, u362, u363, u364, u365, u366, u367, u368, u369, u370, u371, u372, u373, u374, u375, u376, u377, u378, u379, u380, u381, u382, u383, u384, u385, u386, u387, u388, u389, u390, u391, u392, u393, u394, u395, u396, u397, u398, u399, u400, u401, u402, u403, u404, u405, u406, u407, u408, u409, u410, u411], []⟩ w0 := by
  conv => arg 2; whnf
  go_wp2_with fail
  go_loopw [15, 17, 18, 20, 106] (fun _ _ _ _ vv wr => ∃ v : Nat, vv = .int .i64 v ∧ v ≤ n ∧ Hid (BM w wr H n vs (hlists n PS) pl (fun i j => cnt (fun v' => hd i v' && hd j v') v) pv PS.length xs)) (fun _ _ _ _ vv _ => n - (intOf vv).toNat)
  case atStart => exact ⟨0, rfl, Nat.zero_le _, HBM⟩
  case round =>
    clear HBM
    obtain ⟨v, rfl, hv, HBM⟩ := hrel
    by_cases hvn : v < n
    · obtain ⟨hv0, hv0e⟩ : ∃ hv0, vs[v]? = some hv0 := ⟨vs[v]'(by rw [HVL.out]; exact hvn), List.getElem?_eq_getElem _⟩
      obtain ⟨l, hle⟩ : ∃ l, l = hlist PS v := ⟨_, rfl⟩
      have HLE : Hid (l = hlist PS v) := hle
      have hll : l.length ≤ 65792 := by rw [hle]; exact Nat.le_trans (hlist_len PS v) hPL
      have HLs : Hid (Listed l (fun i => decide ((i, v) ∈ PS)) (pl v)) := by rw [hle]; exact HBA.out v hvn
      have ch : wr.cell? ⟨H, v, none⟩ = some hv0 := by rw [cell_of_row wr H v _ _ _ HBM.out.out]; simpa using hv0e
      have HOw : Hid (∀ wz, BM w wz H n vs (hlists n PS) pl (fun _ _ => 0) pv PS.length xs → True) := fun _ _ => trivial
      have HRow : Hid (∀ (wz : World) (sh : Nat → Nat → Nat), BM w wz H n vs (hlists n PS) pl sh pv PS.length xs → wz.ownsRow (H + 4) 3 1 hv0 l.length (ints l)) := fun wz sh hz => by rw [hle]; exact hz.rows.own v hv0 _ hv0e (hlists_get _ hvn)
      obtain ⟨ho, hc, hho⟩ : ∃ ho hc, hv0 = .slice ho l.length hc := by
        rcases (HRow.out wr _ HBM.out).2 with ⟨x, y⟩ | ⟨g, cap, _, x, _⟩
        · exact ⟨none, 0, by rw [x, y]⟩
        · exact ⟨_, cap, x⟩
      subst hho
      have HB0 : Hid (BM w wr H n vs (hlists n PS) pl (shA hd v l 0 0) pv PS.length xs) := HBM.out.congrSh (fun i j => (shA_start hd v l i j).symm)
      clear HBM HOw hle hv0e
      go_wp2
      clear ch
      go_loopw [17, 18, 20, 112] (fun _ _ _ va wr => ∃ a : Nat, va = .int .i64 a ∧ a ≤ l.length ∧ Hid (BM w wr H n vs (hlists n PS) pl (shA hd v l a 0) pv PS.length xs)) (fun _ _ _ va _ => l.length - (intOf va).toNat)
      case atStart => exact ⟨0, rfl, Nat.zero_le _, HB0⟩
      case round =>
        clear HB0
        obtain ⟨a, rfl, ha, HBM⟩ := hrel
        by_cases hal : a < l.length
        · obtain ⟨x, hx⟩ : ∃ x, l[a]? = some x := ⟨_, List.getElem?_eq_getElem hal⟩
          have HX : Hid (l[a]? = some x) := hx
          have hxn : x < n := by
            have := (HLs.out.mem x).1 (List.mem_of_getElem? hx)
            exact (HPin.out x v (by simpa using this)).1
          have hrow := HRow.out wr _ HBM.out
          obtain ⟨hg, rfl, hhc, hgl⟩ : ∃ hg, ho = some ⟨hg, 0, none⟩ ∧ l.length ≤ hc ∧ hg < wr.heap.size := by
            obtain ⟨g, cap, e, h2, _, h4⟩ := own_form' hrow (by omega)
            cases e; exact ⟨g, rfl, h2, h4⟩
          have ca := own_cell hrow (ints_get l hx)
          obtain ⟨ip, hip⟩ : ∃ ip, ip = x * n := ⟨_, rfl⟩
          have HIP : Hid (ip = x * n) := hip
          have hm1 : (x : Int) * (n : Int) = (ip : Int) := by rw [hip]; simp
          have hm2 : ((x : Int) + 1) * (n : Int) = ((ip + n : Nat) : Int) := by rw [Int.add_mul, hm1]; simp
          have hipn : ip + n ≤ nn := by
            rw [hip, HNN.out, ← Nat.succ_mul]; exact Nat.mul_le_mul_right _ hxn
          clear hrow hip hx
          go_wp2
          clear ca hm1 hm2
          go_loopw [20, 127] (fun _ vb wr => ∃ b : Nat, vb = .int .i64 b ∧ b ≤ l.length ∧ Hid (BM w wr H n vs (hlists n PS) pl (shA hd v l a b) pv PS.length xs)) (fun _ vb _ => l.length - (intOf vb).toNat)
          case atStart => exact ⟨0, rfl, Nat.zero_le _, HBM⟩
          case round =>
            clear HBM
            obtain ⟨b', rfl, hb, HBM⟩ := hrel
            by_cases hbl : b' < l.length
            · obtain ⟨y, hy⟩ : ∃ y, l[b']? = some y := ⟨_, List.getElem?_eq_getElem hbl⟩
              have hyn : y < n := by
                have := (HLs.out.mem y).1 (List.mem_of_getElem? hy)
                exact (HPin.out y v (by simpa using this)).1
              have cb := own_cell (HRow.out wr _ HBM.out) (ints_get l hy)
              have hkk : ip + y < n * n := by rw [← HNN.out]; omega
              have cs := HBM.out.shared.cell hkk
              have fs : wr.frozen? ⟨H + 2, ip + y, none⟩ = false := HBM.out.shared.frozen _
              have hdm : (ip + y) / n = x ∧ (ip + y) % n = y := (divmod_at hyn).2 (by rw [HIP.out])
              rw [hdm.1, hdm.2] at cs
              have hle2 := shA_le hd v l a b' x y
              have HNx : Hid (BM w (wr.setCell ⟨H + 2, ip + y, none⟩ (.int .i32 ((shA hd v l a b' x y + 1 : Nat) : Int))) H n vs (hlists n PS) pl (shA hd v l a (b' + 1)) pv PS.length xs) := by
                have := (HBM.out.setShared (a := x) (b := y) hyn (shA hd v l a b' x y + 1)).congrSh (sh' := shA hd v l a (b' + 1)) (fun i j => (shA_in HLs.out.inj HX.out hy i j).symm)
                rw [← HIP.out] at this; exact this
              generalize shA hd v l a b' x y = sv at *
              clear hy hdm hkk
              go_wp2
              go_roundw
              case rel => exact ⟨b' + 1, by go_num, by omega, HNx⟩
              case measure => simp [intOf]; omega
            · go_wp2
              go_roundw
              case rel => exact ⟨a + 1, by go_num, by omega, HBM.out.congrSh (fun i j => shA_next HX.out (by omega) i j)⟩
              case measure => simp [intOf]; omega
        · go_wp2
          go_roundw
          case rel => exact ⟨v + 1, by go_num, by omega, HBM.out.congrSh (fun i j => shA_end (hd := hd) (fun i => by rw [HLs.out.mem i, HHD.out]) (by omega) i j)⟩
          case measure => simp [intOf]; omega
    · obtain rfl : v = n := by omega
      go_wp2
      exact HBM
end Go.Proofs.Qxb6613821aDoor
