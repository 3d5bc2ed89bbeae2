/- shrinkBalls, piece by piece. -/
import Derived.Test.Qxb6613821aDoorRL
namespace Go.Proofs.Qxb6613821aDoor
set_option linter.unusedVariables false
set_option linter.unusedSimpArgs false
open Ieee Go.RowKit

set_option maxHeartbeats 8000000 in
set_option maxRecDepth 1000000 in
theorem C5 {w : World} {H n nn Bb R : Nat} {vb : List Value} {BL : List (List Nat)} {Q : Exit → Act → World → Prop} (HNN : Hid (nn = n * n)) (hnn : nn ≤ 65536) (hn : n ≤ 256) (hBbl : Bb < H) (HHe : Hid (w.heap.size = H)) (HN : Hid (Nest w Bb vb BL)) (HLT : Hid (∀ a, ∀ v ∈ BL.getD a [], v < n)) (HB2 : Hid (∀ a, (BL.getD a []).length ≤ 256)) (HLen : Hid (BL.length = n))
    {wM : World} {h : Nat → Nat → Bool} (hHR : H + 4 ≤ R) (HLowM : Hid (Below H w wM)) (HPl : Hid (∀ a v, a < n → v ∈ BL.getD a [] → ∃ x : Int, wM.cell? ⟨H + 1, v * n + a, none⟩ = some (.int .i64 x) ∧ (0 ≤ x ↔ h a v = true))) {vs0 : List Value} {u0 u2 u3 u4 u6 u8 u9 u10 u11 u12 u13 u14 u15 u16 u17 u18 u19 u20 u21 u22 u23 u24 u25 u26 u27 u28 u29 u30 u31 u32 u33 u34 u35 u36 u38 u39 u40 u41 u42 u43 u44 u45 u46 u47 u48 u49 u50 u51 u52 u53 u54 u55 u56 u57 u58 u59 u60 u61 u62 u63 u64 u65 u66 u67 u68 u69 u70 u71 u72 u73 u74 u75 u76 u77 u78 u79 u80 u81 u82 u83 u84 u85 u86 u87 u88 u89 u90 u91 u92 u93 u94 u95 u96 u97 u98 u99 u100 u101 u102 u103 u104 u105 u106 u107 u108 u109 u110 u111 u112 u113 u114 u115 u116 u117 u118 u119 u120 u121 u122 u123 u124 u125 u126 u127 u128 u129 u130 u131 u132 u133 u134 u135 u136 u137 u138 u139 u140 u141 u142 u143 u144 u145 u146 u147 u148 u149 u150 u151 u152 u153 u154 u155 u156 u157 u158 u159 u160 u161 u162 u163 u164 u165 u166 u167 u168 u169 u170 u171 u172 u173 u174 u175 u176 u177 u178 u179 u180 u181 u182 u183 u184 u185 u186 u187 u188 u189 u190 u191 u192 u193 u194 u195 u196 u197 u198 u199 u200 u201 u202 u203 u204 u205 u206 u207 u208 u209 u210 u211 u212 u213 u214 u215 u216 u217 u218 u219 u220 u221 u222 u223 u224 u225 u226 u227 u228 u229 u230 u231 u232 u233 u234 u235 u236 u237 u238 u239 u240 u241 u242 u243 u244 u245 u246 u247 u248 u249 u250 u251 u252 u253 u254 u255 u256 u257 u258 u259 u260 u261 u262 u263 u264 u265 u266 u267 u268 u269 u270 u271 u272 u273 u274 u275 u276 u277 u278 u279 u280 u281 u282 u283 u284 u285 u286 u287 u288 u289 u290 u291 u292 u293 u294 u295 u296 u297 u298 u299 u300 u301 u302 u303 u304 u305 u306 u307 u308 u309 u310 u311 u312 u313 u314 u315 u316 u317 u318 u319 u320 u321 u322 u323 u324 u325 u326 u327 u328 u329 u330 u331 u332 u333 u334 u335 u336 u337 u338 u339 u340 u341 u342 u343 u344 u345 u346 u347 u348 u349 u350 u351 u352 u353 u354 u355 u356 u357 u358 u359 u360 u361 u362 u363 u364 u365 u366 u367 u368 u369 u370 u371 u372 u373 u374 u375 u376 u380 u381 u382 u383 u384 u385 u386 u387 u388 u389 u390 u391 u392 u393 u394 u395 u396 u397 u398 u399 u400 u401 u402 u403 u404 u405 u406 u407 u408 u409 u410 u411 : Value} (w0 : World) (HB0 : Hid (Below R wM w0)) (HN0 : Hid (Nest w0 R vs0 (RL BL h n 0 0)))
    (hQ : ∀ (x38 x39 x41 x379 x380 x381 x382 x383 x384 x385 x386 x387 x388 x389 x390 x391 x392 x393 x394 x395 x396 x397 x398 x399 x400 x401 x402 x403 x404 x405 x406 x407 x408 x409 x410 : Value) (wz : World), (Hid (Below R wM wz) ∧ Hid (∃ vs, Nest wz R vs (leftOf BL h n))) → Q .normal ⟨#[u0, .slice (some ⟨Bb, 0, none⟩) n n, u2, u3, u4, .int .i64 (n : Int), u6, .slice (some ⟨H + 1, 0, none⟩) nn nn, u8, u9, u10, u11, u12, u13, u14, u15, u16, u17, u18, u19, u20, u21, u22, u23, u24, u25, u26, u27, u28, u29, u30, u31, u32, u33, u34, u35, u36, .slice (some ⟨R, 0, none⟩) n n, x38, x39, u40, x41, u42, u43, u44, u45, u46, u47, u48, u49, u50, u51, u52, u53, u54, u55, u56, u57, u58, u59, u60, u61, u62, u63, u64, u65, u66, u67, u68, u69, u70, u71, u72, u73, u74, u75, u76, u77, u78, u79, u80, u81, u82, u83, u84, u85, u86, u87, u88, u89, u90, u91, u92, u93, u94, u95, u96, u97, u98, u99, u100, u101, u102, u103, u104, u105, u106, u107, u108, u109, u110, u111, u112, u113, u114, u115, u116, u117, u118, u119, u120, u121, u122, u123, u124, u125, u126, u127, u128, u129, u130, u131, u132, u133, u134, u135, u136, u137, u138, u139, u140, u141, u142, u143, u144, u145, u146, u147, u148, u149, u150, u151, u152, u153, u154, u155, u156, u157, u158, u159, u160, u161, u162, u163, u164, u165, u166, u167, u168, u169, u170, u171, u172, u173, u174, u175, u176, u177, u178, u179, u180, u181, u182, u183, u184, u185, u186, u187, u188, u189, u190, u191, u192, u193, u194, u195, u196, u197, u198, u199, u200, u201, u202, u203, u204, u205, u206, u207, u208, u209, u210, u211, u212, u213, u214, u215, u216, u217, u218, u219, u220, u221, u222, u223, u224, u225, u226, u227, u228, u229, u230, u231, u232, u233, u234, u235, u236, u237, u238, u239, u240, u241, u242, u243, u244, u245, u246, u247, u248, u249, u250, u251, u252, u253, u254, u255, u256, u257, u258, u259, u260, u261, u262, u263, u264, u265, u266, u267, u268, u269, u270, u271, u272, u273, u274, u275, u276, u277, u278, u279, u280, u281, u282, u283, u284, u285, u286, u287, u288, u289, u290, u291, u292, u293, u294, u295, u296, u297, u298, u299, u300, u301, u302, u303, u304, u305, u306, u307, u308, u309, u310, u311, u312, u313, u314, u315, u316, u317, u318, u319, u320, u321, u322, u323, u324, u325, u326, u327, u328, u329, u330, u331, u332, u333, u334, u335, u336, u337, u338, u339, u340, u341, u342, u343, u344, u345, u346, u347, u348, u349, u350, u351, u352, u353, u354, u355, u356, u357, u358, u359, u360, u361, u362, u363, u364, u365, u366, u367, u368, u369, u370, u371, u372, u373, u374, u375, u376, .slice (some ⟨Bb, 0, none⟩) n n, .int .i64 (n : Int), x379, x380, x381, x382, x383, x384, x385, x386, x387, x388, x389, x390, x391, x392, x393, x394, x395, x396, x397, x398, x399, x400, x401, x402, x403, x404, x405, x406, x407, x408, x409, x410, u411], []⟩ wz) :
    Code.wp Tryd.prog (B17 Tryd.f17 24) Q ⟨#[u0, .slice (some ⟨Bb, 0, none⟩) n n, u2, u3, u4, .int .i64 (n : Int), u6, .slice (some ⟨H + 1, 0, none⟩) nn nn, u8, u9, u10, u11, u12, u13, u14, u15, u16, u17, u18, u19, u20, u21, u22, u23, u24, u25, u26, u27, u28, u29, u30, u31, u32, u33, u34, u35, u36, .slice (some ⟨R, 0, none⟩) n n, u38, u39, u40, u41, u42, u43, u44, u45, u46, u47, u48, u49, u50, u51, u52, u53, u54, u55, u56, u57, u58, u59, u60, u61, u62, u63, u64, u65, u66, u67, u68, u69, u70, u71, u72, u73, u74, u75, u76, u77, u78, u79, u80, u81, u82, u83, u84, u85, u86, u87, u88, u89, u90, u91, u92, u93, u94, u95, u96, u97, u98, u99, u100, u101, u102, u103, u104, u105, u106, u107, u108, u109, u110, u111, u112, u113, u114, u115, u116, u117, u118, u119, u120, u121, u122, u123, u124, u125, u126, u127, u128, u129, u130, u131, u132, u133, u134, u135, u136, u137, u138, u139, u140, u141, u142, u143, u144, u145, u146, u147, u148, u149, u150, u151, u152, u153, u154, u155, u156, u157, u158, u159, u160, u161, u162, u163, u164, u165, u166, u167, u168, u169, u170, u171, u172, u173, u174, u175, u176, u177, u178, u179, u180, u181, u182, u183, u184, u185, u186, u187, u188, u189, u190, u191, u192, u193, u194, u195, u196, u197, u198, u199, u200, u201, u202, u203, u204, u205, u206, u207, u208, u209, u210, u211, u212, u213, u214, u215, u216, u217, u218, u219, u220, u221, u222, u223, u224, u225, u226, u227, u228, u229, u230, u231, u232, u233, u234, u235, u236, u237, u238, u239, u240, u241, u242, u243, u244, u245, u246, u247, u248, u249, u250, u251, u252, u253, u254, u255, u256, u257, u258, u259, u260, u261, u262, u263, u264, u265, u266, u267, u268, u269, u270, u271, u272, u273, u274, u275, u276, u277, u278, u279, u280, u281, u282, u283, u284, u285, u286, u287, u288, u289, u290, u291, u292, u293, u294, u295, u296, u297, u298, u299, u300, u301, u302, u303, u304, u305, u306, u307, u308, u309, u310, u311, u312, u313, u314, u315, u316, u317, u318, u319, u320, u321, u322, u323, u324, u325, u326, u327, u328, u329, u330, u331, u332, u333, u334, u335, u336, u337, u338, u339, u340, u341, u342, u343, u344, u345, u346, u347, u348, u349, u350, u351, u352, u353, u354, u355, u356, u357, u358, u359, u360, u361, u362, u363, u364, u365, u366, u367, u368, u369, u370, u371, u372, u373, u374, u375, u376, .slice (some ⟨Bb, 0, none⟩) n n, .int .i64 (n : Int), .int .i64 0, u380, u381, u382, u383, u384, u385, u386, u387, u388, u389, u390, u391, u392, u393, u394, u395, u396, u397, u398, u399, u400, u401, u402, u403, u404, u405, u406, u407, u408, u409, u410, u411], []⟩ w0 := by
  conv => arg 2; whnf
  go_wp2_with fail
  go_loopw [38, 39, 41, 379] (fun _ _ _ vi wr => ∃ (i : Nat) (vs : List Value), vi = .int .i64 i ∧ i ≤ n ∧ Hid (Below R wM wr) ∧ Hid (Nest wr R vs (RL BL h n i 0))) (fun _ _ _ vi _ => n - (intOf vi).toNat)
  case atStart => exact ⟨0, _, rfl, Nat.zero_le _, HB0, HN0⟩
  case round =>
    clear HB0 HN0
    obtain ⟨i, vs, rfl, hi, HB, HNr⟩ := hrel
    by_cases hlt : i < n
    · obtain ⟨bl, hble⟩ : ∃ bl, bl = BL.getD i [] := ⟨_, rfl⟩
      have HBL : Hid (bl = BL.getD i []) := hble
      obtain ⟨bv, hbv⟩ : ∃ bv, vb[i]? = some bv := ⟨vb[i]'(by rw [HN.out.rows.len, HLen.out]; exact hlt), List.getElem?_eq_getElem _⟩
      have hBi : BL[i]? = some bl := by rw [hble, List.getD_eq_getElem?_getD, List.getElem?_eq_getElem (by rw [HLen.out]; exact hlt)]; rfl
      have hown := HN.out.rows.own i bv _ hbv hBi
      have HLow : Hid (∀ wz, Below R wM wz → Below H w wz) := fun wz hz => HLowM.out.trans (hz.mono (by omega))
      have cb := ((HLow.out wr HB.out).cell (p := ⟨Bb, i, none⟩) hBbl).trans ((HN.out.cell i).trans hbv)
      have hl256 : bl.length ≤ 256 := by rw [hble]; exact HB2.out i
      have HBI : Hid (w.ownsRow (Bb + 1) 3 1 bv bl.length (ints bl)) := hown
      obtain ⟨bo, bc, rfl⟩ : ∃ bo bc, bv = .slice bo bl.length bc := by
        rcases hown.2 with ⟨x, y⟩ | ⟨g, cap, _, x, _⟩
        · exact ⟨none, 0, by rw [x, y]⟩
        · exact ⟨_, cap, x⟩
      clear hbv hBi hown hble
      go_wp2
      clear cb
      go_loopw [41, 386] (fun _ vt wr => ∃ (t : Nat) (vs : List Value), vt = .int .i64 t ∧ t ≤ bl.length ∧ Hid (Below R wM wr) ∧ Hid (Nest wr R vs (RL BL h n i t))) (fun _ vt _ => bl.length - (intOf vt).toNat)
      case atStart => exact ⟨0, vs, rfl, Nat.zero_le _, HB, HNr⟩
      case round =>
        clear HB HNr
        obtain ⟨t, vs, rfl, ht, HB, HNr⟩ := hrel
        by_cases htl : t < bl.length
        · obtain ⟨v, hv⟩ : ∃ v, bl[t]? = some v := ⟨_, List.getElem?_eq_getElem htl⟩
          have hv2 : (BL.getD i [])[t]? = some v := by rw [← HBL.out]; exact hv
          have HV2 : Hid ((BL.getD i [])[t]? = some v) := hv2
          have hvm := List.mem_of_getElem? hv2
          have hvn := HLT.out i v hvm
          obtain ⟨bg, rfl, hbc, hbg⟩ : ∃ bg, bo = some ⟨bg, 0, none⟩ ∧ bl.length ≤ bc ∧ bg < w.heap.size := by
            obtain ⟨g, cap, e, h2, _, h4⟩ := own_form' HBI.out (by omega)
            cases e; exact ⟨g, rfl, h2, h4⟩
          have cv := ((HLow.out wr HB.out).cell (p := ⟨bg, t, none⟩) (show bg < H from by have := HHe.out; omega)).trans (own_cell HBI.out (ints_get _ hv))
          obtain ⟨x, hx, hxh⟩ := HPl.out i v hlt hvm
          have cp := (HB.out.cell (p := ⟨H + 1, v * n + i, none⟩) (show H + 1 < R from by omega)).trans hx
          obtain ⟨vp, hvp⟩ : ∃ vp, vp = v * n := ⟨_, rfl⟩
          have hvpn : vp + n ≤ nn := by rw [hvp, HNN.out, ← Nat.succ_mul]; exact Nat.mul_le_mul_right _ hvn
          have hvm2 : (v : Int) * (n : Int) = (vp : Int) := by rw [hvp]; simp
          have hidx : vp + i < nn := by omega
          rw [← hvp] at cp
          clear hv hv2 hvm hx hvp
          cases hh : h i v with
          | false =>
            have hx0 : ¬ 0 ≤ x := fun hc => by rw [hxh.1 hc] at hh; cases hh
            have HE : Hid (RL BL h n i (t + 1) = RL BL h n i t) := RL_no HV2.out hh
            clear hh hxh
            go_wp2
            go_roundw
            case rel => exact ⟨t + 1, vs, by go_num, by omega, HB, by show Nest _ _ _ _; rw [HE.out]; exact HNr.out⟩
            case measure => simp [intOf]; omega
          | true =>
            have hx0 : 0 ≤ x := hxh.2 hh
            have HE : Hid (RL BL h n i (t + 1) = (RL BL h n i t).set i (((BL.getD i []).take t).filter (h i) ++ [v])) := RL_yes hlt HV2.out hh
            obtain ⟨l, hle⟩ : ∃ l, l = ((BL.getD i []).take t).filter (h i) := ⟨_, rfl⟩
            have HLe : Hid (l = ((BL.getD i []).take t).filter (h i)) := hle
            obtain ⟨rv, hrv⟩ : ∃ rv, vs[i]? = some rv := ⟨vs[i]'(by rw [HNr.out.rows.len, RL_len]; exact hlt), List.getElem?_eq_getElem _⟩
            have hown := HNr.out.rows.own i rv l hrv (by rw [RL_at hlt, hle])
            have hlen : l.length ≤ 256 := by
              rw [hle]
              refine Nat.le_trans (List.length_filter_le _ _) ?_
              rw [List.length_take]
              have := HB2.out i; omega
            have hul : i < vs.length := (List.getElem?_eq_some_iff.1 hrv).1
            have hcell := HNr.out.cell i
            rw [hrv] at hcell
            have hRl : R < wr.heap.size := HNr.out.lt
            have HV : Hid (vs[i]? = some rv) := hrv
            have HO : Hid (wr.ownsRow (R + 1) 3 1 rv l.length (ints l)) := hown
            clear hh hxh hle hrv hown
            go_wp2_with (
              at_builtin
              refine wpList_append_int rfl _ _ rfl (R + 1) rv l rfl (HO.out.alloc _) _ _ v rfl (by simp) (by omega) (by simp; omega) ?_
              intro g' c' w2 hown' hg' hw'
              have hne : some R ≠ rv.ownBlock := by
                intro e
                exact absurd (HO.out.lt _ e.symm).1 (by omega)
              have hc2 : w2.cell? ⟨R, i, none⟩ = some rv := hg'.cell (by rw [World.cell?_alloc_lt _ _ _ hRl]; exact hcell) hne
              have hout2 : w2.heap[R]? = some (.cells vs.toArray 29 (0, 0)) := (hg'.block _ (by simp; omega) hne).trans ((Below.heap_alloc wr _ _ hRl).trans HNr.out.out)
              have hf2 : w2.frozen? ⟨R, i, none⟩ = false := frozen_of_row w2 _ i _ _ hout2
              have HR2 : Hid (RowsOf w2 (R + 1) (vs.set i (.slice (some ⟨g', 0, none⟩) (l.length + 1) c')) ((RL BL h n i t).set i (l ++ [v]))) :=
                (HNr.out.rows.keep ((Below.refl _ _).alloc (Nat.le_refl _) _)).appended HV.out hown' hg' (by simpa [Value.ownBlock] using hw')
              have HB2' : Hid (Below R wM w2) := (HB.out.trans ((Below.refl _ _).alloc (by omega) _)).trans (Below.of_grown hg' (fun k hk => by have := (HO.out.lt k hk).1; omega) (by simp; omega))
              have HOut2 : Hid (w2.heap[R]? = some (.cells vs.toArray 29 (0, 0))) := hout2
              clear hown' hg' hw' hne hout2)
            go_roundw
            case rel => exact ⟨t + 1, _, by go_num, by omega, HB2'.out.setCell (Nat.le_refl _) _, by show Nest _ _ _ _; rw [HE.out, ← HLe.out]; exact Nest.stored HOut2.out hul HR2.out⟩
            case measure => simp [intOf]; omega
        · have HE : Hid (RL BL h n i t = RL BL h n (i + 1) 0) := RL_next (by rw [← HBL.out]; omega)
          go_wp2
          go_roundw
          case rel => exact ⟨i + 1, vs, by go_num, by omega, HB, by show Nest _ _ _ _; rw [← HE.out]; exact HNr.out⟩
          case measure => simp [intOf]; omega
    · obtain rfl : i = n := by omega
      have HE : Hid (∃ vs, Nest wr R vs (leftOf BL h i)) := ⟨vs, by rw [← RL_end]; exact HNr.out⟩
      go_wp2
      exact ⟨HB, HE⟩
end Go.Proofs.Qxb6613821aDoor
