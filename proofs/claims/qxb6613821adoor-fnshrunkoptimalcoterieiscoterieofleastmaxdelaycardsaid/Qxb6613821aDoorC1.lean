/- shrinkBalls, piece by piece. -/
import Derived.Test.Qxb6613821aDoorL9
import Derived.Test.Qxb6613821aDoorG1
namespace Go.Proofs.Qxb6613821aDoor
set_option linter.unusedVariables false
set_option linter.unusedSimpArgs false
open Ieee Go.RowKit

set_option maxHeartbeats 8000000 in
set_option maxRecDepth 1000000 in
theorem C1 {w : World} {H n nn Bb : Nat} {vb : List Value} {BL : List (List Nat)} {K : Act → World → Prop} {R : Ending → World → Prop} (HNN : Hid (nn = n * n)) (hnn : nn ≤ 65536) (hn0 : 0 < n) (hn : n ≤ 256) (hBbl : Bb < H) (HHe : Hid (w.heap.size = H)) (HN : Hid (Nest w Bb vb BL)) (HND : Hid (∀ a, (BL.getD a []).Nodup)) (HLT : Hid (∀ a, ∀ v ∈ BL.getD a [], v < n)) (HB2 : Hid (∀ a, (BL.getD a []).length ≤ 256)) (HLen : Hid (BL.length = n))
    {b o cap : Nat} {rb ro rc : Nat → Nat} {D : Nat → Nat → Nat} (HM : Hid (MatAt w b o n rb ro rc D)) {u2 u3 u4 u10 u11 u12 u13 u14 u15 u16 u17 u18 u19 u20 u21 u22 u23 u24 u25 u26 u27 u28 u29 u30 u31 u32 u33 u34 u35 u36 u37 u38 u39 u40 u41 u42 u43 u44 u45 u46 u47 u48 u49 u50 u51 u52 u53 u57 u58 u59 u60 u61 u62 u63 u64 u65 u66 u67 u68 u69 u70 u71 u72 u73 u74 u75 u76 u77 u78 u79 u80 u81 u82 u83 u84 u85 u86 u87 u88 u89 u90 u91 u92 u93 u94 u95 u96 u97 u98 u99 u100 u101 u102 u103 u104 u105 u106 u107 u108 u109 u110 u111 u112 u113 u114 u115 u116 u117 u118 u119 u120 u121 u122 u123 u124 u125 u126 u127 u128 u129 u130 u131 u132 u133 u134 u135 u136 u137 u138 u139 u140 u141 u142 u143 u144 u145 u146 u147 u148 u149 u150 u151 u152 u153 u154 u155 u156 u157 u158 u159 u160 u161 u162 u163 u164 u165 u166 u167 u168 u169 u170 u171 u172 u173 u174 u175 u176 u177 u178 u179 u180 u181 u182 u183 u184 u185 u186 u187 u188 u189 u190 u191 u192 u193 u194 u195 u196 u197 u198 u199 u200 u201 u202 u203 u204 u205 u206 u207 u208 u209 u210 u211 u212 u213 u214 u215 u216 u217 u218 u219 u220 u221 u222 u223 u224 u225 u226 u227 u228 u229 u230 u231 u232 u233 u234 u235 u236 u237 u238 u239 u240 u241 u242 u243 u244 u245 u246 u247 u248 u249 u250 u251 u252 u253 u254 u255 u256 u257 u258 u259 u260 u261 u262 u263 u264 u265 u266 u267 u268 u269 u270 u271 u272 u273 u274 u275 u276 u277 u278 u279 u280 u281 u282 u283 u284 u285 u286 u287 u288 u289 u290 u291 u292 u293 u294 u295 u296 u297 u298 u299 u300 u301 u302 u303 u304 u305 u306 u307 u308 u309 u310 u311 u312 u313 u314 u315 u316 u317 u318 u319 u320 u321 u322 u323 u324 u325 u326 u327 u328 u329 u330 u331 u332 u333 u334 u335 u336 u337 u338 u339 u340 u341 u342 u343 u344 u345 u346 u347 u348 u349 u350 u351 u352 u353 u354 u355 u356 u357 u358 u359 u360 u361 u362 u363 u364 u365 u366 u367 u368 u369 u370 u371 u372 u373 u374 u375 u376 u377 u378 u379 u380 u381 u382 u383 u384 u385 u386 u387 u388 u389 u390 u391 u392 u393 u394 u395 u396 u397 u398 u399 u400 u401 u402 u403 u404 u405 u406 u407 u408 u409 u410 u411 : Value} (w0 : World) (HG0 : Hid (G1 w w0 H n BL D 0 0))
    (hQ : ∀ (x10 x11 x13 x56 x57 x58 x59 x60 x61 x62 x63 x64 x65 x66 x67 x68 x69 x70 x71 x72 x73 x74 x75 x76 x77 x78 x79 x80 x81 x82 x83 x84 x85 x86 x87 x88 x89 x90 x91 x92 x93 x94 x95 x96 x97 x98 x99 x100 x101 x102 x103 : Value) (wz : World), Hid (G1 w wz H n BL D n 0) → K ⟨#[.slice (some ⟨b, o, none⟩) n cap, .slice (some ⟨Bb, 0, none⟩) n n, u2, u3, u4, .int .i64 (n : Int), .slice (some ⟨H, 0, none⟩) n n, .slice (some ⟨H + 1, 0, none⟩) nn nn, .slice (some ⟨H + 2, 0, none⟩) nn nn, .pointer (some ⟨H + 3, 0, none⟩), x10, x11, u12, x13, u14, u15, u16, u17, u18, u19, u20, u21, u22, u23, u24, u25, u26, u27, u28, u29, u30, u31, u32, u33, u34, u35, u36, u37, u38, u39, u40, u41, u42, u43, u44, u45, u46, u47, u48, u49, u50, u51, u52, u53, .slice (some ⟨Bb, 0, none⟩) n n, .int .i64 (n : Int), x56, x57, x58, x59, x60, x61, x62, x63, x64, x65, x66, x67, x68, x69, x70, x71, x72, x73, x74, x75, x76, x77, x78, x79, x80, x81, x82, x83, x84, x85, x86, x87, x88, x89, x90, x91, x92, x93, x94, x95, x96, x97, x98, x99, x100, x101, x102, x103, u104, u105, u106, u107, u108, u109, u110, u111, u112, u113, u114, u115, u116, u117, u118, u119, u120, u121, u122, u123, u124, u125, u126, u127, u128, u129, u130, u131, u132, u133, u134, u135, u136, u137, u138, u139, u140, u141, u142, u143, u144, u145, u146, u147, u148, u149, u150, u151, u152, u153, u154, u155, u156, u157, u158, u159, u160, u161, u162, u163, u164, u165, u166, u167, u168, u169, u170, u171, u172, u173, u174, u175, u176, u177, u178, u179, u180, u181, u182, u183, u184, u185, u186, u187, u188, u189, u190, u191, u192, u193, u194, u195, u196, u197, u198, u199, u200, u201, u202, u203, u204, u205, u206, u207, u208, u209, u210, u211, u212, u213, u214, u215, u216, u217, u218, u219, u220, u221, u222, u223, u224, u225, u226, u227, u228, u229, u230, u231, u232, u233, u234, u235, u236, u237, u238, u239, u240, u241, u242, u243, u244, u245, u246, u247, u248, u249, u250, u251, u252, u253, u254, u255, u256, u257, u258, u259, u260, u261, u262, u263, u264, u265, u266, u267, u268, u269, u270, u271, u272, u273, u274, u275, u276, u277, u278, u279, u280, u281, u282, u283, u284, u285, u286, u287, u288, u289, u290, u291, u292, u293, u294, u295, u296, u297, u298, u299, u300, u301, u302, u303, u304, u305, u306, u307, u308, u309, u310, u311, u312, u313, u314, u315, u316, u317, u318, u319, u320, u321, u322, u323, u324, u325, u326, u327, u328, u329, u330, u331, u332, u333, u334, u335, u336, u337, u338, u339, u340, u341, u342, u343, u344, u345, u346, u347, u348, u349, u350, u351, u352, u353, u354, u355, u356, u357, u358, u359, u360, u361, u362, u363, u364, u365, u366, u367, u368, u369, u370, u371, u372, u373, u374, u375, u376, u377, u378, u379, u380, u381, u382, u383, u384, u385, u386, u387, u388, u389, u390, u391, u392, u393, u394, u395, u396, u397, u398, u399, u400, u401, u402, u403, u404, u405, u406, u407, u408, u409, u410, u411], []⟩ wz) :
    Code.wp Tryd.prog (B17 Tryd.f17 0) (Exit.then K (bodyPost Tryd.prog Tryd.f17 R)) ⟨#[.slice (some ⟨b, o, none⟩) n cap, .slice (some ⟨Bb, 0, none⟩) n n, u2, u3, u4, .int .i64 (n : Int), .slice (some ⟨H, 0, none⟩) n n, .slice (some ⟨H + 1, 0, none⟩) nn nn, .slice (some ⟨H + 2, 0, none⟩) nn nn, .pointer (some ⟨H + 3, 0, none⟩), u10, u11, u12, u13, u14, u15, u16, u17, u18, u19, u20, u21, u22, u23, u24, u25, u26, u27, u28, u29, u30, u31, u32, u33, u34, u35, u36, u37, u38, u39, u40, u41, u42, u43, u44, u45, u46, u47, u48, u49, u50, u51, u52, u53, .slice (some ⟨Bb, 0, none⟩) n n, .int .i64 (n : Int), .int .i64 0, u57, u58, u59, u60, u61, u62, u63, u64, u65, u66, u67, u68, u69, u70, u71, u72, u73, u74, u75, u76, u77, u78, u79, u80, u81, u82, u83, u84, u85, u86, u87, u88, u89, u90, u91, u92, u93, u94, u95, u96, u97, u98, u99, u100, u101, u102, u103, u104, u105, u106, u107, u108, u109, u110, u111, u112, u113, u114, u115, u116, u117, u118, u119, u120, u121, u122, u123, u124, u125, u126, u127, u128, u129, u130, u131, u132, u133, u134, u135, u136, u137, u138, u139, u140, u141, u142, u143, u144, u145, u146, u147, u148, u149, u150, u151, u152, u153, u154, u155, u156, u157, u158, u159, u160, u161, u162, u163, u164, u165, u166, u167, u168, u169, u170, u171, u172, u173, u174, u175, u176, u177, u178, u179, u180, u181, u182, u183, u184, u185, u186, u187, u188, u189, u190, u191, u192, u193, u194, u195, u196, u197, u198, u199, u200, u201, u202, u203, u204, u205, u206, u207, u208, u209, u210, u211, u212, u213, u214, u215, u216, u217, u218, u219, u220, u221, u222, u223, u224, u225, u226, u227, u228, u229, u230, u231, u232, u233, u234, u235, u236, u237, u238, u239, u240, u241, u242, u243, u244, u245, u246, u247, u248, u249, u250, u251, u252, u253, u254, u255, u256, u257, u258, u259, u260, u261, u262, u263, u264, u265, u266, u267, u268, u269, u270, u271, u272, u273, u274, u275, u276, u277, u278, u279, u280, u281, u282, u283, u284, u285, u286, u287, u288, u289, u290, u291, u292, u293, u294, u295, u296, u297, u298, u299, u300, u301, u302, u303, u304, u305, u306, u307, u308, u309, u310, u311, u312, u313, u314, u315, u316, u317, u318, u319, u320, u321, u322, u323, u324, u325, u326, u327, u328, u329, u330, u331, u332, u333, u334, u335, u336, u337, u338, u339, u340, u341, u342, u343, u344, u345, u346, u347, u348, u349, u350, u351, u352, u353, u354, u355, u356, u357, u358, u359, u360, u361, u362, u363, u364, u365, u366, u367, u368, u369, u370, u371, u372, u373, u374, u375, u376, u377, u378, u379, u380, u381, u382, u383, u384, u385, u386, u387, u388, u389, u390, u391, u392, u393, u394, u395, u396, u397, u398, u399, u400, u401, u402, u403, u404, u405, u406, u407, u408, u409, u410, u411], []⟩ w0 := by
  conv => arg 2; whnf
  go_wp2_with fail
  go_loopw [10, 11, 13, 56] (fun _ _ _ vi wr => ∃ i : Nat, vi = .int .i64 i ∧ i ≤ n ∧ Hid (G1 w wr H n BL D i 0)) (fun _ _ _ vi _ => n - (intOf vi).toNat)
  case atStart => exact ⟨0, rfl, Nat.zero_le _, HG0⟩
  case round =>
    clear HG0
    obtain ⟨i, rfl, hi, HG⟩ := hrel
    by_cases hlt : i < n
    · obtain ⟨vs0, pl0, pv0, hbm0, _⟩ := HG.out.ex
      obtain ⟨bl, hble⟩ : ∃ bl, bl = BL.getD i [] := ⟨_, rfl⟩
      have HBL : Hid (bl = BL.getD i []) := hble
      obtain ⟨bv, hbv⟩ : ∃ bv, vb[i]? = some bv := ⟨vb[i]'(by rw [HN.out.rows.len, HLen.out]; exact hlt), List.getElem?_eq_getElem _⟩
      have hBi : BL[i]? = some bl := by rw [hble, List.getD_eq_getElem?_getD, List.getElem?_eq_getElem (by rw [HLen.out]; exact hlt)]; rfl
      have hown := HN.out.rows.own i bv _ hbv hBi
      have cb := (hbm0.low.cell (p := ⟨Bb, i, none⟩) hBbl).trans ((HN.out.cell i).trans hbv)
      have hl256 : bl.length ≤ 256 := by rw [hble]; exact HB2.out i
      have HBI : Hid (w.ownsRow (Bb + 1) 3 1 bv bl.length (ints bl)) := hown
      obtain ⟨bo, bc, rfl⟩ : ∃ bo bc, bv = .slice bo bl.length bc := by
        rcases hown.2 with ⟨x, y⟩ | ⟨g, cap, _, x, _⟩
        · exact ⟨none, 0, by rw [x, y]⟩
        · exact ⟨_, cap, x⟩
      clear hbm0 hbv hBi hown hble
      go_wp2
      clear cb
      go_loopw [13, 63] (fun _ vt wr => ∃ t : Nat, vt = .int .i64 t ∧ t ≤ bl.length ∧ Hid (G1 w wr H n BL D i t)) (fun _ vt _ => bl.length - (intOf vt).toNat)
      case atStart => exact ⟨0, rfl, Nat.zero_le _, HG⟩
      case round =>
        clear HG
        obtain ⟨t, rfl, ht, HG⟩ := hrel
        by_cases htl : t < bl.length
        · obtain ⟨v, hv⟩ : ∃ v, bl[t]? = some v := ⟨_, List.getElem?_eq_getElem htl⟩
          have hv2 : (BL.getD i [])[t]? = some v := by rw [← HBL.out]; exact hv
          obtain ⟨vs, pl, pv, hbm, hba⟩ := HG.out.ex
          have hvn := HLT.out i v (List.mem_of_getElem? hv2)
          have HFl : Hid (flat BL i (t + 1) = flat BL i t ++ [(i, v)]) := flat_step hv2
          have HFr : Hid ((i, v) ∉ flat BL i t) := flat_fresh (HND.out i) hv2
          have hPL : (flat BL i t).length ≤ 65536 := Nat.le_trans (flat_len HB2.out i t) (by omega)
          obtain ⟨bg, rfl, hbc, hbg⟩ : ∃ bg, bo = some ⟨bg, 0, none⟩ ∧ bl.length ≤ bc ∧ bg < w.heap.size := by
            obtain ⟨g, cap, e, h2, _, h4⟩ := own_form' HBI.out (by omega)
            cases e; exact ⟨g, rfl, h2, h4⟩
          have cv := (hbm.low.cell (p := ⟨bg, t, none⟩) (show bg < H from by have := HHe.out; omega)).trans (own_cell HBI.out (ints_get _ hv))
          obtain ⟨PS, hPS⟩ : ∃ PS, PS = flat BL i t := ⟨_, rfl⟩
          have HPS : Hid (PS = flat BL i t) := hPS
          rw [← hPS] at hbm hba HFl HFr hPL
          -- the row of v's holders
          obtain ⟨hl, hhl⟩ : ∃ hl, hl = hlist PS v := ⟨_, rfl⟩
          have HHL : Hid (hl = hlist PS v) := hhl
          obtain ⟨hv0, hv0e⟩ : ∃ hv0, vs[v]? = some hv0 := ⟨vs[v]'(by rw [hbm.rows.len, hlists_len]; exact hvn), List.getElem?_eq_getElem _⟩
          have hrow := hbm.rows.own v hv0 _ hv0e (hlists_get _ hvn)
          have hll := Nat.le_trans (hlist_len PS v) hPL
          rw [← hhl] at hrow hll
          have ch : wr.cell? ⟨H, v, none⟩ = some hv0 := by rw [cell_of_row wr H v _ _ _ hbm.out]; simpa using hv0e
          have fzh : wr.frozen? ⟨H, v, none⟩ = false := frozen_of_row wr H v _ _ hbm.out
          obtain ⟨ho, hc, hho⟩ : ∃ ho hc, hv0 = .slice ho hl.length hc := by
            rcases hrow.2 with ⟨x, y⟩ | ⟨g, cap, _, x, _⟩
            · exact ⟨none, 0, by rw [x, y]⟩
            · exact ⟨_, cap, x⟩
          subst hho
          have hp : v * n + i < n * n := by
            have : (v + 1) * n ≤ n * n := Nat.mul_le_mul_right _ hvn
            rw [Nat.add_mul] at this; omega
          have cp := hbm.place.cell hp
          have fzp : wr.frozen? ⟨H + 1, v * n + i, none⟩ = false := hbm.place.frozen _
          have hmulv : (v : Int) * (n : Int) = ((v * n : Nat) : Int) := by simp
          have hpn : (v * n : Nat) + i < nn := by rw [HNN.out]; exact hp
          have HBM1 : Hid (BM w (wr.setCell ⟨H + 1, v * n + i, none⟩ (.int .i64 (hl.length : Int))) H n vs (hlists n PS) (upd pl v i (hl.length : Int)) (fun _ _ => 0) pv PS.length (pcells D PS)) := hbm.setPlace hlt _
          have HBA1 : Hid (BA n (PS ++ [(i, v)]) (upd pl v i (hl.length : Int))) := by rw [hhl]; exact hba.step HFr.out
          have HVE : Hid (vs[v]? = some (.slice ho hl.length hc)) := hv0e
          have HRw : Hid ((wr.setCell ⟨H + 1, v * n + i, none⟩ (.int .i64 (hl.length : Int))).ownsRow (H + 4) 3 1 (.slice ho hl.length hc) hl.length (ints hl)) := by
            have := HBM1.out.rows.own v _ _ hv0e (hlists_get _ hvn)
            rw [← hhl] at this; exact this
          have hszr := hbm.size
          have hwrH : H < wr.heap.size := by omega
          obtain ⟨pq, hpq⟩ : ∃ pq, pq = v * n := ⟨_, rfl⟩
          rw [← hpq] at cp fzp hmulv hpn HBM1 HRw
          clear hpq hv hv2 hbm hba hrow hv0e hp hhl hPS
          go_upto_region 13 with fail
          generalize wr.setCell ⟨H + 1, pq + i, none⟩ (.int .i64 (hl.length : Int)) = W1 at *
          clear cp fzp ch fzh
          have ch : W1.cell? ⟨H, v, none⟩ = some (.slice ho hl.length hc) := by rw [cell_of_row _ H v _ _ _ HBM1.out.out]; simpa using HVE.out
          have hsz1 := HBM1.out.size
          have hW1H : H < W1.heap.size := by omega
          go_wp2_with (
            at_builtin
            refine wpList_append_int rfl _ _ rfl (H + 4) (.slice ho hl.length hc) hl rfl (HRw.out.alloc _) _ _ i rfl (by simp) (by omega) (by simp; omega) ?_
            intro g' c' w2 hown' hg' hw'
            have hfr2 : Fr (fun k => (Value.slice ho hl.length hc).ownBlock = some k) W1 w2 := ((Fr.refl _ _).alloc _).trans (Fr.of_grown hg') (fun b _ x => x)
            have HBM2 : Hid (BM w (w2.setCell ⟨H, v, none⟩ (.slice (some ⟨g', 0, none⟩) (hl.length + 1) c')) H n (vs.set v (.slice (some ⟨g', 0, none⟩) (hl.length + 1) c')) ((hlists n PS).set v (hl ++ [i])) (upd pl v i (hl.length : Int)) (fun _ _ => 0) pv PS.length (pcells D PS)) :=
              HBM1.out.setRow HVE.out hfr2 hown' (hw'.elim Or.inl (fun e => Or.inr ⟨g', rfl, by rw [e]; simp⟩))
            have hnb : ¬ (Value.slice ho hl.length hc).ownBlock = some H := fun x => by have := (HRw.out.lt H x).1; omega
            have ch2 : w2.cell? ⟨H, v, none⟩ = some (.slice ho hl.length hc) := hfr2.cell ch hnb
            have hout2 : w2.heap[H]? = _ := (hfr2.block H hW1H hnb).trans HBM1.out.out
            have fz2 : w2.frozen? ⟨H, v, none⟩ = false := frozen_of_row w2 H v _ _ hout2
            clear hown' hg' hw' hfr2 hnb hout2)
          generalize w2.setCell ⟨H, v, none⟩ (.slice (some ⟨g', 0, none⟩) (hl.length + 1) c') = W3 at *
          have c9 : W3.cell? ⟨H + 3, 0, none⟩ = some pv := HBM2.out.box.cell (by omega)
          have f9 : W3.frozen? ⟨H + 3, 0, none⟩ = false := HBM2.out.box.frozen 0
          have cm := (HBM2.out.low.cell (p := ⟨b, o + i, none⟩) (show b < H from by rw [← HHe.out]; exact World.block_lt_of_cell? _ _ (HM.out.row i hlt))).trans (HM.out.row i hlt)
          have ce := (HBM2.out.low.cell (p := ⟨rb i, ro i + v, none⟩) (show rb i < H from by rw [← HHe.out]; exact World.block_lt_of_cell? _ _ (HM.out.el i v hlt hvn))).trans (HM.out.el i v hlt hvn)
          have hsz3 := HBM2.out.size
          have h93 : H + 3 < W3.heap.size := by omega
          clear ch cv ch2 fz2 hmulv HBM1 HRw HVE
          go_region_law (
            refine step_append_pair rfl _ _ rfl (H + 4) pv PS.length (pcells D PS) (by simp [Act.eval, Act.put]) (HBM2.out.pairs.alloc _) W3.heap.size 1 (.int .i64 (i : Int)) (.int .i64 (v : Int)) (.float .f64 (D i v)) (by simp [Act.eval, Act.put]) (by simp) (by simp) (by simp) rfl rfl rfl (by omega) (by simp; omega) ?_
            intro g2 c2 w4 hown2 hg2 hw2
            have HBM4 : Hid (BM w (w4.setCell ⟨H + 3, 0, none⟩ (.slice (some ⟨g2, 0, none⟩) (PS.length + 1) c2)) H n (vs.set v (.slice (some ⟨g', 0, none⟩) (hl.length + 1) c')) ((hlists n PS).set v (hl ++ [i])) (upd pl v i (hl.length : Int)) (fun _ _ => 0) (.slice (some ⟨g2, 0, none⟩) (PS.length + 1) c2) (PS.length + 1) (pcells D PS ++ [.int .i64 (i : Int), .int .i64 (v : Int), .float .f64 (D i v)])) := by
              have h1 := Fr.of_grown hg2
              have hFr : Fr (fun k => pv.ownBlock = some k) W3 w4 := ⟨h1.os, h1.tape, h1.output, Nat.le_trans (by simp [World.drew]) h1.size, fun k hk hn => (h1.block k (by simp [World.drew]; omega) hn).trans (Below.heap_alloc W3 _ k hk)⟩
              exact HBM2.out.setPairs hFr hown2 (hw2.elim Or.inl (fun e => Or.inr ⟨g2, rfl, by rw [e]; simp [World.drew]⟩))
            have h1 := Fr.of_grown hg2
            have hrow4 : w4.rowIs (H + 3) 43 1 (fun _ => pv) := h1.row (HBM2.out.box.alloc _) (fun x => by have := (HBM2.out.pairs.lt _ x).1; omega)
            have c94 : w4.cell? ⟨H + 3, 0, none⟩ = some pv := hrow4.cell (by omega)
            have f94 : w4.frozen? ⟨H + 3, 0, none⟩ = false := hrow4.frozen 0
            clear hown2 hg2 hw2 h1 hrow4)
          all_goals
            have HGn : Hid (G1 w (w4.setCell ⟨H + 3, 0, none⟩ (.slice (some ⟨g2, 0, none⟩) (PS.length + 1) c2)) H n BL D i (t + 1)) := by
              refine ⟨vs.set v (.slice (some ⟨g', 0, none⟩) (hl.length + 1) c'), upd pl v i (hl.length : Int), .slice (some ⟨g2, 0, none⟩) (PS.length + 1) c2, ?_, ?_⟩
              · rw [HFl.out, hlists_snoc PS i v hvn, pcells_snoc, ← HHL.out, List.length_append]
                exact HBM4.out
              · rw [HFl.out]; exact HBA1.out
            clear HBM2 HBM4 HBA1
            go_wp2
            refine ⟨⟨t + 1, by go_num, by omega, HGn⟩, by simp [intOf]; omega⟩
        · go_wp2
          go_roundw
          case rel => exact ⟨i + 1, by go_num, by omega, HG.out.next (flat_next (by rw [← HBL.out]; omega))⟩
          case measure => simp [intOf]; omega
    · obtain rfl : i = n := by omega
      go_wp2
      exact HG
end Go.Proofs.Qxb6613821aDoor
