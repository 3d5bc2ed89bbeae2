/- shrinkBalls. -/
import Derived.Test.Qxb6613821aDoorMain
import Derived.Test.Qxb6613821aDoorC1
import Derived.Test.Qxb6613821aDoorC2
import Derived.Test.Qxb6613821aDoorC5
namespace Go.Proofs.Qxb6613821aDoor
set_option linter.unusedVariables false
set_option linter.unusedSimpArgs false
open Ieee Go.RowKit

/-- Which members stay. -/
def shrunk (D : Nat → Nat → Nat) (n : Nat) (PS : List (Nat × Nat)) : Nat → Nat → Bool := (SS.run (prsOf (Dc D n) n PS) (PS.length + 2) ⟨fun i v => decide ((i, v) ∈ PS), fun _ _ => 0, 0, 0⟩).hold

set_option maxHeartbeats 8000000 in
set_option maxRecDepth 100000 in
theorem shrink_any (b o n cap : Nat) (rb ro rc : Nat → Nat) (D : Nat → Nat → Nat) (w : World) (hM : MatAt w b o n rb ro rc D) (hF : NF D n) (Bb : Nat) (vb : List Value) (BL : List (List Nat)) (hN : Nest w Bb vb BL) (hlen : BL.length = n) (hnd : ∀ a, (BL.getD a []).Nodup) (hlt : ∀ a, ∀ v ∈ BL.getD a [], v < n) (hb256 : ∀ a, (BL.getD a []).length ≤ 256) (hne : ∀ a, a < n → BL.getD a [] ≠ []) (hn0 : 0 < n) (hn : n ≤ 256) :
    Calls Tryd.prog 17 #[.slice (some ⟨b, o, none⟩) n cap, .slice (some ⟨Bb, 0, none⟩) n n] w fun e w' => ∃ rb vs', e = .returned (.slice (some ⟨rb, 0, none⟩) n n) ∧ w.heap.size ≤ rb ∧ Nest w' rb vs' (leftOf BL (shrunk D n (flat BL n 0)) n) ∧ Below w.heap.size w w' := by
  have hnn : n * n ≤ 65536 := Nat.le_trans (Nat.mul_le_mul hn hn) (by omega)
  have hBbl : Bb < w.heap.size := hN.lt
  have HM : Hid (MatAt w b o n rb ro rc D) := hM
  have HF : Hid (NF D n) := hF
  have HN : Hid (Nest w Bb vb BL) := hN
  have HND : Hid (∀ a, (BL.getD a []).Nodup) := hnd
  have HLT : Hid (∀ a, ∀ v ∈ BL.getD a [], v < n) := hlt
  have HB2 : Hid (∀ a, (BL.getD a []).length ≤ 256) := hb256
  have HNE : Hid (∀ a, a < n → BL.getD a [] ≠ []) := hne
  have HLen : Hid (BL.length = n) := hlen
  have hmk1 : ∀ w : World, (Instr.makeSlice 25 (.int .i64 (n : Int)) (.int .i64 (n : Int))).run Tryd.prog w = .ok (.slice (some ⟨w.heap.size, 0, none⟩) n n) (w.alloc (.cells (madeCells #[.slice none 0 0] n) 29)) := fun w =>
    run_make_row' (P := Tryd.prog) 25 29 (.slice none 0 0) 24 Tryd.underlying25 info29 rfl .i64 .i64 n (by omega) (by omega) w
  have hmul : (n : Int) * (n : Int) = ((n * n : Nat) : Int) := by simp
  obtain ⟨nn, hnne⟩ : ∃ nn, nn = n * n := ⟨_, rfl⟩
  rw [← hnne] at hmul hnn
  have hmk2 : ∀ w : World, (Instr.makeSlice 29 (.int .i64 (nn : Int)) (.int .i64 (nn : Int))).run Tryd.prog w = .ok (.slice (some ⟨w.heap.size, 0, none⟩) nn nn) (w.alloc (.cells (madeCells #[.int .i64 0] nn) 3)) := fun w =>
    run_make_row' (P := Tryd.prog) 29 3 (.int .i64 0) 8 Tryd.underlying29 info3 rfl .i64 .i64 nn (by omega) (by omega) w
  have hmk3 : ∀ w : World, (Instr.makeSlice 42 (.int .i64 (nn : Int)) (.int .i64 (nn : Int))).run Tryd.prog w = .ok (.slice (some ⟨w.heap.size, 0, none⟩) nn nn) (w.alloc (.cells (madeCells #[.int .i32 0] nn) 21)) := fun w =>
    run_make_row' (P := Tryd.prog) 42 21 (.int .i32 0) 4 Tryd.underlying42 info21 rfl .i64 .i64 nn (by omega) (by omega) w
  have HS0 := bm_start w n
  rw [← hnne] at HS0
  have HNN : Hid (nn = n * n) := hnne
  clear hM hF hN hnd hlt hb256 hne hlen hnne
  go_enter Tryd.func17, Tryd.ntmps17
  go_upto_block 0 with fail
  generalize ((((w.alloc (.cells (madeCells #[.slice none 0 0] n) 29)).alloc (.cells (madeCells #[.int .i64 0] nn) 3)).alloc (.cells (madeCells #[.int .i32 0] nn) 21)).alloc (.cells #[.slice none 0 0] 43)) = w0 at *
  rw [show w.heap.size + 1 + 1 + 1 = w.heap.size + 3 from rfl, show w.heap.size + 1 + 1 = w.heap.size + 2 from rfl]
  generalize hHe : w.heap.size = H at *
  have HHe : Hid (w.heap.size = H) := hHe
  have HG0 : Hid (G1 w w0 H n BL D 0 0) := by
    refine ⟨List.replicate n (.slice none 0 0), fun _ _ => 0, .slice none 0 0, ?_, ?_⟩
    · have e : flat BL 0 0 = [] := by simp [flat]
      rw [e]
      have e2 : hlists n [] = List.replicate n [] := by
        apply List.ext_getElem?
        intro x
        by_cases hx : x < n
        · rw [hlists_get _ hx]; simp [hx, hlist]
        · rw [List.getElem?_eq_none (by rw [hlists_len]; omega), List.getElem?_eq_none (by simp; omega)]
      rw [e2]
      exact HS0
    · have e : flat BL 0 0 = [] := by simp [flat]
      rw [e]; exact BA.start n _
  clear HS0 hHe hmk1 hmk2 hmk3 hmul
  refine C1 HNN hnn hn0 hn hBbl HHe HN HND HLT HB2 HLen HM _ HG0 ?_
  intro x10 x11 x13 x56 x57 x58 x59 x60 x61 x62 x63 x64 x65 x66 x67 x68 x69 x70 x71 x72 x73 x74 x75 x76 x77 x78 x79 x80 x81 x82 x83 x84 x85 x86 x87 x88 x89 x90 x91 x92 x93 x94 x95 x96 x97 x98 x99 x100 x101 x102 x103 wc HG1
  clear HG0
  obtain ⟨vs, pl, pv, hbm, hba⟩ := HG1.out.ex
  obtain ⟨PS, hPS⟩ : ∃ PS, PS = flat BL n 0 := ⟨_, rfl⟩
  have HPS : Hid (PS = flat BL n 0) := hPS
  rw [← hPS] at hbm hba
  have HBM : Hid (BM w wc H n vs (hlists n PS) pl (fun _ _ => 0) pv PS.length (pcells D PS)) := hbm
  have HBA : Hid (BA n PS pl) := hba
  obtain ⟨hd, hhd⟩ : ∃ hd : Nat → Nat → Bool, hd = fun i v => decide ((i, v) ∈ PS) := ⟨_, rfl⟩
  have HHD : Hid (∀ i v, hd i v = decide ((i, v) ∈ PS)) := fun i v => by rw [hhd]
  have HPin : Hid (∀ i v, (i, v) ∈ PS → i < n ∧ v < n) := fun i v hm => by
    rw [hPS, mem_flat] at hm
    rcases hm with ⟨h1, h2⟩ | ⟨_, h2⟩
    · exact ⟨h1, HLT.out i v h2⟩
    · simp at h2
  have hPL : PS.length ≤ 65792 := by rw [hPS]; exact Nat.le_trans (flat_len HB2.out n 0) (by omega)
  have HVL : Hid (vs.length = n) := by show _ = _; rw [hbm.rows.len, hlists_len]
  clear hPS hbm hba hhd
  go_upto_block 4 with fail
  refine C2 HNN hnn hn0 hn hBbl HHe HN HND HLT HB2 HLen HBA HHD HPin hPL HVL _ HBM ?_
  intro x15 x17 x18 x20 x106 x107 x108 x109 x110 x111 x112 x113 x114 x115 x116 x117 x118 x119 x120 x121 x122 x123 x124 x125 x126 x127 x128 x129 x130 x131 x132 x133 x134 x135 x136 x137 x138 x139 wc HBMs
  have HBM2 : Hid (BM w wc H n vs (hlists n PS) pl (share n hd) pv PS.length (pcells (Dc D n) PS)) := by
    have h := HBMs.out
    rw [pcells_Dc HPin.out] at h
    exact h
  have hPS0 : 0 < PS.length := by
    have h0 := HNE.out 0 hn0
    obtain ⟨v, hv⟩ : ∃ v, v ∈ BL.getD 0 [] := by
      cases hb : BL.getD 0 [] with
      | nil => exact absurd hb h0
      | cons x xs => exact ⟨x, by simp⟩
    have : (0, v) ∈ PS := by rw [HPS.out, mem_flat]; exact Or.inl ⟨hn0, hv⟩
    exact List.length_pos_of_mem this
  obtain ⟨pg, c, hpv, _, hpg4, hpgl⟩ := own_form' HBM2.out.pairs hPS0
  subst hpv
  have HHK : Hid (Go.Sort.HoldsK (encP (Dc D n)) 3 wc pg 0 PS.toArray) := by
    intro j hj
    rw [Go.Sort.size_flatK] at hj
    have hj3 : j / 3 < PS.length := by simp at hj; omega
    obtain ⟨p, hp⟩ : ∃ p, PS[j / 3]? = some p := ⟨_, List.getElem?_eq_getElem hj3⟩
    have e2 : j / 3 * 3 + j % 3 = j := by omega
    have h2 := pcells_get (Dc D n) hp (c := j % 3) (by omega)
    rw [e2] at h2
    have h3 : (encP (Dc D n) p)[j % 3]? = some (encP (Dc D n) p)[j % 3]! := by
      rw [List.getElem!_eq_getElem?_getD, List.getElem?_eq_getElem (by simp [encP]; omega)]; rfl
    rw [h3] at h2
    refine ⟨?_, ?_⟩
    · rw [Nat.zero_add, own_cell HBM2.out.pairs h2, Go.Sort.get_flatK _ _ _ _ hj]
      have : PS.toArray[j / 3]! = p := by
        rw [getElem!_pos _ _ (by simpa using hj3)]
        have := List.getElem?_eq_getElem hj3
        rw [hp] at this
        simpa using (Option.some.inj this).symm
      rw [this]; rfl
    · rw [Nat.zero_add]; exact own_frozen HBM2.out.pairs _
  have c9 : wc.cell? ⟨H + 3, 0, none⟩ = some (.slice (some ⟨pg, 0, none⟩) PS.length c) := HBM2.out.box.cell (by omega)
  have hszc := HBM2.out.size
  have HSort : Hid (Calls Tryd.prog 22 #[.iface 43 (.slice (some ⟨pg, 0, none⟩) PS.length c), .func (.func 23) #[] #[.pointer (some ⟨H + 3, 0, none⟩)]] wc fun e w' =>
      e = .returned (.tuple #[]) ∧ Fr (fun k => k = pg) wc w' ∧ Go.Sort.HoldsK (encP (Dc D n)) 3 w' pg 0 (sortP (Dc D n) PS.toArray)) := by
    have h := sortSl_any (Dc D n) (nf_Dc HF.out) pg c (H + 3) PS.toArray (by simp; omega) (by simp; omega) wc HHK.out hpgl (by simpa using c9) (by omega) (by omega)
    have e : PS.toArray.size = PS.length := by simp
    rw [e] at h
    exact h
  have hmk4 : ∀ w : World, (Instr.makeSlice 48 (.int .i64 (nn : Int)) (.int .i64 (nn : Int))).run Tryd.prog w = .ok (.slice (some ⟨w.heap.size, 0, none⟩) nn nn) (w.alloc (.cells (madeCells #[.int .u8 0] nn) 5)) := fun w =>
    run_make_row' (P := Tryd.prog) 48 5 (.int .u8 0) 1 Tryd.underlying48 info5 rfl .i64 .i64 nn (by omega) (by omega) w
  have hmk5 : ∀ w : World, (Instr.makeSlice 29 (.int .i64 (n : Int)) (.int .i64 (n : Int))).run Tryd.prog w = .ok (.slice (some ⟨w.heap.size, 0, none⟩) n n) (w.alloc (.cells (madeCells #[.int .i64 0] n) 3)) := fun w =>
    run_make_row' (P := Tryd.prog) 29 3 (.int .i64 0) 8 Tryd.underlying29 info3 rfl .i64 .i64 n (by omega) (by omega) w
  have hmul : (n : Int) * (n : Int) = (nn : Int) := by rw [HNN.out]; simp
  clear HBM HHK
  go_upto_block 10 with (go_at_call 22; refine HSort.out.mono ?_; rintro e w1 ⟨rfl, hf1, hh1⟩)
  have HMS0 : Hid (MS w ((w1.alloc (.cells (madeCells #[.int .u8 0] nn) 5)).alloc (.cells (madeCells #[.int .i64 0] n) 3)) H n w1.heap.size pg PS.length c vs (hlists n PS) pl (share n hd) (fun _ _ => 0) (fun _ => 0) (prsOf (Dc D n) n PS) (Dc D n)) := ms_start HBM2.out hf1 hh1 (by rw [HNN.out])
  obtain ⟨P, hPe⟩ : ∃ P, P = prsOf (Dc D n) n PS := ⟨_, rfl⟩
  have HPe : Hid (P = prsOf (Dc D n) n PS) := hPe
  have HPok : Hid (P.Ok hd) := by
    have hnd : PS.Nodup := by rw [HPS.out]; exact flat_nodup HND.out n 0 (Nat.zero_le _)
    have e : hd = fun i v => decide ((i, v) ∈ PS) := by funext i v; exact HHD.out i v
    rw [hPe, e]; exact prs_ok (nf_Dc HF.out) hnd HPin.out
  have HPn : Hid (P.n = n) := by rw [hPe]; rfl
  have HPN : Hid (P.N = PS.length) := by rw [hPe]; exact sortP_size _ _
  have HPle : Hid (∀ a b, P.le a b = am (Dc D n (P.nd a) (P.mb a)) (Dc D n (P.nd b) (P.mb b))) := by intro a b; rw [hPe]; rfl
  rw [← hPe] at HMS0
  have HML0 : Hid (MLs w ((w1.alloc (.cells (madeCells #[.int .u8 0] nn) 5)).alloc (.cells (madeCells #[.int .i64 0] n) 3)) H n w1.heap.size pg PS.length c P (Dc D n) hd vs (hlists n PS) pl hd (fun _ _ => 0) 0 0) := by
    refine ⟨HMS0.out.congr (fun _ _ => rfl) (fun _ _ => rfl) (fun i => (ready_zero n i).symm), inv_start, fun v hv => ⟨_, hlists_get _ hv, ?_⟩, fun i v h1 h2 => by rw [h1] at h2; cases h2⟩
    have h := HBA.out v hv
    refine ⟨h.inj, fun i => ?_, h.at_⟩
    rw [h.mem i, HHD.out]
  have hp1 := HMS0.out.pg1
  have hp2 := HMS0.out.pg2
  generalize ((w1.alloc (.cells (madeCells #[.int .u8 0] nn) 5)).alloc (.cells (madeCells #[.int .i64 0] n) 3)) = W0 at *
  generalize w1.heap.size = S0 at *
  have HPL0 : Hid (PS.length ≤ 65792) := hPL
  have HPLN : Hid (P.N = PS.length) := HPN.out
  generalize hNe : PS.length = N at *
  have HNe : Hid (PS.length = N) := hNe
  clear hPe HMS0 HSort hf1 hh1 hmk4 hmk5 c9 HBM2 hszc hpgl hmul
  have hN2 : N ≤ 65792 := HPL0.out
  have HD' : Hid (∀ i j, nf (Dc D n i j) = true) := nf_Dc HF.out
  generalize hEe : Dc D n = E at *
  have HEe : Hid (Dc D n = E) := hEe
  clear hEe hNe
  have HHin : Hid (∀ i v, hd i v = true → i < n ∧ v < n) := fun i v h => HPin.out i v (by rw [HHD.out] at h; simpa using h)
  refine Main17 HNN hnn hn0 hn hN2 hp1 hp2 HPok HPn HPLN HPle HD' HHin _ HML0 ?_
  intro x23 x24 x25 x26 x27 x28 x29 x30 x31 x33 x35 x36 x150 x151 x152 x153 x154 x155 x156 x157 x158 x159 x160 x161 x162 x163 x164 x165 x166 x167 x168 x169 x170 x171 x172 x173 x174 x175 x176 x177 x178 x179 x180 x181 x182 x183 x184 x185 x186 x187 x188 x189 x190 x191 x192 x193 x194 x195 x196 x197 x198 x199 x200 x201 x202 x203 x204 x205 x206 x207 x208 x209 x210 x211 x212 x213 x214 x215 x216 x217 x218 x219 x220 x221 x222 x223 x224 x225 x226 x227 x228 x229 x230 x231 x232 x233 x234 x235 x236 x237 x238 x239 x240 x241 x242 x243 x244 x245 x246 x247 x248 x249 x250 x251 x252 x253 x254 x255 x256 x257 x258 x259 x260 x261 x262 x263 x264 x265 x266 x267 x268 x269 x270 x271 x272 x273 x274 x275 x276 x277 x278 x279 x280 x281 x282 x283 x284 x285 x286 x287 x288 x289 x290 x291 x292 x293 x294 x295 x296 x297 x298 x299 x300 x301 x302 x303 x304 x305 x306 x307 x308 x309 x310 x311 x312 x313 x314 x315 x316 x317 x318 x319 x320 x321 x322 x323 x324 x325 x326 x327 x328 x329 x330 x331 x332 x333 x334 x335 x336 x337 x338 x339 x340 x341 x342 x343 x344 x345 x346 x347 x348 x349 x350 x351 x352 x353 x354 x355 x356 x357 x358 x359 x360 x361 x362 x363 x364 x365 x366 x367 x368 x369 x370 x371 x372 x373 x374 wM hM
  clear HML0
  obtain ⟨s, vs2, L2, pl2, HsR, HML⟩ := hM
  have HShr : Hid (s.hold = shrunk D n (flat BL n 0)) := by
    show _ = _
    have e : hd = fun i v => decide ((i, v) ∈ PS) := by funext i v; exact HHD.out i v
    unfold shrunk
    rw [← HPS.out, HEe.out, HNe.out, ← HPe.out, ← e, ← HsR.out]
  have HPl : Hid (∀ a v, a < n → v ∈ BL.getD a [] → ∃ x : Int, wM.cell? ⟨H + 1, v * n + a, none⟩ = some (.int .i64 x) ∧ (0 ≤ x ↔ s.hold a v = true)) := fun a v ha hv => by
    have hvn := HLT.out a v hv
    have hidx : v * n + a < n * n := by
      have : (v + 1) * n ≤ n * n := Nat.mul_le_mul_right _ hvn
      rw [Nat.add_mul] at this; omega
    have hc := HML.out.ms.place.cell hidx
    have hdm : (v * n + a) / n = v ∧ (v * n + a) % n = a := (divmod_at ha).2 rfl
    rw [hdm.1, hdm.2] at hc
    refine ⟨_, hc, ?_⟩
    have hm : hd a v = true := by rw [HHD.out, decide_eq_true_eq, HPS.out, mem_flat]; exact Or.inl ⟨ha, hv⟩
    obtain ⟨l, _, hl⟩ := HML.out.ls v hvn
    cases hh : s.hold a v with
    | true =>
      obtain ⟨t, ht⟩ := List.getElem?_of_mem ((hl.mem a).2 hh)
      rw [hl.at_ t a ht]; simp
    | false =>
      rw [HML.out.off a v hm hh]; simp
  have HLowM : Hid (Below H w wM) := HML.out.ms.low
  have hszM := HML.out.ms.sz
  have hp1M := HML.out.ms.pg1
  have hp2M := HML.out.ms.pg2
  have hmk1 : ∀ w : World, (Instr.makeSlice 25 (.int .i64 (n : Int)) (.int .i64 (n : Int))).run Tryd.prog w = .ok (.slice (some ⟨w.heap.size, 0, none⟩) n n) (w.alloc (.cells (madeCells #[.slice none 0 0] n) 29)) := fun w =>
    run_make_row' (P := Tryd.prog) 25 29 (.slice none 0 0) 24 Tryd.underlying25 info29 rfl .i64 .i64 n (by omega) (by omega) w
  clear HML HsR
  go_upto_block 24 with fail
  refine C5 HNN hnn hn hBbl HHe HN HLT HB2 HLen (wM := wM) (h := s.hold) (by omega) HLowM HPl _ ((Below.refl _ _).alloc (Nat.le_refl _) _) (by show Nest _ _ _ _; rw [RL_start]; exact nest_made wM n) ?_
  intro x38 x39 x41 x379 x380 x381 x382 x383 x384 x385 x386 x387 x388 x389 x390 x391 x392 x393 x394 x395 x396 x397 x398 x399 x400 x401 x402 x403 x404 x405 x406 x407 x408 x409 x410 wz hz
  obtain ⟨HBz, HNz⟩ := hz
  have HNz2 : Hid (∃ vs, Nest wz wM.heap.size vs (leftOf BL (shrunk D n (flat BL n 0)) n)) := by rw [HShr.out] at HNz; exact HNz
  go_wp2
  go_ret
  obtain ⟨vs', hNest⟩ := HNz2.out
  have hHe := HHe.out
  refine ⟨wM.heap.size, vs', rfl, by omega, hNest, ?_⟩
  rw [hHe]
  exact HLowM.out.trans (HBz.out.mono (by omega))
end Go.Proofs.Qxb6613821aDoor
