import Derived.Test.Qxb6613783aWalks
import Derived.DataShut
import Derived.Laws.CopyOwn
namespace Go.Proofs.Qxb6613783a
open Go.ChangeShapes Go.WideShapes Go.ChangeAt Go.RowKit Go.Lib

section
variable {H : Type} {enc : TypeId × Value → H} {w : World} {base : Nat} {spare : Nat → Bool} {held : Bool}

theorem cellsOf30 : Try.prog.cellsOf 30 = 20 := by kernel_rfl
theorem cellsOf5 : Try.prog.cellsOf 5 = 1 := by kernel_rfl

/-- An id as data. -/
def idData {H : Type} (l : List UInt8) : DataW H := .agg (l.map fun b => .lit (.int .u8 (b.toNat : Int)))

theorem byte_wf (b : UInt8) : (Lit.int .u8 (b.toNat : Int)).wf = true := by
  have := b.toNat_lt
  simp [Lit.wf, IntKind.min, IntKind.max, IntKind.signed, IntKind.bits]
  omega

theorem open_id {r : Reach} {b0 : Nat} {v : Value} {d : DataW H} {p : List MemPlace} (hv : Value.okWide Try.prog w r b0 30 v) (h : DataW.Trod enc Try.prog w base spare held 30 v d p) :
    ∃ l : List UInt8, l.length = 20 ∧ v = .agg (cells l) ∧ d = idData l ∧ p = [] := by
  simp only [Value.okWide, Try.underlying30] at hv
  obtain ⟨cs, rfl, hs, _⟩ := hv
  rw [cellsOf30] at hs
  obtain ⟨fuel, hf⟩ := h
  obtain ⟨xs, m, _, hx, _, hxl, hat⟩ := DataW.trod_array Try.underlying30 hf
  have key : ∀ i, i < 20 → ∃ b : UInt8, cs[i]? = some (.int .u8 (b.toNat : Int)) ∧ xs[i]? = some (.lit (.int .u8 (b.toNat : Int)), []) := by
    intro i hi
    have h1 := hat i hi
    rw [cellsOf5] at h1
    have hxi : xs[i]? = some (xs[i]'(by omega)) := by simp [hxl, hi]
    rw [hxi] at h1
    obtain ⟨n, hc, hy, hw⟩ := DataW.trod_int Try.underlying5 h1
    have hb := bounds_u8 hw
    have hci : cs[i]? = some (.int .u8 n) := by
      have : ((Value.agg cs).cells.toList.drop (i * 1)).take 1 = [.int .u8 n] := hc
      simp only [Value.cells, Nat.mul_one] at this
      have h2 : (cs.toList.drop i)[0]? = some (.int .u8 n) := by
        have := congrArg (fun t => t[0]?) this
        simpa using this
      simpa using h2
    have e : ((UInt8.ofNat n.toNat).toNat : Int) = n := by
      rw [UInt8.toNat_ofNat']
      omega
    refine ⟨UInt8.ofNat n.toNat, ?_, ?_⟩
    · rw [e]; exact hci
    · rw [e, hxi, hy]
  obtain ⟨l, hll, hl⟩ : ∃ l : List UInt8, l.length = 20 ∧ ∀ i, i < 20 → cs[i]? = some (.int .u8 ((l.getD i 0).toNat : Int)) ∧ xs[i]? = some (.lit (.int .u8 ((l.getD i 0).toNat : Int)), []) := by
    have : ∀ n, n ≤ 20 → ∃ l : List UInt8, l.length = n ∧ ∀ i, i < n → cs[i]? = some (.int .u8 ((l.getD i 0).toNat : Int)) ∧ xs[i]? = some (.lit (.int .u8 ((l.getD i 0).toNat : Int)), []) := by
      intro n
      induction n with
      | zero => exact fun _ => ⟨[], rfl, fun i hi => by omega⟩
      | succ n ih =>
        intro hn
        obtain ⟨l, h1, h2⟩ := ih (by omega)
        obtain ⟨b, h3, h4⟩ := key n (by omega)
        refine ⟨l ++ [b], by simp [h1], fun i hi => ?_⟩
        by_cases e : i < n
        · have : (l ++ [b]).getD i 0 = l.getD i 0 := by
            simp [List.getD_eq_getElem?_getD, List.getElem?_append, h1, e]
          rw [this]; exact h2 i e
        · have e' : i = n := by omega
          subst e'
          have : (l ++ [b]).getD i 0 = b := by
            simp [List.getD_eq_getElem?_getD, h1]
          rw [this]; exact ⟨h3, h4⟩
    exact this 20 (Nat.le_refl _)
  have hcs : cs = cells l := by
    apply Array.ext_getElem?
    intro i
    by_cases hi : i < 20
    · rw [(hl i hi).1]
      simp [cells, hll, hi]
    · rw [Array.getElem?_eq_none (by omega), Array.getElem?_eq_none (by rw [cells_size]; omega)]
  have hxs : xs = l.map fun b => (.lit (.int .u8 (b.toNat : Int)), []) := by
    apply List.ext_getElem?
    intro i
    by_cases hi : i < 20
    · rw [(hl i hi).2]
      simp [hll, hi]
    · rw [List.getElem?_eq_none (by omega), List.getElem?_eq_none (by simp; omega)]
  simp only [Prod.mk.injEq] at hx
  refine ⟨l, hll, by rw [hcs], ?_, ?_⟩
  · rw [hx.1, hxs]; simp [idData]
  · rw [hx.2, hxs]; simp

theorem shut_id {l : List UInt8} (hl : l.length = 20) : DataW.Trod enc Try.prog w base spare held 30 (.agg (cells l)) (idData l) [] := by
  refine ⟨2, ?_⟩
  have hm : (List.range 20).mapM (fun i => DataW.trod enc Try.prog w base spare held 1 5 (((cells l).toList.drop (i * Try.prog.cellsOf 5)).take (Try.prog.cellsOf 5))) = some (l.map fun b => ((.lit (.int .u8 (b.toNat : Int)) : DataW H), ([] : List MemPlace))) := by
    refine mapM_some_of_get _ _ (by simp [hl]) ?_
    intro i x hx
    have hi : i < 20 := by
      have := List.getElem?_eq_some_iff.1 hx
      simpa using this.1
    obtain rfl : i = x := by simpa [hi] using hx
    rw [cellsOf5, Nat.mul_one]
    have ht : ((cells l).toList.drop i).take 1 = [.int .u8 ((l[i]'(by omega)).toNat : Int)] := by
      rw [List.drop_eq_getElem_cons (by simp [cells, hl, hi])]
      simp [cells]
    rw [ht]
    simp [DataW.trod, Try.underlying5, byte_wf, hl, hi]
  show DataW.trod enc Try.prog w base spare held 2 30 (cells l).toList = _
  unfold DataW.trod
  rw [Try.underlying30]
  have hlen : (cells l).toList.length = Try.prog.cellsOf 30 := by rw [cellsOf30]; simp [cells, hl]
  simp only [hlen, if_true, hm]
  simp [idData]
end

namespace text
theorem own : ownKnob Try.prog.godebug = none := by kernel_rfl

theorem two_ids (w : World) (l : List UInt8) (zs : Array Value) :
    ∃ W, ((w.alloc (.cells (cells l) 30)).alloc (.cells zs 31)).setRow (w.heap.size + 1) (cells l) = W ∧ W.heap[w.heap.size]? = some (.cells (cells l) 30 (0, 0)) ∧
      W.heap[w.heap.size + 1]? = some (.cells (cells l) 31 (0, 0)) ∧ Below w.heap.size w W ∧ w.heap.size + 1 < W.heap.size := by
  refine ⟨_, rfl, ?_, ?_, ?_, ?_⟩
  · rw [setRow_other _ _ _ _ (by omega)]; exact heap_alloc2_old w _ _
  · exact setRow_heap _ _ _ _ _ _ (heap_alloc2_new w _ _)
  · exact below_setRow (((Below.refl _ _).alloc (Nat.le_refl _) _).alloc (by simp) _) (by omega) _
  · simp

theorem walk (l : List UInt8) (hl : l.length = 20) (w : World) :
    Calls Try.prog 4 #[.agg (cells l)] w fun e w' => e = .returned (.bool true) ∧ Below w.heap.size w w' := by
  have hsame : ((txt l).toList == (txt l).toList) = true := by simp
  go_enter Try.func4, Try.ntmps4
  go_wp2_with (first
    | (refine wpList_load_row rfl 30 _ rfl w.heap.size rfl 30 (cells l) (0, 0) _ (heap_alloc_last w _) Try.underlying30 rfl (info30 hl) ?_)
    | (refine wpList_store_row rfl 31 _ _ rfl (w.heap.size + 1) (cells l) rfl rfl 31 _ (heap_alloc2_new w _ _) (info31 hl) (by rw [cells_size, hl]; rfl) (cells_one l) ?_
       obtain ⟨W, hW, hg0, hg1, hb, hz⟩ := two_ids w l _
       rw [hW]
       clear hW)
    | (refine wpList_load_row rfl 30 _ rfl w.heap.size rfl 30 (cells l) (0, 0) _ (by assumption) Try.underlying30 rfl (info30 hl) ?_))
  refine (hexOf_any l hl _).mono ?_
  rintro e w1 ⟨rfl, hb1⟩
  have hg11 : w1.heap[w.heap.size + 1]? = some (.cells (cells l) 31 (0, 0)) := (hb1.block _ hz).trans hg1
  have hz1 : w.heap.size + 1 < w1.heap.size := Nat.lt_of_lt_of_le hz hb1.size
  have B1 : Below w.heap.size w w1 := hb.trans (hb1.mono (by omega))
  clear hb hb1 hg0 hg1 hz
  go_wp2_with (refine wpList_load_row rfl 31 _ rfl (w.heap.size + 1) rfl 31 (cells l) (0, 0) _ hg11 Try.underlying31 rfl (info31 hl) ?_)
  refine (string_any l hl _).mono ?_
  rintro e w2 ⟨rfl, hb2⟩
  have hg12 : w2.heap[w.heap.size + 1]? = some (.cells (cells l) 31 (0, 0)) := (hb2.block _ hz1).trans hg11
  have B2 : Below w.heap.size w w2 := B1.trans (hb2.mono (by omega))
  have hz2 : w.heap.size ≤ w2.heap.size := B2.size
  clear hb2 hg11 hz1 B1
  go_wp2_with (refine wpList_load_row rfl 31 _ rfl (w.heap.size + 1) rfl 31 (cells l) (0, 0) _ hg12 Try.underlying31 rfl (info31 hl) ?_)
  refine (marshal_any l hl _).mono ?_
  rintro e w3 ⟨b, c, rfl, hc, hb3⟩
  have B3 : Below w.heap.size w w3 := B2.trans (hb3.mono hz2)
  have g := run_convert_bytes_arg (P := Try.prog) w3 34 5 Try.underlying34 Try.underlying5 b 0 40 c (Hx.nums l) (by rw [Hx.nums_length, hl]) (fun i hi => by rw [Nat.zero_add]; exact hc i hi) 9 Try.underlying9
  rw [Hx.strOfNums_nums] at g
  have g' : (convert 34 9 (.slice (some ⟨b, 0, none⟩) 40 c)).run Try.prog w3 = .ok (.string (txt l)) w3 := g
  clear g hc hb3 hg12 hz2 B2
  generalize txt l = T at *
  go_wp2
  go_ret
  exact ⟨rfl, B3⟩

set_option maxRecDepth 100000 in
theorem lifted (os : Os) (started : os.Started) (H : Type) (enc : TypeId × Value → H) :
    ReturnsInHanded {} Try.checked os 4 .any (Rows.fnIDTextAgreesWithStringSpec.pre6 enc Try.prog Try.f4 Rows.fnIDTextAgreesWithStringRow.domain false) (Rows.fnIDTextAgreesWithStringSpec.post enc Try.prog Try.f4 false true false false) := by
  refine returnsInHanded_of_change (C := Try.checked) own started (by kernel_rfl) Try.func4
    (ChangeSpec.witness6 (enc := enc) (C := Try.checked) false ⟨#[], #[.agg #[.int .u8 0, .int .u8 0, .int .u8 0, .int .u8 0, .int .u8 0, .int .u8 0, .int .u8 0, .int .u8 0, .int .u8 0, .int .u8 0, .int .u8 0, .int .u8 0, .int .u8 0, .int .u8 0, .int .u8 0, .int .u8 0, .int .u8 0, .int .u8 0, .int .u8 0, .int .u8 0]], []⟩ 8 (by kernel_rfl) (by kernel_rfl) (by kernel_rfl) (by kernel_rfl)) ?_
  intro W base args ds gs before hval0 hW hcnd _
  have hval : ∀ (j : Nat) t v, Try.f4.params[j]? = some t → args[j]? = some v → Value.okWide Try.prog W .any base t v := hval0
  have hW' := hW
  obtain ⟨p, q, hA0, hV, rfl, hfz, hnd⟩ := hW
  have hA : DataW.TrodAll enc Try.prog W 0 (fun _ => true) true Try.f4.params.toList args.toList ds p := hA0
  rw [Try.params4] at hA hval
  obtain ⟨v0, d0, rfl, rfl, h0⟩ := trodAll_one hA
  obtain ⟨rfl, rfl⟩ := trodVars_none hV
  obtain ⟨l, hl, rfl, rfl, rfl⟩ := open_id (hval 0 30 v0 rfl rfl) h0
  clear hA0 hval0
  simp only [List.append_nil] at hW'
  refine (walk l hl W).mono fun e W' ⟨he, hg⟩ => ?_
  subst he
  exact ⟨_, rfl, _, _, _, [], [], [], hW', trodAll_mk1 (shut_bool Try.underlying4 _), trodAll_mk1 (shut_id hl), rfl, hg.frame _, fun h => by cases h⟩

theorem over : Rows.fnIDTextAgreesWithStringRow.holds Try.pinned (OpenSpec.ofChange Rows.fnIDTextAgreesWithStringSpec) :=
  OpenClaim.holds_of_wide 4 Try.f4 rfl rfl rfl rfl rfl rfl rfl ⟨rfl, rfl, rfl, rfl, rfl⟩ rfl rfl rfl rfl rfl (by kernel_rfl) Try.func4 (by kernel_rfl)
    (of_decide_eq_true (by kernel_rfl)) (by unfold Func.isWrapper; first | (rw [if_pos (by decide +kernel)]; kernel_rfl) | (rw [if_neg (by decide +kernel)]; exact ⟨rfl, rfl⟩))
    (fun os started H enc _ => lifted os started H enc)
end text

theorem text_proved : Rows.FnIDTextAgreesWithStringSaid :=
  text.over
end Go.Proofs.Qxb6613783a
