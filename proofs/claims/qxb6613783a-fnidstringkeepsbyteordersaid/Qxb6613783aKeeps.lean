import Derived.Test.Qxb6613783aParse
import Derived.Test.Qxb6613783aText
import Derived.Deep.RegionWith
import Derived.Deep.RegionHeld2
import Derived.Deep.DeepCutAuto
namespace Go.Proofs.Qxb6613783a
open Go.ChangeShapes Go.WideShapes Go.ChangeAt Go.RowKit Go.Lib

/-! ### Two equal arrays -/
theorem part_id (l : List UInt8) (i : Nat) (hi : i < l.length) (w : World) : (part 5 (cells l) i).run Try.prog w = .ok (.int .u8 ((l[i]'hi).toNat : Int)) w := by
  have hg := cells_get l i hi
  have hs : i < (cells l).size := by rw [cells_size]; exact hi
  have he : (cells l)[i] = .int .u8 ((l[i]'hi).toNat : Int) := by
    have := (Array.getElem?_eq_getElem hs).symm.trans hg
    simpa using this
  simp [part, Try.isAgg5, hg]

theorem forIn_none (f : Nat → Option Bool × PUnit → Sem (ForInStep (Option Bool × PUnit))) (hf : ∀ i, i < 20 → ∀ w, (f i (none, ⟨⟩)).run Try.prog w = .ok (.yield (none, ⟨⟩)) w) :
    ∀ (n i : Nat), i + n ≤ 20 → ∀ w : World, (forIn (m := Sem) (List.range' i n 1) ((none : Option Bool), PUnit.unit) f).run Try.prog w = .ok (none, PUnit.unit) w := by
  intro n
  induction n with
  | zero => intro i _ w; simp
  | succ n ih =>
    intro i hi w
    simp only [List.range'_succ, List.forIn_cons, Sem.run_bind, hf i (by omega), Result.andThen_ok]
    exact ih (i + 1) (by omega) w

theorem eq_id (d : Nat) (l : List UInt8) (hl : l.length = 20) (w : World) : (Op.equalIn (d + 2) 30 (.agg (cells l)) (.agg (cells l))).run Try.prog w = .ok true w := by
  obtain ⟨D, hD⟩ : ∃ D, D = d + 1 := ⟨_, rfl⟩
  rw [show d + 2 = D + 1 from by omega]
  simp only [Op.equalIn, Sem.run_bind, run_underlying Try.underlying30, Result.andThen_ok, Try.sizeOf5]
  rw [Std.Legacy.Range.forIn_eq_forIn_range']
  simp only [Std.Legacy.Range.size, Nat.mul_one, Nat.sub_zero, Nat.add_sub_cancel, Nat.div_one]
  rw [forIn_none _ ?_ 20 0 (by omega)]
  · rfl
  · intro i hi w
    simp only [Sem.run_bind, part_id l i (by omega), Result.andThen_ok, hD, run_equalIn_int (P := Try.prog) w d 5 .u8 .u8 _ _ Try.underlying5]
    simp

theorem maxDepth_eq : Op.maxDepth = 9998 + 2 := rfl
theorem run_eql_id (l : List UInt8) (hl : l.length = 20) (w : World) : (binOp .eql 30 (.agg (cells l)) (.agg (cells l))).run Try.prog w = .ok (.bool true) w := by
  show (do pure (Value.bool (← Op.equal 30 (.agg (cells l)) (.agg (cells l)))) : Sem Value).run Try.prog w = _
  unfold Op.equal
  rw [Sem.run_bind, maxDepth_eq, eq_id 9998 l hl]
  rfl
theorem run_neq_id (l : List UInt8) (hl : l.length = 20) (w : World) : (binOp .neq 30 (.agg (cells l)) (.agg (cells l))).run Try.prog w = .ok (.bool false) w := by
  show (do pure (Value.bool (!(← Op.equal 30 (.agg (cells l)) (.agg (cells l))))) : Sem Value).run Try.prog w = _
  unfold Op.equal
  rw [Sem.run_bind, maxDepth_eq, eq_id 9998 l hl]
  rfl

/-- A whole array out of a block, the operation under a guard that says yes. -/
theorem wpList_load_guard {ops : Array Oper} {rest : List Oper} {o : Oper} {a : Act} {w : World} {Q : Exit → Act → World → Prop} (hgd : Region.wanted o (yielded ops a.tmps) = true) (x : Operand) (ho : o.op = .load 30 x)
    (g : Nat) (hx : a.eval x = .pointer (some ⟨g, 0, none⟩)) (l : List UInt8) (hl : l.length = 20) (hg : w.heap[g]? = some (.cells (cells l) 30 (0, 0)))
    (h : wpList Try.prog ops Q rest (a.put o.dst (.agg (cells l))) w) : wpList Try.prog ops Q (o :: rest) a w := by
  unfold wpList
  rw [if_pos hgd]
  exact Or.inl (wp_load_row 30 x ho g hx 30 (cells l) (0, 0) _ hg Try.underlying30 rfl (info30 hl) h)

namespace keeps
theorem own : ownKnob Try.prog.godebug = none := by kernel_rfl

theorem two_boxes (w : World) (l m : List UInt8) :
    ∃ W, (w.alloc (.cells (cells l) 30)).alloc (.cells (cells m) 30) = W ∧ W.heap[w.heap.size]? = some (.cells (cells l) 30 (0, 0)) ∧
      W.heap[w.heap.size + 1]? = some (.cells (cells m) 30 (0, 0)) ∧ Below w.heap.size w W ∧ w.heap.size + 1 < W.heap.size :=
  ⟨_, rfl, heap_alloc2_old w _ _, heap_alloc2_new w _ _, ((Below.refl _ _).alloc (Nat.le_refl _) _).alloc (by simp) _, by simp⟩

/-- An id's cells as a list. -/
def cellsL (l : List UInt8) : List Value := l.map fun b => Value.int .u8 (b.toNat : Int)
theorem range_of {w : World} {g : Nat} {l : List UInt8} (hg : w.heap[g]? = some (.cells (cells l) 30 (0, 0))) : w.rangeAt g 0 (cellsL l) := fun j v hv => by
  rw [Nat.zero_add, cell_of_row w g j _ _ _ hg]
  simpa [cells, cellsL] using hv
theorem infoL {l : List UInt8} (hl : l.length = 20) : (Try.prog.info? 30).map (·.size) = some (cellsL l).length := by
  rw [cellsL, List.length_map, hl]; kernel_rfl
theorem keep_call {w2 w w' : World} {g : Nat} {cl cm : List Value} (hg : g + 1 < w2.heap.size)
    (h : w.rangeAt g 0 cl ∧ w.rangeAt (g + 1) 0 cm ∧ Below w2.heap.size w2 w) (hb : Below w.heap.size w w') : w'.rangeAt g 0 cl ∧ w'.rangeAt (g + 1) 0 cm ∧ Below w2.heap.size w2 w' := by
  obtain ⟨h1, h2, h3⟩ := h
  have hz := h3.size
  refine ⟨fun j v hv => ?_, fun j v hv => ?_, h3.trans (hb.mono hz)⟩
  · rw [hb.cell (p := ⟨g, 0 + j, none⟩) (by simp; omega)]; exact h1 j v hv
  · rw [hb.cell (p := ⟨g + 1, 0 + j, none⟩) (by simp; omega)]; exact h2 j v hv

theorem cmpS_txt (l m : List UInt8) (hl : l.length = 20) (hm : m.length = 20) (w : World) :
    Calls Try.prog 15 #[.string (txt l), .string (txt m)] w fun e w' => e = .returned (.int .i64 (cmpB l m)) ∧ Below w.heap.size w w' := by
  refine (cmpS_any (txt l) (txt m) (txt_size hl) (txt_size hm) w).mono ?_
  rintro e w' ⟨rfl, n, rfl⟩
  refine ⟨?_, below_drewN' (Below.refl _ _) n⟩
  rw [← cmpB_encode l m (by omega)]
  rfl

theorem cmpI_lit (l m : List UInt8) (hl : l.length = 20) (hm : m.length = 20) (cl cm : Array Value) (hcl : cl = cells l) (hcm : cm = cells m) (w : World) :
    Calls Try.prog 16 #[.agg cl, .agg cm] w fun e w' => e = .returned (.int .i64 (cmpB l m)) ∧ Below w.heap.size w w' := by
  subst hcl; subst hcm
  exact cmpI_any l m hl hm w

set_option linter.unusedSimpArgs false in
set_option maxHeartbeats 4000000 in
theorem walk (l m : List UInt8) (hl : l.length = 20) (hm : m.length = 20) (w : World) :
    Calls Try.prog 5 #[.agg (cells l), .agg (cells m)] w fun e w' => e = .returned (.bool true) ∧ Below w.heap.size w w' := by
  obtain ⟨W, hW, hg0, hg1, hb, hz⟩ := two_boxes w l m
  go_enter Try.func5, Try.ntmps5
  go_wp2_with (refine wpList_load_row rfl 30 _ rfl w.heap.size rfl 30 (cells l) (0, 0) _ hg0 Try.underlying30 rfl (info30 hl) ?_)
  clear hW
  refine (string_any l hl _).mono ?_
  rintro e w1 ⟨rfl, hb1⟩
  have k0 : w1.heap[w.heap.size]? = some (.cells (cells l) 30 (0, 0)) := (hb1.block _ (by omega)).trans hg0
  have k1 : w1.heap[w.heap.size + 1]? = some (.cells (cells m) 30 (0, 0)) := (hb1.block _ hz).trans hg1
  have kz : w.heap.size + 1 < w1.heap.size := Nat.lt_of_lt_of_le hz hb1.size
  have kb : Below w.heap.size w w1 := hb.trans (hb1.mono (by omega))
  clear hg0 hg1 hz hb hb1
  go_wp2_with (refine wpList_load_row rfl 30 _ rfl (w.heap.size + 1) rfl 30 (cells m) (0, 0) _ k1 Try.underlying30 rfl (info30 hm) ?_)
  refine (string_any m hm _).mono ?_
  rintro e w2 ⟨rfl, hb2⟩
  have hg0 : w2.heap[w.heap.size]? = some (.cells (cells l) 30 (0, 0)) := (hb2.block _ (by omega)).trans k0
  have hg1 : w2.heap[w.heap.size + 1]? = some (.cells (cells m) 30 (0, 0)) := (hb2.block _ kz).trans k1
  have hz : w.heap.size + 1 < w2.heap.size := Nat.lt_of_lt_of_le kz hb2.size
  have hb : Below w.heap.size w w2 := kb.trans (hb2.mono (by omega))
  clear k0 k1 kz kb hb2
  go_upto_region 3 with fail
  go_cut [21] (fun v wx => v = .bool false ∧ Hid (Below w2.heap.size w2 wx))
  case first =>
    have hS0 : w2.rangeAt w.heap.size 0 (cellsL l) ∧ w2.rangeAt (w.heap.size + 1) 0 (cellsL m) ∧ Below w2.heap.size w2 w2 := ⟨range_of hg0, range_of hg1, Below.refl _ _⟩
    have hu := Try.underlying30
    have hil := infoL hl
    have him := infoL hm
    clear hg0 hg1 hb
    refine wp_region_held_drew (S := fun w' => w'.rangeAt w.heap.size 0 (cellsL l) ∧ w'.rangeAt (w.heap.size + 1) 0 (cellsL m) ∧ Below w2.heap.size w2 w') (by kernel_rfl) ⟨hS0.1, hS0.2.1, hS0.2.2.drew⟩ (fun hHeld => ?_)
    refine wpAnyH_take (i := 3) rfl (by kernel_rfl) (by kernel_rfl) (by kernel_rfl) (fun _ _ _ h => h) (yieldsIf_load_mid (by rfl) 30 _ rfl w.heap.size 0 rfl (cellsL l) _ (fun _ h => h.1) hu rfl hil) hHeld ?_
    simp only [Act.put, List.setIfInBounds_toArray, List.set_cons_zero, List.set_cons_succ]
    refine wpAnyH_take (i := 4) rfl (by kernel_rfl) (by kernel_rfl) (by kernel_rfl) (fun _ _ _ h => h) (yieldsIf_load_mid (by rfl) 30 _ rfl (w.heap.size + 1) 0 rfl (cellsL m) _ (fun _ h => h.2.1) hu rfl him) hHeld ?_
    simp only [Act.put, List.setIfInBounds_toArray, List.set_cons_zero, List.set_cons_succ]
    refine wpAnyH_take (i := 0) (v := .string (txt l)) rfl (by kernel_rfl) (by kernel_rfl) (by kernel_rfl) (fun _ _ _ h => h) (Or.inl ⟨by rfl, fun _ _ => rfl⟩) hHeld ?_
    simp only [Act.put, List.setIfInBounds_toArray, List.set_cons_zero, List.set_cons_succ]
    refine wpAnyH_take (i := 1) (v := .string (txt m)) rfl (by kernel_rfl) (by kernel_rfl) (by kernel_rfl) (fun _ _ _ h => h) (Or.inl ⟨by rfl, fun _ _ => rfl⟩) hHeld ?_
    simp only [Act.put, List.setIfInBounds_toArray, List.set_cons_zero, List.set_cons_succ]
    refine wpAnyH_ready (rs := [2]) (by kernel_rfl) (by simp) ?_
    refine AllReadyH.cons rfl (fun K hK => ?_) AllReadyH.nil
    go_simp
    refine (cmpS_txt l m hl hm _).mono ?_
    rintro e w3 ⟨rfl, hbx⟩
    refine hK.out _ _ (keep_call hz hHeld hbx) (fun hHeld2 => ?_)
    clear hK K hHeld hbx hS0
    refine wpAnyH_ready (rs := [5]) (by kernel_rfl) (by simp) ?_
    refine AllReadyH.cons rfl (fun K hK => ?_) AllReadyH.nil
    go_simp
    refine (cmpI_lit l m hl hm _ _ rfl rfl _).mono ?_
    rintro e w4 ⟨rfl, hby⟩
    refine hK.out _ _ (keep_call hz hHeld2 hby) (fun hHeld3 => ?_)
    clear hK K hHeld2 hby
    refine wpAnyH_ready (rs := [6]) (by kernel_rfl) (by simp) ?_
    refine AllReadyH.cons rfl (fun K hK => ?_) AllReadyH.nil
    go_simp
    refine hK.out _ _ hHeld3 (fun hHeld4 => ?_)
    clear hK K hHeld3
    refine wpAnyH_done (by kernel_rfl) ?_ _
    go_wp2_with fail
    go_meet
    exact ⟨rfl, hHeld4.2.2⟩
  case rest =>
    obtain ⟨rfl, HB⟩ := hcut
    have k0 : wc.heap[w.heap.size]? = some (.cells (cells l) 30 (0, 0)) := (HB.out.block _ (by omega)).trans hg0
    have k1 : wc.heap[w.heap.size + 1]? = some (.cells (cells m) 30 (0, 0)) := (HB.out.block _ hz).trans hg1
    have kz : w.heap.size + 1 < wc.heap.size := Nat.lt_of_lt_of_le hz HB.out.size
    have kb : Below w.heap.size w wc := hb.trans (HB.out.mono (by omega))
    clear hg0 hg1 hz hb HB
    have hq : Try.prog.eqGuardType Try.prog.depth 30 = false := by kernel_rfl
    have hnl := run_neq_id l hl
    have hem := run_eql_id m hm
    go_wp2_with fail
    refine (parse_any l hl _).mono ?_
    rintro e w5 ⟨rfl, hb5⟩
    have hg0 : w5.heap[w.heap.size]? = some (.cells (cells l) 30 (0, 0)) := (hb5.block _ (by omega)).trans k0
    have hg1 : w5.heap[w.heap.size + 1]? = some (.cells (cells m) 30 (0, 0)) := (hb5.block _ kz).trans k1
    have hz : w.heap.size + 1 < w5.heap.size := Nat.lt_of_lt_of_le kz hb5.size
    have hb : Below w.heap.size w w5 := kb.trans (hb5.mono (by omega))
    clear k0 k1 kz kb hb5
    have a0 : (w5.alloc (.cells (cells l) 30)).heap[w.heap.size]? = some (.cells (cells l) 30 (0, 0)) := (Below.heap_alloc w5 _ _ (by omega)).trans hg0
    have a1 : (w5.alloc (.cells (cells l) 30)).heap[w.heap.size + 1]? = some (.cells (cells m) 30 (0, 0)) := (Below.heap_alloc w5 _ _ hz).trans hg1
    have az : w.heap.size + 1 < (w5.alloc (.cells (cells l) 30)).heap.size := by simp; omega
    have ab : Below w.heap.size w (w5.alloc (.cells (cells l) 30)) := hb.alloc (by omega) _
    have al := heap_alloc_last w5 (.cells (cells l) 30 (0, 0))
    go_wp2_with (first
      | (refine wpList_store_row rfl 30 _ _ rfl w5.heap.size (cells l) rfl rfl 30 _ (heap_alloc_last w5 _) (info30 hl) (by rw [cells_size, hl]; rfl) (cells_one l) ?_
         rw [World.setRow_alloc_new]
         generalize w5.alloc (.cells (cells l) 30) = W5 at *)
      | (refine wpList_load_guard (by rfl) _ rfl w5.heap.size rfl l hl (by assumption) ?_)
      | (refine wpList_load_guard (by rfl) _ rfl w.heap.size rfl l hl (by assumption) ?_))
    refine (parse_any m hm _).mono ?_
    rintro e w6 ⟨rfl, hb6⟩
    have k1 : w6.heap[w.heap.size + 1]? = some (.cells (cells m) 30 (0, 0)) := (hb6.block _ az).trans a1
    have kz : w.heap.size + 1 < w6.heap.size := Nat.lt_of_lt_of_le az hb6.size
    have kb : Below w.heap.size w w6 := ab.trans (hb6.mono (by omega))
    clear hg0 hg1 hz hb a0 a1 az ab al hb6
    have a1 : (w6.alloc (.cells (cells m) 30)).heap[w.heap.size + 1]? = some (.cells (cells m) 30 (0, 0)) := (Below.heap_alloc w6 _ _ kz).trans k1
    have ab : Below w.heap.size w (w6.alloc (.cells (cells m) 30)) := kb.alloc (by omega) _
    have al := heap_alloc_last w6 (.cells (cells m) 30 (0, 0))
    go_wp2_with (first
      | (refine wpList_store_row rfl 30 _ _ rfl w6.heap.size (cells m) rfl rfl 30 _ (heap_alloc_last w6 _) (info30 hm) (by rw [cells_size, hm]; rfl) (cells_one m) ?_
         rw [World.setRow_alloc_new]
         generalize w6.alloc (.cells (cells m) 30) = W6 at *)
      | (refine wpList_load_guard (by rfl) _ rfl w6.heap.size rfl m hm (by assumption) ?_)
      | (refine wpList_load_guard (by rfl) _ rfl (w.heap.size + 1) rfl m hm (by assumption) ?_))
    go_ret
    exact ⟨rfl, ab⟩

set_option maxRecDepth 100000 in
theorem lifted (os : Os) (started : os.Started) (H : Type) (enc : TypeId × Value → H) :
    ReturnsInHanded {} Try.checked os 5 .any (Rows.fnIDStringKeepsByteOrderSpec.pre6 enc Try.prog Try.f5 Rows.fnIDStringKeepsByteOrderRow.domain false) (Rows.fnIDStringKeepsByteOrderSpec.post enc Try.prog Try.f5 false true false false) := by
  refine returnsInHanded_of_change (C := Try.checked) own started (by kernel_rfl) Try.func5
    (ChangeSpec.witness6 (enc := enc) (C := Try.checked) false ⟨#[], #[.agg #[.int .u8 0, .int .u8 0, .int .u8 0, .int .u8 0, .int .u8 0, .int .u8 0, .int .u8 0, .int .u8 0, .int .u8 0, .int .u8 0, .int .u8 0, .int .u8 0, .int .u8 0, .int .u8 0, .int .u8 0, .int .u8 0, .int .u8 0, .int .u8 0, .int .u8 0, .int .u8 0], .agg #[.int .u8 0, .int .u8 0, .int .u8 0, .int .u8 0, .int .u8 0, .int .u8 0, .int .u8 0, .int .u8 0, .int .u8 0, .int .u8 0, .int .u8 0, .int .u8 0, .int .u8 0, .int .u8 0, .int .u8 0, .int .u8 0, .int .u8 0, .int .u8 0, .int .u8 0, .int .u8 0]], []⟩ 8 (by kernel_rfl) (by kernel_rfl) (by kernel_rfl) (by kernel_rfl)) ?_
  intro W base args ds gs before hval0 hW hcnd _
  have hval : ∀ (j : Nat) t v, Try.f5.params[j]? = some t → args[j]? = some v → Value.okWide Try.prog W .any base t v := hval0
  have hW' := hW
  obtain ⟨p, q, hA0, hV, rfl, hfz, hnd⟩ := hW
  have hA : DataW.TrodAll enc Try.prog W 0 (fun _ => true) true Try.f5.params.toList args.toList ds p := hA0
  rw [Try.params5] at hA hval
  obtain ⟨v0, v1, d0, d1, p0, p1, rfl, rfl, rfl, h0, h1⟩ := trodAll_two hA
  obtain ⟨rfl, rfl⟩ := trodVars_none hV
  obtain ⟨l, hl, rfl, rfl, rfl⟩ := open_id (hval 0 30 v0 rfl rfl) h0
  obtain ⟨m, hm, rfl, rfl, rfl⟩ := open_id (hval 1 30 v1 rfl rfl) h1
  clear hA0 hval0
  simp only [List.append_nil] at hW'
  refine (walk l m hl hm W).mono fun e W' ⟨he, hg⟩ => ?_
  subst he
  exact ⟨_, rfl, _, _, _, [], [], [], hW', trodAll_mk1 (shut_bool Try.underlying4 _), trodAll_mk2 (shut_id hl) (shut_id hm), rfl, hg.frame _, fun h => by cases h⟩

theorem over : Rows.fnIDStringKeepsByteOrderRow.holds Try.pinned (OpenSpec.ofChange Rows.fnIDStringKeepsByteOrderSpec) :=
  OpenClaim.holds_of_wide 5 Try.f5 rfl rfl rfl rfl rfl rfl rfl ⟨rfl, rfl, rfl, rfl, rfl⟩ rfl rfl rfl rfl rfl (by kernel_rfl) Try.func5 (by kernel_rfl)
    (of_decide_eq_true (by kernel_rfl)) (by unfold Func.isWrapper; first | (rw [if_pos (by decide +kernel)]; kernel_rfl) | (rw [if_neg (by decide +kernel)]; exact ⟨rfl, rfl⟩))
    (fun os started H enc _ => lifted os started H enc)
end keeps

theorem keeps_proved : Rows.FnIDStringKeepsByteOrderSaid :=
  keeps.over
end Go.Proofs.Qxb6613783a
