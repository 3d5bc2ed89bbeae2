import Derived.Test.Qxb6613049aWalks
namespace Go.Proofs.Qxb6613049a
namespace names
open Go.ChangeShapes Go.WideShapes Go.ChangeAt Go.RowKit
open Go.ChangeMaps (open_string shut_string)

theorem own : ownKnob Try.prog.godebug = none := by kernel_rfl

theorem walk (a0 : Int) (a1 : Int) (a2 : ByteArray) (a3 : ByteArray) (w2 : a2.size ≤ maxLen) (w3 : a3.size ≤ maxLen) (w : World) :
    Calls Try.prog 4 #[.int .i64 a0, .int .i64 a1, .string a2, .string a3] w fun e w' => e = .returned (.bool true) ∧ Grown w w' := by
  by_cases hb : a2.size + a3.size ≤ 1048576
  · by_cases hq : 524288 < a2.size ∨ 524288 < a3.size
    · go_enter Try.func4, Try.ntmps4
      go_wp2_with (go_at_call 13; refine (bytes4_yes _ _ _ _ _ hb).mono ?_; rintro e w' ⟨rfl, rfl⟩)
      all_goals first | omega | (go_ret; exact ⟨rfl, Grown.refl _⟩)
    · have hq2 : a2.size ≤ 524288 := by omega
      have hq3 : a3.size ≤ 524288 := by omega
      clear hq w2 w3
      have f2 := sufx a2
      have f3 := sufx a3
      have he : ((hd ++ a2).toList == (hd ++ a3).toList) = (a2.toList == a3.toList) := by
        simp only [ByteArray.toList_eq, ByteArray.data_append, Array.toList_append]
        rw [Bool.eq_iff_iff]
        simp
      have hp : ((hd ++ a2).extract 0 22).toList == ((hd ++ a3).extract 0 22).toList := by rw [pref, pref]; simp
      go_enter Try.func4, Try.ntmps4
      go_wp2_with (go_at_call 13; refine (bytes4_yes _ _ _ _ _ hb).mono ?_; rintro e w' ⟨rfl, rfl⟩)
      refine (new_any _ _ _).mono ?_
      rintro e w1 ⟨rfl, rfl⟩
      go_wp2_with fail
      refine (text_any _ a2 _ (by omega) ?_).mono ?_
      · simp
      rintro e w1 ⟨rfl, rfl⟩
      go_wp2_with fail
      refine (new_any _ _ _).mono ?_
      rintro e w1 ⟨rfl, rfl⟩
      go_wp2_with fail
      refine (text_any _ a3 _ (by omega) ?_).mono ?_
      · simp
      rintro e w1 ⟨rfl, rfl⟩
      generalize hd ++ a2 = e1 at *
      generalize hd ++ a3 = e2 at *
      obtain ⟨l2, s2, z2⟩ := f2
      obtain ⟨l3, s3, z3⟩ := f3
      have y2 : e1.size ≤ maxLen := by unfold maxLen; omega
      have y3 : e2.size ≤ maxLen := by unfold maxLen; omega
      go_wp2_with fail
      refine (suf_any _ _ _ y2 l2 s2).mono ?_
      rintro e w1 ⟨rfl, rfl⟩
      go_wp2_with fail
      refine (suf_any _ _ _ y3 l3 s3).mono ?_
      rintro e w1 ⟨rfl, rfl⟩
      clear s2 s3 he
      go_wp2
      go_region
      all_goals go_wp2
      all_goals go_ret
      all_goals exact ⟨rfl, ((Grown.refl _).alloc _ _).alloc _ _ |>.drew⟩
  · go_enter Try.func4, Try.ntmps4
    go_wp2_with (go_at_call 13; refine (bytes4_no _ _ _ _ _ w2 w3 (by omega)).mono ?_; rintro e w' ⟨rfl, rfl⟩)
    go_ret
    exact ⟨rfl, Grown.refl _⟩

set_option maxRecDepth 100000 in
theorem lifted (os : Os) (started : os.Started) (H : Type) (enc : TypeId × Value → H) :
    ReturnsInHanded {} Try.checked os 4 .any (Rows.fnStatusErrorTextNamesStatusOnlySpec.pre6 enc Try.prog Try.f4 Rows.fnStatusErrorTextNamesStatusOnlyRow.domain false) (Rows.fnStatusErrorTextNamesStatusOnlySpec.post enc Try.prog Try.f4 false true false false) := by
  refine returnsInHanded_of_change (C := Try.checked) own started (by kernel_rfl) Try.func4
    (ChangeSpec.witness6 (enc := enc) (C := Try.checked) false ⟨#[], #[.int .i64 0, .int .i64 0, .string ByteArray.empty, .string ByteArray.empty], []⟩ 8 (by kernel_rfl) (by kernel_rfl) (by kernel_rfl) (by kernel_rfl)) ?_
  intro W base args ds gs before hval0 hW hcnd _
  have hval : ∀ (j : Nat) t v, Try.f4.params[j]? = some t → args[j]? = some v → Value.okWide Try.prog W .any base t v := hval0
  have hW' := hW
  obtain ⟨p, q, hA0, hV, rfl, hfz, hnd⟩ := hW
  have hA : DataW.TrodAll enc Try.prog W 0 (fun _ => true) true Try.f4.params.toList args.toList ds p := hA0
  rw [Try.params4] at hA hval
  obtain ⟨v0, vs0, d0, ds0, p0, q0, hargs, rfl, rfl, h0, r0⟩ := trodAll_cons hA
  obtain ⟨v1, vs1, d1, ds1, p1, q1, rfl, rfl, rfl, h1, r1⟩ := trodAll_cons r0
  obtain ⟨v2, vs2, d2, ds2, p2, q2, rfl, rfl, rfl, h2, r2⟩ := trodAll_cons r1
  obtain ⟨v3, vs3, d3, ds3, p3, q3, rfl, rfl, rfl, h3, r3⟩ := trodAll_cons r2
  obtain ⟨rfl, rfl, rfl⟩ := trodAll_nil r3
  obtain rfl : args = #[v0, v1, v2, v3] := by cases args; simp_all
  obtain ⟨rfl, rfl⟩ := trodVars_none hV
  obtain ⟨a0, rfl, rfl, rfl, w0⟩ := open_int Try.underlying3 (hval 0 3 v0 rfl rfl) h0
  obtain ⟨a1, rfl, rfl, rfl, w1⟩ := open_int Try.underlying3 (hval 1 3 v1 rfl rfl) h1
  obtain ⟨a2, rfl, rfl, rfl, w2⟩ := open_string Try.underlying9 (hval 2 9 v2 rfl rfl) h2
  obtain ⟨a3, rfl, rfl, rfl, w3⟩ := open_string Try.underlying9 (hval 3 9 v3 rfl rfl) h3
  clear hA0 hval0
  simp only [List.append_nil] at hW'
  refine (walk a0 a1 a2 a3 w2 w3 W).mono fun e W' ⟨he, hg⟩ => ?_
  subst he
  exact ⟨_, rfl, post_of_same (pa := []) (pv := []) hW' (fun _ _ _ => (trodAll_cons_mk (shut_bool Try.underlying4 _) trodAll_mk0)) (fun sp _ => (trodAll_cons_mk (shut_int Try.underlying3 w0) (trodAll_cons_mk (shut_int Try.underlying3 w1) (trodAll_cons_mk (shut_string Try.underlying9 w2) (trodAll_cons_mk (shut_string Try.underlying9 w3) trodAll_mk0))))) (fun _ _ => rfl) rfl
    (hg.frame _) hg.2.1 (ok_one (by kernel_rfl) rfl (okWide_bool_mk Try.underlying4 _))⟩

theorem over : Rows.fnStatusErrorTextNamesStatusOnlyRow.holds Try.pinned (OpenSpec.ofChange Rows.fnStatusErrorTextNamesStatusOnlySpec) :=
  OpenClaim.holds_of_wide 4 Try.f4 rfl rfl rfl rfl rfl rfl rfl ⟨rfl, rfl, rfl, rfl, rfl⟩ rfl rfl rfl rfl rfl (by kernel_rfl) Try.func4 (by kernel_rfl)
    (of_decide_eq_true (by kernel_rfl)) (by unfold Func.isWrapper; first | (rw [if_pos (by decide +kernel)]; kernel_rfl) | (rw [if_neg (by decide +kernel)]; exact ⟨rfl, rfl⟩))
    (fun os started H enc _ => lifted os started H enc)

end names

theorem names_proved : Rows.FnStatusErrorTextNamesStatusOnlySaid :=
  names.over
end Go.Proofs.Qxb6613049a
