import Derived.Test.Qxb6613821aDoorRadius
import Derived.Test.Qxb6613821aDoorMem
namespace Go.Proofs.Qxb6613821aDoor
set_option linter.unusedVariables false
set_option linter.unusedSimpArgs false
open Ieee Go.RowKit

theorem MatAt.keep {w w' : World} {b o n : Nat} {rb ro rc : Nat → Nat} {D : Nat → Nat → Nat} (h : MatAt w b o n rb ro rc D) {B : Nat} (hB : w.heap.size ≤ B) (hb : Below B w w') : MatAt w' b o n rb ro rc D :=
  ⟨fun i hi => (hb.cell (Nat.lt_of_lt_of_le (World.block_lt_of_cell? _ _ (h.row i hi)) hB)).trans (h.row i hi),
   fun i j hi hj => (hb.cell (Nat.lt_of_lt_of_le (World.block_lt_of_cell? _ _ (h.el i j hi hj)) hB)).trans (h.el i j hi hj)⟩

theorem nest_made (w : World) (n : Nat) : Nest (w.alloc (.cells (madeCells #[.slice none 0 0] n) 29)) w.heap.size (List.replicate n (.slice none 0 0)) (List.replicate n []) := by
  have hm : madeCells #[Value.slice none 0 0] n = (List.replicate n (Value.slice none 0 0)).toArray := by
    apply Array.ext'
    rw [toList_madeCells_one]
  refine ⟨by rw [hm]; exact heap_alloc_new w _, by simp, fun i v l hv hl => ?_, fun i j v v' hv _ _ => ?_⟩
  · obtain ⟨_, rfl⟩ := List.mem_replicate.1 (List.mem_of_getElem? hv)
    obtain ⟨_, rfl⟩ := List.mem_replicate.1 (List.mem_of_getElem? hl)
    exact World.ownsRow_nil _ _ _ _
  · obtain ⟨_, rfl⟩ := List.mem_replicate.1 (List.mem_of_getElem? hv)
    exact Or.inl rfl

theorem info29 : (Tryd.prog.info? 29).map (fun i => (i.zero, i.size, i.bytes)) = some (some (.slice none 0 0), 1, 24) := by kernel_rfl

set_option maxHeartbeats 4000000 in
theorem balls_any (b o n cap r : Nat) (rb ro rc : Nat → Nat) (D : Nat → Nat → Nat) (w : World) (hM : MatAt w b o n rb ro rc D) (hF : NF D n) (hr : nf r = true) (hn : n ≤ 256) :
    Calls Tryd.prog 18 #[.slice (some ⟨b, o, none⟩) n cap, .float .f64 r] w fun e w' => e = .returned (.slice (some ⟨w.heap.size, 0, none⟩) n n) ∧ Below w.heap.size w w' ∧ ∃ vs, Nest w' w.heap.size vs (balls D n r) := by
  have hmk : ∀ w : World, (Instr.makeSlice 25 (.int .i64 (n : Int)) (.int .i64 (n : Int))).run Tryd.prog w = .ok (.slice (some ⟨w.heap.size, 0, none⟩) n n) (w.alloc (.cells (madeCells #[.slice none 0 0] n) 29)) := fun w =>
    run_make_row' (P := Tryd.prog) 25 29 (.slice none 0 0) 24 Tryd.underlying25 info29 rfl .i64 .i64 n (by omega) (by omega) w
  have HM : Hid (MatAt w b o n rb ro rc D) := hM
  have HF : Hid (NF D n) := hF
  have HR : Hid (nf r = true) := hr
  clear hM hF hr
  go_enter Tryd.func18, Tryd.ntmps18
  go_wp2
  clear hmk
  go_loopw [15] (fun vu wr => ∃ (u : Nat) (vs : List Value), u ≤ n ∧ vu = .int .i64 u ∧ Hid (Below w.heap.size w wr) ∧ Hid (Nest wr w.heap.size vs (bl D n r u 0))) (fun vu _ => n - (intOf vu).toNat)
  case atStart => exact ⟨0, _, Nat.zero_le _, rfl, (Below.refl _ _).alloc (Nat.le_refl _) _, by show Nest _ _ _ _; rw [bl_start]; exact nest_made w n⟩
  case round =>
    obtain ⟨u, vs, hu, rfl, HB, HN⟩ := hrel
    by_cases hlt : u < n
    · have hr1 := (HM.out.keep (Nat.le_refl _) HB.out).row u hlt
      go_wp2
      clear hr1
      go_loopw [22] (fun vx wr => ∃ (x : Nat) (vs : List Value), x ≤ n ∧ vx = .int .i64 x ∧ Hid (Below w.heap.size w wr) ∧ Hid (Nest wr w.heap.size vs (bl D n r u x))) (fun vx _ => n - (intOf vx).toNat)
      case atStart => exact ⟨0, vs, Nat.zero_le _, rfl, HB, HN⟩
      case round =>
        clear HB HN vs
        obtain ⟨x, vs, hx, rfl, HB, HN⟩ := hrel
        by_cases hxn : x < n
        · have he := (HM.out.keep (Nat.le_refl _) HB.out).el u x hlt hxn
          have hc := fun w => atMost_any (D u x) r (HF.out u x hlt hxn) HR.out w
          cases ha : am (D u x) r with
          | false =>
            rw [ha] at hc
            have HC : Hid (∀ w, Calls Tryd.prog 24 #[.float .f64 (D u x), .float .f64 r] w fun e_1 w' => e_1 = .returned (.bool false) ∧ w' = w) := hc
            clear hc
            go_wp2_with fail
            refine (HC.out _).mono ?_
            rintro e' w' ⟨rfl, rfl⟩
            go_wp2
            go_roundw
            case rel => exact ⟨x + 1, vs, by omega, by go_num, HB, by show Nest _ _ _ _; rw [bl_no D n r u x ha]; exact HN.out⟩
            case measure => simp [intOf]; omega
          | true =>
            rw [ha] at hc
            have HC : Hid (∀ w, Calls Tryd.prog 24 #[.float .f64 (D u x), .float .f64 r] w fun e_1 w' => e_1 = .returned (.bool true) ∧ w' = w) := hc
            clear hc
            obtain ⟨v, l, hv, hll, hown⟩ := HN.out.rows.has (i := u) (by rw [bl_length]; exact hlt)
            have HL : Hid ((bl D n r u (x + 1)) = (bl D n r u x).set u (l ++ [x])) := by
              rw [bl_at D n r u x hlt] at hll
              cases hll
              exact bl_yes D n r u x hlt ha
            have hlen : l.length ≤ 256 := by
              rw [bl_at D n r u x hlt] at hll
              cases hll
              refine Nat.le_trans (List.length_filter_le _ _) ?_
              simp; omega
            have hul : u < vs.length := by rw [HN.out.rows.len, bl_length]; exact hlt
            clear hll
            have hcell := HN.out.cell u
            rw [hv] at hcell
            have hwsz : w.heap.size < wr.heap.size := HN.out.lt
            have HV : Hid (vs[u]? = some v) := hv
            have HO : Hid (wr.ownsRow (w.heap.size + 1) 3 1 v l.length (ints l)) := hown
            clear hv hown ha
            go_wp2_with fail
            refine (HC.out _).mono ?_
            rintro e' w' ⟨rfl, rfl⟩
            go_wp2_with (
              at_builtin
              refine wpList_append_int rfl _ _ rfl (w.heap.size + 1) v l rfl (HO.out.alloc _) _ _ x rfl (by simp) (by omega) (by simp; omega) ?_
              intro g' c' w2 hown' hg' hw'
              have hne : some w.heap.size ≠ v.ownBlock := by
                intro e
                exact absurd (HO.out.lt _ e.symm).1 (by omega)
              have hc2 : w2.cell? ⟨w.heap.size, u, none⟩ = some v := hg'.cell (by rw [World.cell?_alloc_lt _ _ _ hwsz]; exact hcell) hne
              have hout2 : w2.heap[w.heap.size]? = some (.cells vs.toArray 29 (0, 0)) := (hg'.block _ (by simp; omega) hne).trans ((Below.heap_alloc w' _ _ hwsz).trans HN.out.out)
              have hf2 : w2.frozen? ⟨w.heap.size, u, none⟩ = false := frozen_of_row w2 _ u _ _ hout2
              have HR2 : Hid (RowsOf w2 (w.heap.size + 1) (vs.set u (.slice (some ⟨g', 0, none⟩) (l.length + 1) c')) ((bl D n r u x).set u (l ++ [x]))) :=
                (HN.out.rows.keep ((Below.refl _ _).alloc (Nat.le_refl _) _)).appended HV.out hown' hg' (by simpa [Value.ownBlock] using hw')
              have HB2 : Hid (Below w.heap.size w w2) := (HB.out.trans ((Below.refl _ _).alloc (by omega) _)).trans (Below.of_grown hg' (fun k hk => by have := (HO.out.lt k hk).1; omega) (by simp; omega))
              have HOut2 : Hid (w2.heap[w.heap.size]? = some (.cells vs.toArray 29 (0, 0))) := hout2
              clear hown' hg' hw' hne hout2)
            go_roundw
            case rel => exact ⟨x + 1, _, by omega, by go_num, HB2.out.setCell (Nat.le_refl _) _, by show Nest _ _ _ _; rw [HL.out]; exact Nest.stored HOut2.out hul HR2.out⟩
            case measure => simp [intOf]; omega
        · go_wp2
          go_roundw
          case rel => exact ⟨u + 1, vs, by omega, by go_num, HB, by have h := HN.out; rw [show x = n from by omega, bl_next] at h; exact h⟩
          case measure => simp [intOf]; omega
    · go_wp2
      go_ret
      exact ⟨rfl, HB.out, vs, by have h := HN.out; rw [show u = n from by omega, bl_end] at h; exact h⟩
end Go.Proofs.Qxb6613821aDoor
