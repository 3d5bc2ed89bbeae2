/- sort.Slice over the pairs. -/
import Derived.Test.Qxb6613821aDoorShelf
import Derived.Test.Qxb6613821aDoorFlat
import Derived.Test.Qxb6613821aDoorSeek
import Derived.Sort.AssemblyPlain
import Derived.Shelf.GgSortFunc.Tiny
namespace Go.Proofs.Qxb6613821aDoor
set_option linter.unusedVariables false
set_option linter.unusedSimpArgs false
open Ieee Go.Shelf Go.RowKit Go.Lib Go.Sort

def encP (D : Nat → Nat → Nat) (p : Nat × Nat) : List Value := [.int .i64 (p.1 : Int), .int .i64 (p.2 : Int), .float .f64 (D p.1 p.2)]
def ltP (D : Nat → Nat → Nat) (x y : Nat × Nat) : Bool := decide (q (D y.1 y.2) < q (D x.1 x.2))
theorem swo_ltP (D : Nat → Nat → Nat) : SWO (ltP D) where
  irrefl := fun x => by simp [ltP]
  trans := fun x y z h1 h2 => by simp [ltP] at *; omega
  ntrans := fun x y z h1 h2 => by simp [ltP] at *; omega

def svI (P : Program) (t : TypeId) : TypeInfo := (P.info? t).getD default
theorem svK (n : Nat) (h2 : 2 ≤ n) : Lib.swapperK n (svI Tryd.prog 45) 25 = 9 := by
  have a : (svI Tryd.prog 45).hasPointers = false := by kernel_rfl
  have b : (svI Tryd.prog 45).bytes = 24 := by kernel_rfl
  have c : (n == 0) = false := by simp; omega
  have d : (n == 1) = false := by simp; omega
  simp [Lib.swapperK, a, b, c, d]
theorem svK1 : Lib.swapperK 1 (svI Tryd.prog 45) 25 = 2 := by simp [Lib.swapperK]

set_option maxHeartbeats 2000000 in
theorem less_pairs (blk off c Bs size : Nat) (W : World) (G : Nat → Nat) (hs : W.cell? ⟨Bs, 0, none⟩ = some (.slice (some ⟨blk, off, none⟩) size c))
    (hc : ∀ t, t < size → W.cell? ⟨blk, off + t * 3 + 2, none⟩ = some (.float .f64 (G t))) (hG : ∀ t, nf (G t) = true) (i j : Nat) (hi : i < size) (hj : j < size) (_hsz : size < 4611686018427387904) :
    Calls Tryd.prog 23 #[.int .i64 i, .int .i64 j, .pointer (some ⟨Bs, 0, none⟩)] W fun e w' => e = .returned (.bool (decide (q (G j) < q (G i)))) ∧ ∃ q, w' = W.drewN q := by
  have ci := hc i hi
  have cj := hc j hj
  have HG : Hid ((FloatKind.f64.format.order (G i) (G j) == some .gt) = decide (q (G j) < q (G i))) := (order_gt (hG i) (hG j)).trans (flt_q (hG j) (hG i))
  clear hc hG
  generalize G i = gi at *
  generalize G j = gj at *
  go_enter Tryd.func23, Tryd.ntmps23
  go_wp2
  go_quiet (fail)
  go_wp2
  go_ret
  exact ⟨by rw [← HG.out]; rfl, nq, rfl⟩

set_option maxRecDepth 100000 in
theorem sortPairs_any (D : Nat → Nat → Nat) (hD : ∀ i j, nf (D i j) = true) (blk off c Bs : Nat) (d : Array (Nat × Nat)) (h2 : 2 ≤ d.size) (hsz : d.size < 4611686018427387904) (w : World) (hH : HoldsK (encP D) 3 w blk off d) (hblk : blk < w.heap.size)
    (hBs : w.cell? ⟨Bs, 0, none⟩ = some (.slice (some ⟨blk, off, none⟩) d.size c)) (hB1 : Bs < w.heap.size) (hB2 : Bs ≠ blk) :
    Calls Tryd.prog 22 #[.iface 43 (.slice (some ⟨blk, off, none⟩) d.size c), .func (.func 23) #[] #[.pointer (some ⟨Bs, 0, none⟩)]] w fun e w' =>
      e = .returned (.tuple #[]) ∧ ∃ n os, w' = grow (putRowK (encP D) 3 (Sort.ahead w n) blk off (pdq (ltP D) d 0 d.size (Lib.bitLen d.size) true true)) os := by
  have hless : LessReadsK Tryd.prog 23 #[.pointer (some ⟨Bs, 0, none⟩)] (encP D) 3 (ltP D) blk off d.size w := by
    intro m os dk hs i j hi hj
    have e : sortWorldK (encP D) 3 w blk off m dk os = putRowK (encP D) 3 (grow (Sort.ahead w m) os) blk off dk := by
      unfold sortWorldK; rw [putRowK_grow _ _ (Sort.ahead w m) _ blk off _ hblk]
    have hHg : HoldsK (encP D) 3 (grow (Sort.ahead w m) os) blk off d := holdsK_grow _ _ _ _ blk off d hblk (holdsK_ahead _ _ _ _ _ _ _ hH)
    refine less_pairs blk off c Bs d.size _ (fun t => D dk[t]!.1 dk[t]!.2) ?_ (fun t ht => ?_) (fun t => hD _ _) i j hi hj (by omega)
    · rw [e, cell?_putRowK_other _ _ _ blk off dk _ (by exact hB2), cell?_grow _ _ _ (by exact hB1)]; exact hBs
    · rw [e]; exact ((holdsK_putRowK _ _ _ blk off d dk hHg hs).cell (i := t) (c := 2) (by omega) (by omega)).1
  exact Any.sort_Slice_cells_eq Tryd.laysGg6 43 45 (svI Tryd.prog 43) (svI Tryd.prog 45) (by kernel_rfl) (by kernel_rfl) (by kernel_rfl) (by kernel_rfl) 25 (fun _ => by kernel_rfl) (encP D) 3 (fun _ => rfl) (by kernel_rfl) (fun _ => by kernel_rfl)
    (fun x v hv => by simp [encP] at hv; rcases hv with rfl | rfl | rfl <;> rfl) (ltP D) (swo_ltP D) 23 _
    (enters_of Tryd.func23 (by kernel_rfl) rfl) blk off c d h2 hsz 47 (by rw [svK _ h2]; kernel_rfl) false
    (fun args W => run_callFunc_extern Tryd.func47 (by kernel_rfl) (by kernel_rfl) (by kernel_rfl) (e := Extern.ReflectliteSwapper.swap false) (by kernel_rfl) args W) w hless hH hblk

theorem fr_sorted {α : Type} [Inhabited α] (enc : α → List Value) (k : Nat) {w : World} {g m : Nat} {os : Array Obj} (d : Array α) : Fr (fun b => b = g) w (grow (putRowK enc k (Sort.ahead w m) g 0 d) os) := by
  refine ⟨rfl, rfl, rfl, by simp [grow, putRowK], fun b hb hne => ?_⟩
  show ((putRow id (Sort.ahead w m) g 0 (flatK enc k d)).heap ++ os)[b]? = _
  rw [Array.getElem?_append_left (by rw [size_putRow]; exact hb)]
  unfold putRow mapBlock
  rw [Array.getElem?_modify, if_neg (fun e => hne e.symm)]
  rfl

/-- The pairs in order. -/
def sortP (D : Nat → Nat → Nat) (d : Array (Nat × Nat)) : Array (Nat × Nat) := if d.size ≤ 1 then d else pdq (ltP D) d 0 d.size (Lib.bitLen d.size) true true

set_option maxRecDepth 100000 in
theorem sortSl_any (D : Nat → Nat → Nat) (hD : ∀ i j, nf (D i j) = true) (blk c Bs : Nat) (d : Array (Nat × Nat)) (h1 : 1 ≤ d.size) (hsz : d.size < 4611686018427387904) (w : World) (hH : HoldsK (encP D) 3 w blk 0 d) (hblk : blk < w.heap.size)
    (hBs : w.cell? ⟨Bs, 0, none⟩ = some (.slice (some ⟨blk, 0, none⟩) d.size c)) (hB1 : Bs < w.heap.size) (hB2 : Bs ≠ blk) :
    Calls Tryd.prog 22 #[.iface 43 (.slice (some ⟨blk, 0, none⟩) d.size c), .func (.func 23) #[] #[.pointer (some ⟨Bs, 0, none⟩)]] w fun e w' =>
      e = .returned (.tuple #[]) ∧ Fr (fun k => k = blk) w w' ∧ HoldsK (encP D) 3 w' blk 0 (sortP D d) := by
  by_cases h2 : 2 ≤ d.size
  · refine (sortPairs_any D hD blk 0 c Bs d h2 hsz w hH hblk hBs hB1 hB2).mono ?_
    rintro e w' ⟨rfl, m, os, rfl⟩
    refine ⟨rfl, fr_sorted _ _ _, ?_⟩
    have e1 : sortP D d = pdq (ltP D) d 0 d.size (Lib.bitLen d.size) true true := by unfold sortP; rw [if_neg (by omega)]
    rw [e1]
    obtain ⟨⟨hs, _, _⟩, _⟩ := pdq_sorts (ltP D) (swo_ltP D) d 0 d.size (Lib.bitLen d.size) true true (Nat.zero_le _) (Nat.le_refl _) (Or.inl rfl)
    exact holdsK_grow _ _ _ _ blk 0 _ (by simpa [putRowK] using hblk) (holdsK_putRowK _ _ _ blk 0 d _ (holdsK_ahead _ _ _ _ _ _ _ hH) hs)
  · have hd : d.size = 1 := by omega
    have e1 : sortP D d = d := by unfold sortP; rw [if_pos (by omega)]
    rw [e1]
    have h := Any.sort_Slice_tiny Tryd.laysGg6 43 45 (svI Tryd.prog 43) (svI Tryd.prog 45) (by kernel_rfl) (by kernel_rfl) (by kernel_rfl) (by kernel_rfl) 25 (fun _ => by kernel_rfl) (some ⟨blk, 0, none⟩) d.size c (by omega) 40 (by rw [hd, svK1]; kernel_rfl) (.func 23) #[] #[.pointer (some ⟨Bs, 0, none⟩)] w
    refine h.mono ?_
    rintro e w' ⟨rfl, os, rfl⟩
    refine ⟨rfl, ?_, holdsK_grow _ _ _ _ blk 0 d hblk hH⟩
    refine ⟨rfl, rfl, rfl, by simp [grow], fun b hb _ => ?_⟩
    show (w.heap ++ os)[b]? = _
    rw [Array.getElem?_append_left hb]
end Go.Proofs.Qxb6613821aDoor
