/- *setOrder gives what sort.Sort asks. -/
import Derived.Test.Qxb6613821aDoorKeys2
namespace Go.Proofs.Qxb6613821aDoor
set_option linter.unusedVariables false
set_option linter.unusedSimpArgs false
open Ieee Go.RowKit Go.Sort Go.Lib

theorem keys_env {W0 : World} {wb kb bb sb n wd M : Nat} {bt sz : Nat → Nat} (hM : M = n * wd) (hn : n ≤ 256) (hw0 : 0 < wd) (hw : wd ≤ 5) (hwb : wb < W0.heap.size) (hkb0 : kb < W0.heap.size) (hbb0 : bb < W0.heap.size) (hsb0 : sb < W0.heap.size) (h1 : wb ≠ kb) (h2 : bb ≠ kb) (h3 : sb ≠ kb) :
    SEnv (klt bt sz wd) n (.pointer (some ⟨wb, 1, none⟩)) (KeysAt W0 wb kb bb sb n wd M bt sz) where
  size := fun d W h => h.size
  keepB := ⟨W0.heap.size, fun d W h => h.old.size, fun d W W' h hb => by
    have hc : ∀ (g o : Nat) (v : Value), g < W0.heap.size → W.cell? ⟨g, o, none⟩ = some v → W'.cell? ⟨g, o, none⟩ = some v := fun g o v hg hv => (hb.cell (p := ⟨g, o, none⟩) hg).trans hv
    exact ⟨h.size, h.lt, hc _ _ _ hwb h.f0, hc _ _ _ hwb h.f1, hc _ _ _ hwb h.f2, hc _ _ _ hwb h.f3, ⟨fun i hi => hc _ _ _ hbb0 (h.fam.bit i hi), fun i hi => hc _ _ _ hsb0 (h.fam.siz i hi)⟩, h.row.of_block (hb.block kb hkb0),
      ⟨hb.os.trans h.old.os, hb.tape.trans h.old.tape, hb.output.trans h.old.output, Nat.le_trans h.old.size hb.size, fun k hk hne => (hb.block k hk).trans (h.old.block k hk hne)⟩⟩⟩
  less := fun d W h i j hi hj => less_any hM hn hw0 hw d W h i j hi hj
  swapG := ⟨kb, fun d W h => Nat.lt_of_lt_of_le hkb0 h.old.size, fun d W h i j hi hj => (swap_any hn h1 d W h i j hi hj).mono fun e w' hh => by
    obtain ⟨he, k, rfl⟩ := hh
    exact ⟨he, h.swapped h1 h2 h3 i j hi hj k, grown_drew (grown_set (grown_set (grown_set (grown_set (grown_set (grown_set (grown_refl W (some kb)) _ _) _ _) _ _) _ _) _ _) _ _) k⟩⟩
end Go.Proofs.Qxb6613821aDoor
