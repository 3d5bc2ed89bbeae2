import Derived.Test.Qxb6613049aRows
import Derived.WalkKit
import Derived.WalkLawsBesides
import Derived.ProofKit
import Derived.OpenShut
import Derived.ShutString
import Derived.Deep.QuietTactic
import Derived.BigQuiet
namespace Go.Proofs.Qxb6613049a

/-- The fixed head of a status error's text. -/
def hd : ByteArray := { data := #[116, 104, 101, 32, 101, 110, 100, 112, 111, 105, 110, 116, 32, 97, 110, 115, 119, 101, 114, 101, 100, 32] }
theorem hd_size : hd.size = 22 := rfl

theorem bytes4_yes (c1 c2 : Int) (a b : ByteArray) (w : World) (h : a.size + b.size ≤ 1048576) :
    Calls Try.prog 13 #[.int .i64 c1, .int .i64 c2, .string a, .string b] w fun e w' => e = .returned (.bool true) ∧ w' = w := by
  go_enter Try.func13, Try.ntmps13
  go_wp2
  go_ret
  exact ⟨rfl, rfl⟩

theorem bytes4_no (c1 c2 : Int) (a b : ByteArray) (w : World) (ha : a.size ≤ maxLen) (hb : b.size ≤ maxLen) (h : 1048576 < a.size + b.size) :
    Calls Try.prog 13 #[.int .i64 c1, .int .i64 c2, .string a, .string b] w fun e w' => e = .returned (.bool false) ∧ w' = w := by
  unfold maxLen at ha hb
  go_enter Try.func13, Try.ntmps13
  go_wp2
  all_goals go_ret
  all_goals exact ⟨rfl, rfl⟩

theorem new_any (c : Int) (s : ByteArray) (w : World) :
    Calls Try.prog 15 #[.int .i64 c, .string s] w fun e w' => e = .returned (.pointer (some ⟨w.heap.size, 0, none⟩)) ∧ w' = w.alloc (.cells #[.int .i64 c, .string s] 40) := by
  go_enter Try.func15, Try.ntmps15
  go_wp2
  go_ret
  exact ⟨rfl, rfl⟩

theorem err_any (b : Nat) (s : ByteArray) (w : World) (hs : s.size ≤ 1048576) (h1 : w.cell? ⟨b, 1, none⟩ = some (.string s)) :
    Calls Try.prog 20 #[.pointer (some ⟨b, 0, none⟩)] w fun e w' => e = .returned (.string (hd ++ s)) ∧ w' = w := by
  have hsz := hd_size
  have hop : ∀ t w, (binOp .add t (.string { data := #[116, 104, 101, 32, 101, 110, 100, 112, 111, 105, 110, 116, 32, 97, 110, 115, 119, 101, 114, 101, 100, 32] }) (.string s)).run Try.prog w = .ok (.string (hd ++ s)) w := by
    intro t w
    show (binOp .add t (.string hd) (.string s)).run Try.prog w = .ok (.string (hd ++ s)) w
    generalize hd = g at hsz
    simp only [go_sem]
    rw [if_neg (by omega)]
  clear hsz
  go_enter Try.func20, Try.ntmps20
  go_wp2
  go_ret
  exact ⟨rfl, rfl⟩

theorem text_any (b : Nat) (s : ByteArray) (w : World) (hs : s.size ≤ 1048576) (h1 : w.cell? ⟨b, 1, none⟩ = some (.string s)) :
    Calls Try.prog 14 #[.pointer (some ⟨b, 0, none⟩)] w fun e w' => e = .returned (.string (hd ++ s)) ∧ w' = w := by
  go_enter Try.func14, Try.ntmps14
  go_wp2_with (go_at_call 20; refine (err_any _ _ _ hs h1).mono ?_; rintro e w' ⟨rfl, rfl⟩)
  go_ret
  exact ⟨rfl, rfl⟩

theorem suf_any (s a : ByteArray) (w : World) (hs : s.size ≤ maxLen) (hle : a.size ≤ s.size) (h : ((s.extract (s.size - a.size) s.size).toList == a.toList) = true) :
    Calls Try.prog 16 #[.string s, .string a] w fun e w' => e = .returned (.bool true) ∧ w' = w := by
  unfold maxLen at hs
  go_enter Try.func16, Try.ntmps16
  go_wp2
  go_ret
  exact ⟨rfl, rfl⟩

theorem sufx (a : ByteArray) : a.size ≤ (hd ++ a).size ∧ (((hd ++ a).extract ((hd ++ a).size - a.size) (hd ++ a).size).toList == a.toList) = true ∧ (hd ++ a).size = 22 + a.size := by
  have hsz : (hd ++ a).size = 22 + a.size := by rw [ByteArray.size_append, hd_size]
  refine ⟨by omega, ?_, hsz⟩
  have hx : (hd ++ a).extract ((hd ++ a).size - a.size) (hd ++ a).size = a := by
    have h1 : (hd ++ a).size - a.size = hd.size := by rw [ByteArray.size_append]; omega
    rw [h1, ByteArray.size_append]
    exact ByteArray.extract_append_eq_right rfl rfl
  rw [hx, beq_iff_eq]

theorem pref (a : ByteArray) : (hd ++ a).extract 0 22 = hd := by
  rw [← hd_size]
  exact ByteArray.extract_append_eq_left rfl

end Go.Proofs.Qxb6613049a
