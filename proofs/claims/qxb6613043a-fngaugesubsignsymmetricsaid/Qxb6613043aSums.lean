import Derived.Test.Qxb6613043aFloats
namespace Go.Proofs.Qxb6613043a
open Ieee

theorem read_neg (v : Nat) : double.read (Op.negFloat .f64 v) = (double.read v).opposite := by
  have h1 : (Op.negFloat .f64 v) / 2 ^ 63 % 2 = (v / 2 ^ 63 + 1) % 2 := by
    show (v ^^^ 2 ^ 63) / 2 ^ 63 % 2 = _
    rw [Nat.xor_div_two_pow, Nat.div_self (Nat.two_pow_pos _)]
    have hx : (v / 2 ^ 63 ^^^ 1) % 2 ^ 1 = v / 2 ^ 63 % 2 ^ 1 ^^^ 1 % 2 ^ 1 := Nat.xor_mod_two_pow
    have hx' : (v / 2 ^ 63 ^^^ 1) % 2 = v / 2 ^ 63 % 2 ^^^ 1 := hx
    rw [hx']
    have : v / 2 ^ 63 % 2 = 0 ∨ v / 2 ^ 63 % 2 = 1 := by omega
    rcases this with h | h <;> rw [Nat.add_mod, h] <;> decide
  have h2 : (Op.negFloat .f64 v) % 2 ^ 63 = v % 2 ^ 63 := by
    show (v ^^^ 2 ^ 63) % 2 ^ 63 = _
    rw [Nat.xor_mod_two_pow, Nat.mod_self, Nat.xor_zero]
  have hs : double.signWeight = 2 ^ 63 := rfl
  have h3 : ((Op.negFloat .f64 v) / 2 ^ 63 % 2 == 1) = !(v / 2 ^ 63 % 2 == 1) := by
    rw [h1]
    have : v / 2 ^ 63 % 2 = 0 ∨ v / 2 ^ 63 % 2 = 1 := by omega
    rcases this with h | h <;> rw [Nat.add_mod, h] <;> rfl
  unfold Format.read
  simp only [hs, h2, h3]
  split
  · rfl
  split
  · rfl
  split <;> rfl

theorem read_word (neg : Bool) {r : Nat} (h : r < 2 ^ 63) : double.read (double.word (!neg) r) = (double.read (double.word neg r)).opposite := by
  have key : ∀ b : Bool, (double.word b r) / 2 ^ 63 % 2 = b.toNat ∧ (double.word b r) % 2 ^ 63 = r := by
    intro b
    have hs : double.signWeight = 2 ^ 63 := rfl
    unfold Format.word
    rw [hs]
    cases b <;> simp <;> omega
  have hs : double.signWeight = 2 ^ 63 := rfl
  unfold Format.read
  simp only [hs, (key neg).1, (key neg).2, (key (!neg)).1, (key (!neg)).2]
  have h3 : ((!neg).toNat == 1) = !(neg.toNat == 1) := by cases neg <;> rfl
  rw [h3]
  split
  · rfl
  split
  · rfl
  split <;> rfl

theorem word_num (neg : Bool) {r : Nat} (h : r ≤ double.infRung) : (double.read (double.word neg r)).isNaN = false := by
  have hi : double.infRung < 2 ^ 63 := by decide
  have hs : double.signWeight = 2 ^ 63 := rfl
  have hm : (double.word neg r) % 2 ^ 63 = r := by
    unfold Format.word
    rw [hs]
    cases neg <;> simp <;> omega
  unfold Format.read
  simp only [hs, hm]
  split
  · rfl
  split
  · rfl
  split
  · rfl
  · omega

theorem order_self {d : Datum} (h : d.isNaN = false) : d.order d = some .eq := by
  cases d with
  | nan s t => simp [Datum.isNaN] at h
  | infinity s => cases s <;> rfl
  | number s m i => simp [Datum.order]

theorem nearest_word (mag : Nat) (place : Int) : ∃ r, r ≤ double.infRung ∧ ∀ neg, double.nearest neg mag place = double.word neg r := by
  unfold Format.nearest
  by_cases h : mag = 0
  · exact ⟨0, Nat.zero_le _, fun neg => by simp [h]⟩
  · refine ⟨min (((max (place + mag.log2 - double.fractionBits) double.leastPlace) - double.leastPlace).toNat * double.binade + Toward.even.cut false (mag <<< (place - (max (place + mag.log2 - double.fractionBits) double.leastPlace)).toNat) ((max (place + mag.log2 - double.fractionBits) double.leastPlace) - place).toNat) double.infRung, Nat.min_le_right _ _, fun neg => ?_⟩
    rw [if_neg h]
    rfl

theorem write_opposite {d : Datum} (h : d.isNaN = false) : (double.read (double.write d.opposite)) = (double.read (double.write d)).opposite ∧ (double.read (double.write d)).isNaN = false := by
  have hi : double.infRung < 2 ^ 63 := by decide
  cases d with
  | nan s t => simp [Datum.isNaN] at h
  | infinity s => exact ⟨read_word s hi, word_num s (Nat.le_refl _)⟩
  | number s m i =>
    obtain ⟨r, hr, hw⟩ := nearest_word m i
    show double.read (double.nearest (!s) m i) = (double.read (double.nearest s m i)).opposite ∧ (double.read (double.nearest s m i)).isNaN = false
    rw [hw, hw]
    exact ⟨read_word s (by omega), word_num s hr⟩

theorem isNaN_opposite (d : Datum) : d.opposite.isNaN = d.isNaN := by cases d <;> rfl

theorem signed_not (s : Bool) (m k : Nat) : signed (!s) m k = - signed s m k := by
  unfold signed; cases s <;> simp

theorem sum_num (d1 d2 d : Datum) (h : d1.sum d2 = some d) : d.isNaN = false := by
  cases d1 <;> cases d2 <;> simp only [Datum.sum] at h <;> first | (cases h; done) | skip
  all_goals first | (split at h <;> first | (cases h; done) | (cases h; rfl)) | (cases h; rfl)

theorem sum_none (d1 d2 : Datum) (h : d1.sum d2 = none) : d1.opposite.sum d2.opposite = none := by
  cases d1 <;> cases d2 <;> simp only [Datum.sum, Datum.opposite] at h ⊢ <;> first | (cases h; done) | skip
  split at h
  · cases h
  · rename_i s t hne
    cases s <;> cases t <;> simp_all

theorem sum_some (d1 d2 d : Datum) (h : d1.sum d2 = some d) : ∃ d', d1.opposite.sum d2.opposite = some d' ∧ d'.isNaN = false ∧
    (double.read (double.write d')).order (double.read (double.write d)).opposite = some .eq := by
  have close : ∀ e : Datum, e.isNaN = false → (double.read (double.write e.opposite)).order (double.read (double.write e)).opposite = some .eq := by
    intro e he
    obtain ⟨a, b⟩ := write_opposite he
    rw [a]
    exact order_self (by rw [isNaN_opposite]; exact b)
  have hd := sum_num d1 d2 d h
  match d1, d2, h with
  | .nan .., .nan .., h => simp [Datum.sum] at h
  | .nan .., .infinity .., h => simp [Datum.sum] at h
  | .nan .., .number .., h => simp [Datum.sum] at h
  | .infinity .., .nan .., h => simp [Datum.sum] at h
  | .number .., .nan .., h => simp [Datum.sum] at h
  | .infinity s, .infinity t, h =>
    by_cases e : s = t
    · subst e
      simp [Datum.sum] at h
      subst h
      exact ⟨.infinity !s, by simp [Datum.sum, Datum.opposite], rfl, close (.infinity s) rfl⟩
    · simp [Datum.sum, e] at h
  | .infinity s, .number .., h =>
    simp [Datum.sum] at h
    subst h
    exact ⟨.infinity !s, by simp [Datum.sum, Datum.opposite], rfl, close (.infinity s) rfl⟩
  | .number .., .infinity s, h =>
    simp [Datum.sum] at h
    subst h
    exact ⟨.infinity !s, by simp [Datum.sum, Datum.opposite], rfl, close (.infinity s) rfl⟩
  | .number s m i, .number t n j, h =>
    simp only [Datum.sum, Option.some.injEq] at h
    refine ⟨_, rfl, rfl, ?_⟩
    simp only [signed_not]
    generalize signed s m (i - min i j).toNat = A at *
    generalize signed t n (j - min i j).toNat = B at *
    have hneg : -A + -B = -(A + B) := by omega
    rw [hneg]
    generalize A + B = T at *
    by_cases hT : T = 0
    · subst hT
      subst h
      have z : ∀ b : Bool, double.read (double.write (.number b 0 (min i j))) = .number b 0 double.leastPlace := by
        intro b
        have hz : double.write (.number b 0 (min i j)) = double.word b 0 := by
          simp [Format.write, Format.nearest]
        rw [hz]
        cases b <;> rfl
      simp only [Int.neg_zero, if_true, Int.natAbs_zero]
      rw [z, z]
      cases s <;> cases t <;> decide
    · have hT' : ¬ (-T = 0) := by omega
      subst h
      rw [if_neg hT'] at *
      rw [if_neg hT] at *
      have e : Datum.number (decide (-T < 0)) (-T).natAbs (min i j) = (Datum.number (decide (T < 0)) T.natAbs (min i j)).opposite := by
        show _ = Datum.number _ _ _
        rw [Int.natAbs_neg]
        congr 1
        by_cases hl : T < 0
        · simp [hl]; omega
        · simp [hl]; omega
      rw [e]
      exact close _ rfl

/-- 'r' is what '+' of x and y may give: the rounded sum, or, where there is none, some NaN. -/
def Sums (x y r : Nat) : Prop := double.add x y = some r ∨ (double.add x y = none ∧ double.order r r = none)

theorem order_none {x : Nat} (h : (double.read x).isNaN = true) : double.order x x = none := by
  unfold Format.order
  cases hr : double.read x <;> rw [hr] at h <;> first | (cases h; done) | rfl

theorem nan_cut (x y t : Nat) : double.order (Question.cut (.nanBits .f64 x y) t) (Question.cut (.nanBits .f64 x y) t) = none := by
  apply order_none
  show (double.read ((t % 2) * 2 ^ 63 + 0x7ff0000000000000 + 1 + (t / 2) % (2 ^ 52 - 1))).isNaN = true
  have hs : double.signWeight = 2 ^ 63 := rfl
  have hb : double.binade = 2 ^ 52 := rfl
  have hi : double.infRung = 0x7ff0000000000000 := by decide
  have hm : ((t % 2) * 2 ^ 63 + 0x7ff0000000000000 + 1 + (t / 2) % (2 ^ 52 - 1)) % 2 ^ 63 = 0x7ff0000000000000 + 1 + (t / 2) % (2 ^ 52 - 1) := by omega
  unfold Format.read
  simp only [hs, hm, hb, hi]
  rw [if_neg (by omega), if_neg (by omega), if_neg (by omega)]
  rfl

theorem add_run (x y : Nat) (t : TypeId) (w : World) : ∃ r w', (binOp .add t (.float .f64 x) (.float .f64 y)).run Try.prog w = .ok (.float .f64 r) w' ∧ Sums x y r ∧ (w' = w ∨ w' = w.drew) := by
  cases h : double.add x y with
  | some r => exact ⟨r, w, run_float_arith w .add t .f64 x y r h, Or.inl h, Or.inl rfl⟩
  | none =>
    refine ⟨_, w.drew, ?_, Or.inr ⟨h, nan_cut x y (w.tape w.drawn (.nanBits .f64 x y))⟩, Or.inr rfl⟩
    have h' : FloatKind.f64.format.add x y = none := h
    simp [binOp, Op.floatArith, h', Question.forced]

theorem sub_add (x y : Nat) : double.sub x y = double.add x (Op.negFloat .f64 y) := by
  unfold Format.sub Format.add
  rw [read_neg]

theorem sub_run (x y : Nat) (t : TypeId) (w : World) : ∃ r w', (binOp .sub t (.float .f64 x) (.float .f64 y)).run Try.prog w = .ok (.float .f64 r) w' ∧ Sums x (Op.negFloat .f64 y) r ∧ (w' = w ∨ w' = w.drew) := by
  cases h : double.sub x y with
  | some r => exact ⟨r, w, run_float_arith w .sub t .f64 x y r h, Or.inl (by rw [← sub_add]; exact h), Or.inl rfl⟩
  | none =>
    refine ⟨_, w.drew, ?_, Or.inr ⟨by rw [← sub_add]; exact h, nan_cut x y (w.tape w.drawn (.nanBits .f64 x y))⟩, Or.inr rfl⟩
    have h' : FloatKind.f64.format.sub x y = none := h
    simp [binOp, Op.floatArith, h', Question.forced]

theorem sums_same {x y r s : Nat} (h : Sums x y r) (k : Sums x y s) : r = s ∨ (double.order r r = none ∧ double.order s s = none) := by
  rcases h with h | ⟨h, hr⟩ <;> rcases k with k | ⟨k, ks⟩
  · rw [h] at k; exact Or.inl (by simpa using k)
  · rw [h] at k; cases k
  · rw [h] at k; cases k
  · exact Or.inr ⟨hr, ks⟩

theorem sums_neg {x y r s : Nat} (h : Sums x y r) (k : Sums (Op.negFloat .f64 x) (Op.negFloat .f64 y) s) :
    (double.order s s = none ∧ double.order (Op.negFloat .f64 r) (Op.negFloat .f64 r) = none) ∨ (double.order s s = some .eq ∧ double.order s (Op.negFloat .f64 r) = some .eq) := by
  have ha : double.add (Op.negFloat .f64 x) (Op.negFloat .f64 y) = ((double.read x).opposite.sum (double.read y).opposite).map double.write := by
    unfold Format.add; rw [read_neg, read_neg]
  rcases h with h | ⟨h, hr⟩
  · right
    unfold Format.add at h
    obtain ⟨d, hd, rfl⟩ := Option.map_eq_some_iff.1 h
    obtain ⟨d', hd', hn, ho⟩ := sum_some _ _ _ hd
    rw [hd'] at ha
    rcases k with k | ⟨k, ks⟩
    · rw [ha] at k
      obtain rfl : double.write d' = s := by simpa using k
      refine ⟨?_, ?_⟩
      · exact order_self (write_opposite hn).2
      · unfold Format.order
        rw [read_neg]
        exact ho
    · rw [ha] at k; cases k
  · left
    have hn : (double.read x).sum (double.read y) = none := by
      unfold Format.add at h
      simpa using h
    rw [sum_none _ _ hn] at ha
    rcases k with k | ⟨k, ks⟩
    · rw [ha] at k; cases k
    · refine ⟨ks, order_none ?_⟩
      rw [read_neg, isNaN_opposite]
      unfold Format.order at hr
      cases hd : double.read r with
      | nan s t => rfl
      | infinity s => rw [hd, order_self rfl] at hr; cases hr
      | number s m i => rw [hd, order_self rfl] at hr; cases hr
end Go.Proofs.Qxb6613043a
