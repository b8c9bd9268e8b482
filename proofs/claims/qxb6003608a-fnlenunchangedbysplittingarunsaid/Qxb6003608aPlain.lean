import Derived.RowKit
namespace Go.Proofs.Qxb6003608a
open Go.RowKit (wrap64)

/-! ### THE PLAIN LAW: no Go in sight -/

/-- The exact count of the first k runs. -/
def sumTo (F G : Nat → Int) : Nat → Int
  | 0 => 0
  | k + 1 => sumTo F G k + (G k - F k + 1)

theorem wrap_zero : wrap64 0 = 0 := by unfold wrap64; omega
theorem wrap_step (S f g : Int) : wrap64 (wrap64 S + wrap64 (wrap64 (g - f) + 1)) = wrap64 (S + (g - f + 1)) := by unfold wrap64; omega
theorem wrap_add (a b : Int) : wrap64 (wrap64 a + wrap64 b) = wrap64 (a + b) := by unfold wrap64; omega
theorem wrap_gap (T f g : Int) : wrap64 (wrap64 T - wrap64 (wrap64 (f - g) - 1)) = wrap64 (T - (f - g - 1)) := by unfold wrap64; omega
theorem wrap_span (f g : Int) : wrap64 (wrap64 (g - f) + 1) = wrap64 (g - f + 1) := by unfold wrap64; omega
theorem wrap_off (a m : Int) : wrap64 (a + (m + 1 - wrap64 (m + 1))) = wrap64 a := by unfold wrap64; omega

/-- The span less the first i gaps, exactly. -/
def gapTo (F G : Nat → Int) (n : Nat) : Nat → Int
  | 0 => G (n - 1) - F 0 + 1
  | i + 1 => gapTo F G n i - (F (i + 1) - G i - 1)

theorem gap_sum (F G : Nat → Int) (n i : Nat) : gapTo F G n i = sumTo F G i + (G (n - 1) - F i + 1) := by
  induction i with
  | zero => simp [gapTo, sumTo]
  | succ i ih => simp only [gapTo, sumTo, ih]; omega

theorem gap_end (F G : Nat → Int) {n : Nat} (h : 0 < n) : gapTo F G n (n - 1) = sumTo F G n := by
  obtain ⟨m, rfl⟩ : ∃ m, n = m + 1 := ⟨n - 1, by omega⟩
  rw [gap_sum]
  simp only [Nat.add_sub_cancel, sumTo]

theorem sum_congr {F G F' G' : Nat → Int} {k : Nat} (h : ∀ i, i < k → F i = F' i ∧ G i = G' i) : sumTo F G k = sumTo F' G' k := by
  induction k with
  | zero => rfl
  | succ k ih =>
    have e := h k (by omega)
    simp only [sumTo, ih (fun i hi => h i (by omega)), e.1, e.2]

theorem sum_cut (F G : Nat → Int) (k m : Nat) : sumTo F G (k + m) = sumTo F G k + sumTo (fun i => F (k + i)) (fun i => G (k + i)) m := by
  induction m with
  | zero => simp [sumTo]
  | succ m ih => rw [← Nat.add_assoc]; simp only [sumTo, ih]; omega

/-- The firsts, run j cut at m. -/
def cutF (F : Nat → Int) (j : Nat) (m1 : Int) (i : Nat) : Int := if i ≤ j then F i else if i = j + 1 then m1 else F (i - 1)
def cutG (G : Nat → Int) (j : Nat) (m : Int) (i : Nat) : Int := if i < j then G i else if i = j then m else G (i - 1)

theorem sum_split (F G : Nat → Int) (j : Nat) (m m1 : Int) (k : Nat) : sumTo (cutF F j m1) (cutG G j m) (j + 2 + k) = sumTo F G (j + 1 + k) + (m + 1 - m1) := by
  induction k with
  | zero =>
    have h : sumTo (cutF F j m1) (cutG G j m) j = sumTo F G j := sum_congr (fun i hi => by simp [cutF, cutG, hi, Nat.le_of_lt hi])
    have e1 : cutF F j m1 j = F j := by simp [cutF]
    have e2 : cutG G j m j = m := by simp [cutG]
    have e3 : cutF F j m1 (j + 1) = m1 := by unfold cutF; rw [if_neg (by omega), if_pos rfl]
    have e4 : cutG G j m (j + 1) = G j := by unfold cutG; rw [if_neg (by omega), if_neg (by omega), Nat.add_sub_cancel]
    simp only [sumTo, h, e1, e2, e3, e4]
    omega
  | succ k ih =>
    have e1 : cutF F j m1 (j + 2 + k) = F (j + 1 + k) := by
      unfold cutF; rw [if_neg (by omega), if_neg (by omega), show j + 2 + k - 1 = j + 1 + k by omega]
    have e2 : cutG G j m (j + 2 + k) = G (j + 1 + k) := by
      unfold cutG; rw [if_neg (by omega), if_neg (by omega), show j + 2 + k - 1 = j + 1 + k by omega]
    rw [← Nat.add_assoc, ← Nat.add_assoc]
    simp only [sumTo, ih, e1, e2]
    omega

end Go.Proofs.Qxb6003608a
