import Derived.Test.Qxb6601089aBase
namespace Go.Proofs.Qxb6601089a
open Go.RowKit

theorem ret_bool {a b : Bool} (h : a = b) : Ending.returned (.bool a) = .returned (.bool b) := by rw [h]

/-! ### THE PLAIN LAW: no Go in sight -/

/-- A digit. -/
def isD (z : Int) : Bool := decide (48 ≤ z) && decide (z ≤ 57)
/-- How many digits from place k on. -/
def cnt (zs : List Int) (k : Nat) : Nat := (zs.drop k).countP isD

theorem cnt_end (zs : List Int) {k : Nat} (h : zs.length ≤ k) : cnt zs k = 0 := by simp [cnt, List.drop_of_length_le h]
theorem cnt_step (zs : List Int) {k : Nat} (h : k < zs.length) : cnt zs k = cnt zs (k + 1) + if isD (zs.getD k 0) then 1 else 0 := by
  have e : zs.getD k 0 = zs[k] := by simp [List.getD, List.getElem?_eq_getElem h]
  unfold cnt
  rw [List.drop_eq_getElem_cons h, List.countP_cons, e]
theorem cnt_le (zs : List Int) (k : Nat) : cnt zs k ≤ zs.length := by
  have h1 := List.countP_le_length (p := isD) (l := zs.drop k)
  rw [List.length_drop] at h1
  unfold cnt
  omega
theorem cnt_all (zs : List Int) : (((cnt zs 0 : Nat) : Int) == ((zs.length : Nat) : Int)) = zs.all isD := by
  have h : cnt zs 0 = zs.length ↔ zs.all isD = true := by
    unfold cnt
    rw [List.drop_zero, List.countP_eq_length, List.all_eq_true]
  rw [Bool.eq_iff_iff, beq_iff_eq, ← h]
  omega

theorem isD_lo {z : Int} (h : z < 48) : isD z = false := by unfold isD; rw [decide_eq_false (by omega), Bool.false_and]
theorem isD_hi {z : Int} (h : 57 < z) : isD z = false := by unfold isD; rw [decide_eq_false (show ¬ z ≤ 57 by omega), Bool.and_false]
theorem isD_in {z : Int} (h : ¬ z < 48) (h' : ¬ 57 < z) : isD z = true := by unfold isD; rw [decide_eq_true (show 48 ≤ z by omega), decide_eq_true (show z ≤ 57 by omega)]; rfl

theorem byte_digit {z : Int} (h0 : 0 ≤ z) (h1 : z ≤ 255) : decide ((z - 48) % 256 < 10) = isD z := by
  unfold isD
  rw [Bool.eq_iff_iff]
  simp
  omega

/-! ### THE WALKS -/

set_option maxHeartbeats 400000 in
/-- 'allDigits' -/
theorem digits_any (B : Nat) (a : Option Addr) (n cap : Nat) (zs : List Int) (w : World) (hZ : RowB B w a zs) (hl : Hid (zs.length = n)) (hn : n ≤ 1048576) :
    Calls Try.prog 9 #[.slice a n cap] w fun e w' => e = .returned (.bool (zs.all isD)) ∧ w' = w := by
  go_enter Try.func9, Try.ntmps9
  go_wp2
  go_loop [7] (fun i => ∃ k : Nat, k ≤ n ∧ i = .int .i64 k ∧ (zs.take k).all isD = true) (fun i => n - (intOf i).toNat)
  case atStart => exact ⟨0, Nat.zero_le _, rfl, by simp⟩
  case round =>
    obtain ⟨k, hk, rfl, hall⟩ := hrel
    by_cases hlt : k < n
    · obtain ⟨b, off, rfl, _, hc⟩ := hZ.at (k := k) (by have := hl.out; omega)
      have hkl : k < zs.length := by have := hl.out; omega
      have hck := hc k hkl
      have e : zs.getD k 0 = zs[k] := by simp [List.getD, List.getElem?_eq_getElem hkl]
      by_cases h1 : zs.getD k 0 < 48
      · have hfin : Hid (zs.all isD = false) := by
          rw [Hid, List.all_eq_false]
          exact ⟨zs[k], List.getElem_mem hkl, by rw [← e, isD_lo h1]; simp⟩
        clear hc hZ hall e hkl
        generalize zs.getD k 0 = z at hck h1
        go_wp2
        go_ret
        exact ⟨ret_bool hfin.out.symm, rfl⟩
      by_cases h2 : 57 < zs.getD k 0
      · have hfin : Hid (zs.all isD = false) := by
          rw [Hid, List.all_eq_false]
          exact ⟨zs[k], List.getElem_mem hkl, by rw [← e, isD_hi h2]; simp⟩
        clear hc hZ hall e hkl
        generalize zs.getD k 0 = z at hck h1 h2
        have h1' : decide (z < 48) = false := decide_eq_false h1
        go_wp2
        go_ret
        exact ⟨ret_bool hfin.out.symm, rfl⟩
      · have hfin : Hid ((zs.take (k + 1)).all isD = true) := by
          rw [Hid, List.take_succ_eq_append_getElem hkl, List.all_append, hall, ← e, List.all_cons, isD_in h1 h2]
          rfl
        clear hc hZ hall e hkl
        generalize zs.getD k 0 = z at hck h1 h2
        have h1' : decide (z < 48) = false := decide_eq_false h1
        go_wp2
        go_round
        case rel => exact ⟨k + 1, by omega, by go_num, hfin.out⟩
        case measure => simp [intOf]; omega
    · have hfin : Hid (zs.all isD = true) := by
        rw [List.take_of_length_le (by have := hl.out; omega)] at hall
        exact hall
      clear hall hZ
      go_wp2
      go_ret
      exact ⟨ret_bool hfin.out.symm, rfl⟩

theorem zzdigits_any (B : Nat) (a : Option Addr) (n cap : Nat) (zs : List Int) (w : World) (hZ : RowB B w a zs) (hl : Hid (zs.length = n)) (hn : n ≤ 1048576) :
    Calls Try.prog 7 #[.slice a n cap] w fun e w' => e = .returned (.bool (zs.all isD)) ∧ w' = w := by
  have H : Hid (Calls Try.prog 9 #[.slice a n cap] w fun e w' => e = .returned (.bool (zs.all isD)) ∧ w' = w) := digits_any B a n cap zs w hZ hl hn
  clear hZ
  go_enter Try.func7, Try.ntmps7
  go_wp2_with fail
  refine H.out.mono ?_
  rintro e w' ⟨rfl, hw⟩
  replace hw := hw.symm; subst hw
  clear H
  have hv : ∃ v, v = zs.all isD := ⟨_, rfl⟩
  obtain ⟨v, hv⟩ := hv
  rw [← hv]
  have hvH : Hid (v = zs.all isD) := hv
  clear hv
  go_wp2
  go_ret
  exact ⟨ret_bool hvH.out, rfl⟩

/-- What 'zzBytes_..' leaves. -/
def Short (m : Nat) (w : World) (e : Ending) (w' : World) : Prop := ∃ v, e = .returned (.bool v) ∧ w' = w ∧ (v = true → m ≤ 1048576)

theorem zz5_any (a : Option Addr) (n cap : Nat) (w : World) : Calls Try.prog 5 #[.slice a n cap] w fun e w' => Short n w e w' := by
  by_cases hn : (1048576 : Int) < (n : Int)
  · go_enter Try.func5, Try.ntmps5
    go_wp2
    go_ret
    exact ⟨false, rfl, rfl, fun h => by cases h⟩
  · go_enter Try.func5, Try.ntmps5
    go_wp2
    go_ret
    exact ⟨true, rfl, rfl, fun _ => by omega⟩

/-- One place further to the left. -/
theorem left_of {zs : List Int} {k n : Nat} {x : Int} (hk : k < n) (hx : x = cnt zs k) :
    (Value.int .i64 ((k : Int) - 1) = .int .i64 (-1) ∧ x = cnt zs 0) ∨ ∃ k' : Nat, k' < n ∧ Value.int .i64 ((k : Int) - 1) = .int .i64 k' ∧ x = cnt zs (k' + 1) := by
  rcases Nat.eq_zero_or_pos k with h | h
  · subst h
    exact .inl ⟨rfl, hx⟩
  · refine .inr ⟨k - 1, by omega, congrArg _ (by omega), ?_⟩
    rw [hx, show k - 1 + 1 = k by omega]

set_option maxHeartbeats 800000 in
theorem law3 (a0 : Option Addr) (n c0 : Nat) (zs : List Int) (w : World) (hZ : RowB w.heap.size w a0 zs) (hl : Hid (zs.length = n)) (h0 : a0 = none → zs = []) (hB : ∀ z ∈ zs, 0 ≤ z ∧ z ≤ 255) :
    Calls Try.prog 3 #[.slice a0 n c0] w fun e w' => e = .returned (.bool true) ∧ Below w.heap.size w w' := by
  go_enter Try.func3, Try.ntmps3
  go_wp2_with fail
  refine (zz5_any a0 n c0 w).mono ?_
  rintro e w' ⟨v, rfl, hw, hv⟩
  replace hw := hw.symm; subst hw
  cases v
  · go_wp2
    go_ret
    exact ⟨rfl, Below.refl _ _⟩
  have hn := hv rfl
  have hn2 : decide ((1048576 : Int) < (n : Int)) = false := decide_eq_false (by omega)
  clear hv
  go_wp2_with fail
  refine (clone_any a0 n c0 zs w hZ hl.out hn h0).mono ?_
  rintro e w1 ⟨a1, rfl, hZ1, hb1, hn1⟩
  rw [hl.out]
  have hbel : Hid (Below w.heap.size w w1) := hb1
  clear hZ hb1 h0 hn1
  go_wp2
  go_loopw [3, 4] (fun t i wr => wr = w1 ∧ ∃ c : Int, t = .int .i64 c ∧ 0 ≤ c ∧ c ≤ 1048576 ∧ ((i = .int .i64 (-1) ∧ c = cnt zs 0) ∨ ∃ k : Nat, k < n ∧ i = .int .i64 k ∧ c = cnt zs (k + 1))) (fun _ i _ => (intOf i + 1).toNat)
  case atStart =>
    refine ⟨rfl, 0, rfl, by omega, by omega, ?_⟩
    rcases Nat.eq_zero_or_pos n with h | h
    · refine .inl ⟨by rw [h]; rfl, ?_⟩
      rw [cnt_end zs (by have := hl.out; omega)]; rfl
    · refine .inr ⟨n - 1, by omega, by go_num, ?_⟩
      rw [cnt_end zs (by have := hl.out; omega)]; rfl
  case round =>
    obtain ⟨hwr, c, rfl, hc0, hc1, hi⟩ := hrel
    replace hwr := hwr.symm; subst hwr
    rcases hi with ⟨rfl, hc⟩ | ⟨k, hk, rfl, hc⟩
    · have hcH : Hid (c = cnt zs 0) := hc
      clear hc
      go_wp2_with fail
      refine (zzdigits_any w1.heap.size a1 n n zs _ hZ1 hl hn).mono ?_
      rintro e w' ⟨rfl, hw⟩
      replace hw := hw.symm; subst hw
      have hvH : Hid ((c == (n : Int)) = zs.all isD) := by rw [Hid, hcH.out, ← hl.out]; exact cnt_all zs
      clear hZ1
      go_wp2
      go_ret
      exact ⟨ret_bool (by rw [hvH.out]; simp), hbel.out⟩
    · have hcH : Hid (c = cnt zs (k + 1)) := hc
      clear hc
      obtain ⟨b, off, rfl, _, hcs⟩ := hZ1.at (k := k) (by have := hl.out; omega)
      have hkl : k < zs.length := by have := hl.out; omega
      have hck := hcs k hkl
      have hz := hB (zs.getD k 0) (by simp [List.getD, List.getElem?_eq_getElem hkl])
      have hst := cnt_step zs hkl
      have hle := cnt_le zs k
      have hki : (k : Int) < (n : Int) := by omega
      have hbd := byte_digit hz.1 hz.2
      by_cases hd : isD (zs.getD k 0) = true
      · rw [hd] at hst hbd
        have hfin : Hid (c + 1 = cnt zs k ∧ cnt zs k ≤ 1048576) := ⟨by rw [hcH.out, hst]; simp, by have := hl.out; omega⟩
        clear hcs hZ1 hst hle hd
        generalize zs.getD k 0 = z at hck hz hbd
        go_wp2
        go_roundw
        case rel => exact ⟨trivial, c + 1, rfl, by omega, by have := hfin.out; omega, left_of hk hfin.out.1⟩
        case measure => simp [intOf]
      · replace hd : isD (zs.getD k 0) = false := by simpa using hd
        rw [hd] at hst hbd
        have hfin : Hid (c = cnt zs k) := by rw [Hid, hcH.out, hst]; simp
        clear hcs hZ1 hst hle hd
        generalize zs.getD k 0 = z at hck hz hbd
        go_wp2
        go_roundw
        case rel => exact ⟨trivial, c, rfl, hc0, hc1, left_of hk hfin.out⟩
        case measure => simp [intOf]
end Go.Proofs.Qxb6601089a
