import Derived.Test.Qxb6605480aSkip
namespace Go.Proofs.Qxb6605480a
open Go.RowKit

/-- What 'zzBytes_..' leaves: where it answers true, the slice is short. -/
def Short (m : Nat) (w : World) (e : Ending) (w' : World) : Prop := ∃ v, e = .returned (.bool v) ∧ w' = w ∧ (v = true → m ≤ 1048576)

theorem zz16_any (a : Option Addr) (n cap : Nat) (p d : Int) (w : World) : Calls Try.prog 16 #[.slice a n cap, .int .i64 p, .int .i64 d] w fun e w' => Short n w e w' := by
  by_cases hn : (1048576 : Int) < (n : Int)
  · go_enter Try.func16, Try.ntmps16
    go_wp2
    go_ret
    exact ⟨false, rfl, rfl, fun h => by cases h⟩
  · go_enter Try.func16, Try.ntmps16
    go_wp2
    go_ret
    exact ⟨true, rfl, rfl, fun _ => by omega⟩

theorem zz23_any (a : Option Addr) (n cap : Nat) (p d : Int) (w : World) : Calls Try.prog 23 #[.slice a n cap, .int .i64 p, .int .i64 d] w fun e w' => Short n w e w' := by
  by_cases hn : (1048576 : Int) < (n : Int)
  · go_enter Try.func23, Try.ntmps23
    go_wp2
    go_ret
    exact ⟨false, rfl, rfl, fun h => by cases h⟩
  · go_enter Try.func23, Try.ntmps23
    go_wp2
    go_ret
    exact ⟨true, rfl, rfl, fun _ => by omega⟩

set_option maxHeartbeats 1600000 in
theorem law5 (a0 : Option Addr) (n c0 : Nat) (zs : List Int) (pos d : Int) (w : World) (hZ : RowB w.heap.size w a0 zs) (hl : Hid (zs.length = n)) (h0 : a0 = none → zs = []) :
    Calls Try.prog 5 #[.slice a0 n c0, .int .i64 pos, .int .i64 d] w fun e w' => e = .returned (.bool true) ∧ Below w.heap.size w w' := by
  go_enter Try.func5, Try.ntmps5
  go_wp2_with fail
  refine (zz16_any a0 n c0 pos d w).mono ?_
  rintro e w' ⟨v, rfl, hw, hv⟩
  replace hw := hw.symm; subst hw
  cases v
  · go_wp2
    go_ret
    exact ⟨rfl, Below.refl _ _⟩
  have hn := hv rfl
  have hn2 : decide ((1048576 : Int) < (n : Int)) = false := decide_eq_false (by omega)
  clear hv
  by_cases hp : pos < 0
  · go_wp2_with fail
    go_ret
    exact ⟨rfl, Below.refl _ _⟩
  have hp2 : decide (pos < 0) = false := decide_eq_false hp
  go_wp2_with fail
  refine (clone_any a0 n c0 zs w hZ hl.out hn h0).mono ?_
  rintro e w1 ⟨a1, rfl, hZ1, hb1, hn1⟩
  rw [hl.out]
  go_wp2_with fail
  refine (clone_any a1 n n zs w1 hZ1 hl.out hn hn1).mono ?_
  rintro e w2 ⟨a2, rfl, hZ2, hb2, _⟩
  rw [hl.out]
  have hZ1' := hZ1.below hb2 hb2.size
  have hbel : Hid (Below w.heap.size w w2) := hb1.trans (hb2.mono hb1.size)
  obtain ⟨p, rfl⟩ := Int.eq_ofNat_of_zero_le (show 0 ≤ pos by omega)
  clear hZ hZ1 hb1 hb2 h0 hn1 hp
  go_wp2_with fail
  refine (new_any a1 n n p d w2).mono ?_
  rintro e w3 ⟨rfl, hR3, hb3, _⟩
  go_wp2_with fail
  refine (zzspace_any w2.heap.size w2.heap.size a1 n n p d zs w3 hR3 (hZ1'.below hb3 (Nat.le_refl _)) (Nat.le_refl _) hl hn).mono ?_
  rintro e w4 ⟨rfl, ho4, p', hrun, hR4⟩
  have hb4 := hb3.trans (ho4.below (Nat.le_refl _))
  have hrunH : Hid (Run zs p p') := hrun
  clear hrun hR3 hb3 ho4
  go_wp2_with fail
  refine (pos_any w2.heap.size a1 n n p' d w4 hR4).mono ?_
  rintro e w' ⟨rfl, hw⟩
  replace hw := hw.symm; subst hw
  go_wp2_with fail
  refine (data_any w2.heap.size a1 n n p' d w4 hR4).mono ?_
  rintro e w' ⟨rfl, hw⟩
  replace hw := hw.symm; subst hw
  go_wp2_with fail
  refine (same_any a1 a2 n n n n zs zs w4 w2.heap.size (hZ1'.below hb4 (Nat.le_refl _)) (hZ2.below hb4 (Nat.le_refl _)) hl.out hl.out hn hn).mono ?_
  rintro e w5 ⟨rfl, q, rfl⟩
  rw [decide_eq_true rfl]
  have hR5 := hR4.drewN q
  have hb5 := below_drewN hb4 q
  clear hR4 hb4
  go_wp2_with fail
  refine (depth_any w2.heap.size a1 n n p' d _ hR5).mono ?_
  rintro e w' ⟨rfl, hw⟩
  replace hw := hw.symm; subst hw
  go_wp2_with fail
  refine (ends_any w2.heap.size a2 n n p p' zs _ (hZ2.below hb5 (Nat.le_refl _)) hl hn hrunH.out).mono ?_
  rintro e w' ⟨rfl, hw⟩
  replace hw := hw.symm; subst hw
  go_wp2_with fail
  refine (zzspace_any w2.heap.size w2.heap.size a1 n n p' d zs _ hR5 (hZ1'.below hb5 (Nat.le_refl _)) (Nat.le_refl _) hl hn).mono ?_
  rintro e w6 ⟨rfl, ho6, p'', hrun2, hR6⟩
  obtain rfl : p' = p'' := hrunH.out.again.unique hrun2
  have hb6 := hb5.trans (ho6.below (Nat.le_refl _))
  have hfin : Hid (Below w.heap.size w w6) := hbel.out.trans (hb6.mono hbel.out.size)
  clear hrun2 ho6 hb5 hb6 hR5
  go_wp2_with fail
  refine (pos_any w2.heap.size a1 n n p' d w6 hR6).mono ?_
  rintro e w' ⟨rfl, hw⟩
  replace hw := hw.symm; subst hw
  go_wp2
  go_ret
  exact ⟨rfl, hfin.out⟩
end Go.Proofs.Qxb6605480a
