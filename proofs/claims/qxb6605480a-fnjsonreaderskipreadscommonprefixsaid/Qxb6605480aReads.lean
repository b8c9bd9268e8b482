import Derived.Test.Qxb6605480aPrefix
namespace Go.Proofs.Qxb6605480a
open Go.RowKit

/-- What 'zzBytes_..' leaves: where it answers true, both slices are short. -/
def Short2 (m k : Nat) (w : World) (e : Ending) (w' : World) : Prop := ∃ v, e = .returned (.bool v) ∧ w' = w ∧ (v = true → m ≤ 1048576 ∧ k ≤ 1048576)

theorem zz26_any (a a' : Option Addr) (n cap m cap' : Nat) (p d : Int) (w : World) : Calls Try.prog 26 #[.slice a n cap, .int .i64 p, .int .i64 d, .slice a' m cap'] w fun e w' => Short2 n m w e w' := by
  by_cases hn : (1048576 : Int) < (n : Int)
  · go_enter Try.func26, Try.ntmps26
    go_wp2
    go_ret
    exact ⟨false, rfl, rfl, fun h => by cases h⟩
  by_cases hm : (1048576 : Int) < (m : Int)
  · go_enter Try.func26, Try.ntmps26
    go_wp2
    go_ret
    exact ⟨false, rfl, rfl, fun h => by cases h⟩
  by_cases hs : (1048576 : Int) < (n : Int) + (m : Int)
  · go_enter Try.func26, Try.ntmps26
    go_wp2
    go_ret
    exact ⟨false, rfl, rfl, fun h => by cases h⟩
  · go_enter Try.func26, Try.ntmps26
    go_wp2
    go_ret
    exact ⟨true, rfl, rfl, fun _ => ⟨by omega, by omega⟩⟩

set_option maxHeartbeats 1600000 in
theorem law7 (a0 a9 : Option Addr) (n c0 m c9 : Nat) (zs ys : List Int) (pos d : Int) (w : World) (hZ : RowB w.heap.size w a0 zs) (hl : Hid (zs.length = n)) (h0 : a0 = none → zs = [])
    (hY : RowB w.heap.size w a9 ys) (hm : Hid (ys.length = m)) (h9 : a9 = none → ys = []) (hpos : pos ≤ 9223372036854775807) :
    Calls Try.prog 7 #[.slice a0 n c0, .int .i64 pos, .int .i64 d, .slice a9 m c9] w fun e w' => e = .returned (.bool true) ∧ Below w.heap.size w w' := by
  go_enter Try.func7, Try.ntmps7
  go_wp2_with fail
  refine (zz26_any a0 a9 n c0 m c9 pos d w).mono ?_
  rintro e w' ⟨v, rfl, hw, hv⟩
  replace hw := hw.symm; subst hw
  cases v
  · go_wp2
    go_ret
    exact ⟨rfl, Below.refl _ _⟩
  obtain ⟨hn, hm1⟩ := hv rfl
  have hn2 : decide ((1048576 : Int) < (n : Int)) = false := decide_eq_false (by omega)
  clear hv
  by_cases hnm : (1048576 : Int) - (n : Int) < (m : Int)
  · go_wp2_with fail
    go_ret
    exact ⟨rfl, Below.refl _ _⟩
  have hnm2 : decide ((1048576 : Int) - (n : Int) < (m : Int)) = false := decide_eq_false hnm
  by_cases hp : pos < 0
  · go_wp2_with fail
    go_ret
    exact ⟨rfl, Below.refl _ _⟩
  have hp2 : decide (pos < 0) = false := decide_eq_false hp
  go_wp2_with fail
  refine (clone_any a0 n c0 zs w hZ hl.out hn h0).mono ?_
  rintro e w1 ⟨a1, rfl, hZ1, hb1, hn1⟩
  rw [hl.out]
  go_wp2_with fail
  refine (clone_any a9 m c9 ys w1 (hY.below hb1 hb1.size) hm.out hm1 h9).mono ?_
  rintro e w2 ⟨a2, rfl, hY2, hb2, _⟩
  rw [hm.out]
  have hZ2 := hZ1.below hb2 hb2.size
  have hb2' := hb1.trans (hb2.mono hb1.size)
  clear hZ hY hb1 hb2 h0 h9 hZ1
  go_wp2_with fail
  refine (clone_any a1 n n zs w2 hZ2 hl.out hn hn1).mono ?_
  rintro e w3 ⟨a3, rfl, hO3, hb3, _⟩
  rw [hl.out]
  have hZ3 := hZ2.below hb3 hb3.size
  have hY3 := hY2.below hb3 hb3.size
  have hb3' := hb2'.trans (hb3.mono hb2'.size)
  obtain ⟨p, rfl⟩ := Int.eq_ofNat_of_zero_le (show 0 ≤ pos by omega)
  clear hb2' hb3 hZ2 hY2 hn1 hp
  go_wp2_with fail
  refine (common_any w3.heap.size a3 a2 n n m m p zs ys w3 hO3 hY3 hl hm hn hm1).mono ?_
  rintro e w4 ⟨want, rfl, hpre0, q, hw4⟩
  have hwant : Hid (Pre zs p ys want) := hpre0
  have h34 : Below w3.heap.size w3 w4 := by rw [hw4]; exact below_drewN (Below.refl _ _) q
  have hZ4 : Hid (RowB w4.heap.size w4 a1 zs) := hZ3.below h34 h34.size
  have hY4 : Hid (RowB w4.heap.size w4 a2 ys) := hY3.below h34 h34.size
  have hO4 : Hid (RowB w4.heap.size w4 a3 zs) := hO3.below h34 h34.size
  have hbel : Hid (Below w.heap.size w w4) := hb3'.trans (h34.mono hb3'.size)
  clear hpre0 hw4 h34 hZ3 hY3 hO3 hb3'
  go_wp2_with fail
  refine (new_any a1 n n p d w4).mono ?_
  rintro e w5 ⟨rfl, hR5, hb5, _⟩
  go_wp2
  go_loopw [12, 13] (fun c i wr => ∃ k : Nat, k ≤ m ∧ i = .int .i64 k ∧ c = .int .i64 k ∧ (∀ j, j < k → hit zs (p + j) (ys.getD j 0) = true) ∧ Rd wr w4.heap.size a1 n n (p + k) d ∧ Below w4.heap.size w4 wr) (fun _ i _ => m - (intOf i).toNat)
  case atStart => exact ⟨0, Nat.zero_le _, rfl, rfl, fun j hj => by omega, hR5, hb5⟩
  case round =>
    clear hR5 hb5
    obtain ⟨k, hk, rfl, rfl, hhs, hR, hb⟩ := hrel
    have hhH : Hid (∀ j, j < k → hit zs (p + j) (ys.getD j 0) = true) := hhs
    have hpk0 : k = 0 ∨ p + k ≤ n := by
      rcases Nat.eq_zero_or_pos k with h | h
      · exact .inl h
      · have h1 := hit_lt (hhs (k - 1) (by omega))
        have h2 := hl.out
        exact .inr (by omega)
    clear hhs
    by_cases hkm : k < m
    · have hkm' : (k : Int) < (m : Int) := by omega
      have hYr := hY4.out.below hb (Nat.le_refl _)
      have hZr := hZ4.out.below hb (Nat.le_refl _)
      obtain ⟨b', off', rfl, _, hc'⟩ := hYr.at (k := k) (by have := hm.out; omega)
      have hcy := hc' k (by have := hm.out; omega)
      have hy : ∃ y, y = ys.getD k 0 := ⟨_, rfl⟩
      obtain ⟨y, hy⟩ := hy
      rw [← hy] at hcy
      have hyH : Hid (y = ys.getD k 0) := hy
      clear hc' hYr hy
      go_wp2_with fail
      refine (zzskip_any w4.heap.size w4.heap.size a1 n n (p + k) d y zs _ hR hZr hl hn).mono ?_
      rintro e w6 ⟨rfl, ho6, hR6⟩
      have hb6 := hb.trans (ho6.below (Nat.le_refl _))
      clear hb ho6 hR hcy hZr
      by_cases hh : hit zs (p + k) y = true
      · have hnx : Hid (∀ j, j < k + 1 → hit zs (p + j) (ys.getD j 0) = true) := hits_next hhH.out (by rw [← hyH.out]; exact hh)
        have hlt := hit_lt hh
        have hpk : p + k < n := by have := hl.out; omega
        rw [hh] at hR6 ⊢
        simp only [if_true] at hR6
        clear hh hlt hpk0
        go_wp2_with fail
        refine (pos_any w4.heap.size a1 n n (p + k + 1) d w6 hR6).mono ?_
        rintro e w' ⟨rfl, hw⟩
        replace hw := hw.symm; subst hw
        have hpw : ((p + k + 1 : Nat) : Int) = (p : Int) + ((k : Int) + 1) := by omega
        rw [hpw]
        have hfin : Hid (Rd w6 w4.heap.size a1 n n (p + (k + 1)) d ∧ Below w4.heap.size w4 w6) := ⟨hR6, hb6⟩
        clear hR6 hb6 hpw
        go_wp2
        go_roundw
        case rel => exact ⟨k + 1, by omega, by go_num, by go_num, hnx.out, hfin.out.1, hfin.out.2⟩
        case measure => simp [intOf]; omega
      replace hh : hit zs (p + k) y = false := by simpa using hh
      have hpre : Hid (Pre zs p ys k) := ⟨by have := hm.out; omega, hhH.out, fun _ => by rw [← hyH.out]; exact hh⟩
      rw [hh] at hR6 ⊢
      simp only [Bool.false_eq_true, if_false] at hR6
      clear hh hyH hhH
      have hpk : (p : Int) + (k : Int) ≤ 9223372036854775807 := by omega
      obtain rfl : want = k := hwant.out.unique hpre.out
      go_wp2_with fail
      refine (pos_any w4.heap.size a1 n n (p + want) d _ hR6).mono ?_
      rintro e w' ⟨rfl, hw⟩
      replace hw := hw.symm; subst hw
      have hpw : ((p + want : Nat) : Int) = (p : Int) + (want : Int) := by omega
      rw [hpw]
      go_wp2_with fail
      refine (depth_any w4.heap.size a1 n n (p + want) d _ hR6).mono ?_
      rintro e w' ⟨rfl, hw⟩
      replace hw := hw.symm; subst hw
      go_wp2_with fail
      refine (data_any w4.heap.size a1 n n (p + want) d _ hR6).mono ?_
      rintro e w' ⟨rfl, hw⟩
      replace hw := hw.symm; subst hw
      go_wp2_with fail
      refine (same_any a1 a3 n n n n zs zs _ w4.heap.size (hZ4.out.below hb6 (Nat.le_refl _)) (hO4.out.below hb6 (Nat.le_refl _)) hl.out hl.out hn hn).mono ?_
      rintro e w7 ⟨rfl, q7, rfl⟩
      rw [decide_eq_true rfl]
      have hfin : Hid (Below w.heap.size w _) := below_drewN (hbel.out.trans (hb6.mono hbel.out.size)) q7
      clear hb6 hR6
      go_wp2
      go_ret
      exact ⟨rfl, hfin.out⟩
    · have hpre : Hid (Pre zs p ys k) := ⟨by have := hm.out; omega, hhH.out, fun h => absurd h (by have := hm.out; omega)⟩
      have hR6 := hR
      have hb6 := hb
      clear hR hb hhH
      have hpk : (p : Int) + (k : Int) ≤ 9223372036854775807 := by omega
      obtain rfl : want = k := hwant.out.unique hpre.out
      go_wp2_with fail
      refine (pos_any w4.heap.size a1 n n (p + want) d _ hR6).mono ?_
      rintro e w' ⟨rfl, hw⟩
      replace hw := hw.symm; subst hw
      have hpw : ((p + want : Nat) : Int) = (p : Int) + (want : Int) := by omega
      rw [hpw]
      go_wp2_with fail
      refine (depth_any w4.heap.size a1 n n (p + want) d _ hR6).mono ?_
      rintro e w' ⟨rfl, hw⟩
      replace hw := hw.symm; subst hw
      go_wp2_with fail
      refine (data_any w4.heap.size a1 n n (p + want) d _ hR6).mono ?_
      rintro e w' ⟨rfl, hw⟩
      replace hw := hw.symm; subst hw
      go_wp2_with fail
      refine (same_any a1 a3 n n n n zs zs _ w4.heap.size (hZ4.out.below hb6 (Nat.le_refl _)) (hO4.out.below hb6 (Nat.le_refl _)) hl.out hl.out hn hn).mono ?_
      rintro e w7 ⟨rfl, q7, rfl⟩
      rw [decide_eq_true rfl]
      have hfin : Hid (Below w.heap.size w _) := below_drewN (hbel.out.trans (hb6.mono hbel.out.size)) q7
      clear hb6 hR6
      go_wp2
      go_ret
      exact ⟨rfl, hfin.out⟩
end Go.Proofs.Qxb6605480a
