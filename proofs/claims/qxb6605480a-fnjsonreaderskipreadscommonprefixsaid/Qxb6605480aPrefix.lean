import Derived.Test.Qxb6605480aSkip
namespace Go.Proofs.Qxb6605480a
open Go.RowKit

/-- zs from p on and ys agree on just their first k bytes. -/
def Pre (zs : List Int) (p : Nat) (ys : List Int) (k : Nat) : Prop :=
  k ≤ ys.length ∧ (∀ j, j < k → hit zs (p + j) (ys.getD j 0) = true) ∧ (k < ys.length → hit zs (p + k) (ys.getD k 0) = false)

theorem Pre.unique {zs ys : List Int} {p k l : Nat} (h : Pre zs p ys k) (g : Pre zs p ys l) : k = l := by
  obtain ⟨h1, h2, h3⟩ := h
  obtain ⟨g1, g2, g3⟩ := g
  rcases Nat.lt_trichotomy k l with e | e | e
  · have := g2 k e; rw [h3 (by omega)] at this; cases this
  · exact e
  · have := h2 l e; rw [g3 (by omega)] at this; cases this

theorem hit_in {zs : List Int} {p : Nat} {c : Int} (hp : p < zs.length) : hit zs p c = (zs.getD p 0 == c) := by
  unfold hit; rw [decide_eq_true hp, Bool.true_and]
theorem hit_out {zs : List Int} {p : Nat} {c : Int} (hp : ¬ p < zs.length) : hit zs p c = false := by
  unfold hit; rw [decide_eq_false hp, Bool.false_and]
theorem hit_lt {zs : List Int} {p : Nat} {c : Int} (h : hit zs p c = true) : p < zs.length := by
  unfold hit at h; rw [Bool.and_eq_true, decide_eq_true_eq] at h; exact h.1

theorem hits_next {zs ys : List Int} {p k : Nat} (h : ∀ j, j < k → hit zs (p + j) (ys.getD j 0) = true) (hk : hit zs (p + k) (ys.getD k 0) = true) : ∀ j, j < k + 1 → hit zs (p + j) (ys.getD j 0) = true := by
  intro j hj
  by_cases e : j = k
  · rw [e]; exact hk
  · exact h j (by omega)

/-- What 'commonPrefix' leaves. -/
def Prefixed (zs : List Int) (p : Nat) (ys : List Int) (w : World) (e : Ending) (w' : World) : Prop :=
  ∃ k : Nat, e = .returned (.int .i64 k) ∧ Pre zs p ys k ∧ ∃ q, w' = w.drewN q

theorem ret_int {k : IntKind} {a b : Int} (h : a = b) : Ending.returned (.int k a) = .returned (.int k b) := by rw [h]

set_option maxHeartbeats 800000 in
theorem common_any (B : Nat) (a a' : Option Addr) (n cap m cap' p : Nat) (zs ys : List Int) (w : World) (hZ : RowB B w a zs) (hY : RowB B w a' ys) (hl : Hid (zs.length = n)) (hm : Hid (ys.length = m)) (hn : n ≤ 1048576) (hm1 : m ≤ 1048576) :
    Calls Try.prog 27 #[.slice a n cap, .int .i64 p, .slice a' m cap'] w fun e w' => Prefixed zs p ys w e w' := by
  by_cases hp : n ≤ p
  · have hp' : decide ((n : Int) ≤ (p : Int)) = true := decide_eq_true (by omega)
    have hfin : Hid (Pre zs p ys 0) := ⟨Nat.zero_le _, fun j hj => by omega, fun _ => hit_out (by have := hl.out; omega)⟩
    clear hZ hY
    go_enter Try.func27, Try.ntmps27
    go_wp2
    go_ret
    exact ⟨0, rfl, hfin.out, 0, rfl⟩
  · have hp' : decide (n ≤ p) = false := decide_eq_false (by omega)
    go_enter Try.func27, Try.ntmps27
    go_wp2
    go_loopw [7] (fun i wr => ∃ k q : Nat, k ≤ m ∧ i = .int .i64 k ∧ wr = w.drewN q ∧ ∀ j, j < k → hit zs (p + j) (ys.getD j 0) = true) (fun i _ => m - (intOf i).toNat)
    case atStart => exact ⟨0, 0, Nat.zero_le _, rfl, rfl, fun j hj => by omega⟩
    case round =>
      obtain ⟨k, q, hk, rfl, rfl, hhs⟩ := hrel
      have hhH : Hid (∀ j, j < k → hit zs (p + j) (ys.getD j 0) = true) := hhs
      clear hhs
      by_cases hkm : k < m
      · have hkm' : (k : Int) < (m : Int) := by omega
        by_cases hpk : p + k < n
        · have hpk' : (p : Int) + (k : Int) < (n : Int) := by omega
          obtain ⟨b, off, rfl, _, hc⟩ := hZ.at (k := p + k) (by have := hl.out; omega)
          obtain ⟨b', off', rfl, _, hc'⟩ := hY.at (k := k) (by have := hm.out; omega)
          have hcz := hc (p + k) (by have := hl.out; omega)
          have hcy := hc' k (by have := hm.out; omega)
          have hh : Hid (hit zs (p + k) (ys.getD k 0) = (zs.getD (p + k) 0 == ys.getD k 0)) := hit_in (by have := hl.out; omega)
          by_cases hxy : (zs.getD (p + k) 0 == ys.getD k 0) = true
          · have hnx : Hid (∀ j, j < k + 1 → hit zs (p + j) (ys.getD j 0) = true) := hits_next hhH.out (by rw [hh.out]; exact hxy)
            clear hc hc' hZ hY hh hhH
            generalize zs.getD (p + k) 0 = z at hcz hxy
            generalize ys.getD k 0 = y at hcy hxy
            go_wp2
            go_quiet (fail)
            go_wp2
            go_roundw
            case rel => exact ⟨k + 1, _, by omega, by go_num, rfl, hnx.out⟩
            case measure => simp [intOf]; omega
          · replace hxy : (zs.getD (p + k) 0 == ys.getD k 0) = false := by simpa using hxy
            have hfin : Hid (Pre zs p ys k) := ⟨by have := hm.out; omega, hhH.out, fun _ => by rw [hh.out]; exact hxy⟩
            clear hc hc' hZ hY hh hhH
            generalize zs.getD (p + k) 0 = z at hcz hxy
            generalize ys.getD k 0 = y at hcy hxy
            go_wp2
            go_quiet (fail)
            go_wp2
            go_ret
            exact ⟨k, rfl, hfin.out, _, World.drewN_drewN _ _ _⟩
        · have hpk' : decide ((p : Int) + (k : Int) < (n : Int)) = false := decide_eq_false (by omega)
          have hfin : Hid (Pre zs p ys k) := ⟨by have := hm.out; omega, hhH.out, fun _ => hit_out (by have := hl.out; omega)⟩
          clear hZ hY hhH
          go_wp2
          go_quiet (fail)
          go_wp2
          go_ret
          exact ⟨k, rfl, hfin.out, _, World.drewN_drewN _ _ _⟩
      · have hkm' : decide ((k : Int) < (m : Int)) = false := decide_eq_false (by omega)
        have hfin : Hid (Pre zs p ys k) := ⟨by have := hm.out; omega, hhH.out, fun h => absurd h (by have := hm.out; omega)⟩
        clear hZ hY hhH
        go_wp2
        go_quiet (fail)
        go_wp2
        go_ret
        exact ⟨k, rfl, hfin.out, _, World.drewN_drewN _ _ _⟩
end Go.Proofs.Qxb6605480a
