import Derived.Test.Qxb6605480aNames
namespace Go.Proofs.Qxb6605480a
open Go.RowKit

/-- What 'zzBytes_..' leaves: where it answers true, every name is short. -/
def Weighed (L : List (List Int)) (m : Nat) (w : World) (e : Ending) (w' : World) : Prop :=
  ∃ v, e = .returned (.bool v) ∧ w' = w ∧ (v = true → (∀ j, j < L.length → (L.getD j []).length ≤ 1048576) ∧ m ≤ 1048576)

theorem Weighed.no {L : List (List Int)} {m : Nat} {w : World} {v : Bool} (h : v = false) : Weighed L m w (.returned (.bool v)) w := ⟨v, rfl, rfl, fun h' => by rw [h] at h'; cases h'⟩

theorem upto_next {L : List (List Int)} {k m : Nat} (h : ∀ j, j < k → (L.getD j []).length ≤ 1048576) (hm : (L.getD k []).length = m) (hl : m ≤ 1048576) : ∀ j, j < k + 1 → (L.getD j []).length ≤ 1048576 := by
  intro j hj
  by_cases e : j = k
  · rw [e, hm]; exact hl
  · exact h j (by omega)

set_option maxHeartbeats 800000 in
theorem zz13_any (a a' : Option Addr) (n cap m c' : Nat) (L : List (List Int)) (w : World) (B : Nat) (hr : NamesB B w a L) (hz : Hid (L.length = n)) :
    Calls Try.prog 13 #[.slice a n cap, .slice a' m c'] w fun e w' => Weighed L m w e w' := by
  by_cases hn : (1048576 : Int) < (n : Int)
  · go_enter Try.func13, Try.ntmps13
    go_wp2
    go_ret
    exact .no rfl
  · have hn' : decide ((1048576 : Int) < (n : Int)) = false := decide_eq_false hn
    go_enter Try.func13, Try.ntmps13
    go_wp2
    go_loop [5, 6] (fun t i => ∃ (k : Nat) (z : Int), k ≤ n ∧ i = .int .i64 k ∧ t = .int .i64 z ∧ 0 ≤ z ∧ z ≤ 1048576 ∧ ∀ j, j < k → (L.getD j []).length ≤ 1048576) (fun _ i => n - (intOf i).toNat)
    case atStart => exact ⟨0, _, Nat.zero_le _, rfl, rfl, by omega, by omega, fun j hj => by omega⟩
    case round =>
      obtain ⟨k, z, hk, rfl, rfl, hz0, hz1, hall⟩ := hrel
      by_cases hlt : k < n
      · obtain ⟨b, off, a1, m1, c1, rfl, hbb, hcell, hrow, hm, hnn⟩ := hr.at (k := k) (by have := hz.out; omega)
        have hmH : Hid ((L.getD k []).length = m1) := hm
        have hallH : Hid (∀ j, j < k → (L.getD j []).length ≤ 1048576) := hall
        clear hm hall hrow hnn hr
        by_cases hl : (1048576 : Int) < (m1 : Int)
        · go_wp2
          go_ret
          exact .no rfl
        · by_cases hs : (1048576 : Int) < z + (m1 : Int)
          · go_wp2
            go_ret
            exact .no rfl
          · go_wp2
            go_round
            case rel => exact ⟨k + 1, z + m1, by omega, by go_num, rfl, by omega, by omega, upto_next hallH.out hmH.out (by omega)⟩
            case measure => simp [intOf]; omega
      · have hfin : Hid (∀ j, j < L.length → (L.getD j []).length ≤ 1048576) := fun j hj => hall j (by have := hz.out; omega)
        clear hall hr
        by_cases hl : (1048576 : Int) < (m : Int)
        · go_wp2
          go_ret
          exact .no rfl
        · by_cases hs : (1048576 : Int) < z + (m : Int)
          · go_wp2
            go_ret
            exact .no rfl
          · go_wp2
            go_ret
            exact ⟨_, rfl, rfl, fun _ => ⟨hfin.out, by omega⟩⟩

set_option maxHeartbeats 800000 in
theorem zz8_any (a : Option Addr) (n cap : Nat) (L : List (List Int)) (w : World) (B : Nat) (hr : NamesB B w a L) (hz : Hid (L.length = n)) :
    Calls Try.prog 8 #[.slice a n cap] w fun e w' => Weighed L 0 w e w' := by
  by_cases hn : (1048576 : Int) < (n : Int)
  · go_enter Try.func8, Try.ntmps8
    go_wp2
    go_ret
    exact .no rfl
  · have hn' : decide ((1048576 : Int) < (n : Int)) = false := decide_eq_false hn
    go_enter Try.func8, Try.ntmps8
    go_wp2
    go_loop [3, 4] (fun t i => ∃ (k : Nat) (z : Int), k ≤ n ∧ i = .int .i64 k ∧ t = .int .i64 z ∧ 0 ≤ z ∧ z ≤ 1048576 ∧ ∀ j, j < k → (L.getD j []).length ≤ 1048576) (fun _ i => n - (intOf i).toNat)
    case atStart => exact ⟨0, _, Nat.zero_le _, rfl, rfl, by omega, by omega, fun j hj => by omega⟩
    case round =>
      obtain ⟨k, z, hk, rfl, rfl, hz0, hz1, hall⟩ := hrel
      by_cases hlt : k < n
      · obtain ⟨b, off, a1, m1, c1, rfl, hbb, hcell, hrow, hm, hnn⟩ := hr.at (k := k) (by have := hz.out; omega)
        have hmH : Hid ((L.getD k []).length = m1) := hm
        have hallH : Hid (∀ j, j < k → (L.getD j []).length ≤ 1048576) := hall
        clear hm hall hrow hnn hr
        by_cases hl : (1048576 : Int) < (m1 : Int)
        · go_wp2
          go_ret
          exact .no rfl
        · by_cases hs : (1048576 : Int) < z + (m1 : Int)
          · go_wp2
            go_ret
            exact .no rfl
          · go_wp2
            go_round
            case rel => exact ⟨k + 1, z + m1, by omega, by go_num, rfl, by omega, by omega, upto_next hallH.out hmH.out (by omega)⟩
            case measure => simp [intOf]; omega
      · have hfin : Hid (∀ j, j < L.length → (L.getD j []).length ≤ 1048576) := fun j hj => hall j (by have := hz.out; omega)
        clear hall hr
        go_wp2
        go_ret
        exact ⟨_, rfl, rfl, fun _ => ⟨hfin.out, by omega⟩⟩

/-- What 'nestedBytes' leaves: some number from 0 to 1<<20 + 1. -/
def Counted (w : World) (e : Ending) (w' : World) : Prop := ∃ z : Int, e = .returned (.int .i64 z) ∧ w' = w ∧ 0 ≤ z ∧ z ≤ 1048577

set_option maxHeartbeats 800000 in
theorem nested_any (a : Option Addr) (n cap : Nat) (L : List (List Int)) (w : World) (B : Nat) (hr : NamesB B w a L) (hz : Hid (L.length = n)) (hn : n ≤ 4096) :
    Calls Try.prog 9 #[.slice a n cap] w fun e w' => Counted w e w' := by
  go_enter Try.func9, Try.ntmps9
  go_wp2
  go_loop [3, 4] (fun t i => ∃ (k : Nat) (z : Int), k ≤ n ∧ i = .int .i64 k ∧ t = .int .i64 z ∧ 0 ≤ z ∧ z ≤ 1048576) (fun _ i => n - (intOf i).toNat)
  case atStart => exact ⟨0, 0, Nat.zero_le _, rfl, rfl, by omega, by omega⟩
  case round =>
    obtain ⟨k, z, hk, rfl, rfl, hz0, hz1⟩ := hrel
    by_cases hlt : k < n
    · obtain ⟨b, off, a1, m1, c1, rfl, hbb, hcell, hrow, hm, hnn⟩ := hr.at (k := k) (by have := hz.out; omega)
      clear hm hrow hnn hr
      by_cases hl : (1048576 : Int) < (m1 : Int)
      · go_wp2
        go_ret
        exact ⟨1048577, rfl, rfl, by omega, by omega⟩
      · by_cases hs : (1048576 : Int) < z + (24 + (m1 : Int))
        · go_wp2
          go_ret
          exact ⟨1048577, rfl, rfl, by omega, by omega⟩
        · go_wp2
          go_round
          case rel => exact ⟨k + 1, z + (24 + m1), by omega, by go_num, rfl, by omega, by omega⟩
          case measure => simp [intOf]; omega
    · go_wp2
      go_ret
      exact ⟨z, rfl, rfl, by omega, by omega⟩
end Go.Proofs.Qxb6605480a
