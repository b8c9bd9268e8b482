import Derived.Test.Qxb6605480aBase
namespace Go.Proofs.Qxb6605480a
open Go.RowKit

theorem ret_bool {a b : Bool} (h : a = b) : Ending.returned (.bool a) = .returned (.bool b) := by rw [h]

theorem take_next {zs ys : List Int} {k : Nat} (hz : k < zs.length) (hy : k < ys.length) (h : zs.take k = ys.take k) (e : zs.getD k 0 = ys.getD k 0) : zs.take (k + 1) = ys.take (k + 1) := by
  rw [List.take_succ_eq_append_getElem hz, List.take_succ_eq_append_getElem hy, h]
  simp [List.getD, List.getElem?_eq_getElem hz, List.getElem?_eq_getElem hy] at e
  rw [e]

theorem take_part {zs ys : List Int} {k : Nat} (e : zs.getD k 0 ≠ ys.getD k 0) : zs ≠ ys := fun h => e (by rw [h])

set_option maxHeartbeats 400000 in
theorem same_len (a a' : Option Addr) (cap cap' n : Nat) (zs ys : List Int) (w : World) (B : Nat) (hz : RowB B w a zs) (hy : RowB B w a' ys) (hn : n ≤ 1048576) (hzn : Hid (zs.length = n)) (hyn : Hid (ys.length = n)) :
    Calls Try.prog 15 #[.slice a n cap, .slice a' n cap'] w fun e w' => e = .returned (.bool (decide (zs = ys))) ∧ ∃ n, w' = w.drewN n := by
  go_enter Try.func15, Try.ntmps15
  go_wp2
  go_loopw [5] (fun i wr => ∃ k m : Nat, k ≤ n ∧ i = .int .i64 k ∧ wr = w.drewN m ∧ zs.take k = ys.take k) (fun i _ => n - (intOf i).toNat)
  case atStart => exact ⟨0, 0, Nat.zero_le _, rfl, rfl, by simp⟩
  case round =>
    obtain ⟨k, m, hk, rfl, rfl, htk⟩ := hrel
    by_cases hlt : k < n
    · obtain ⟨b, off, rfl, hbb, hc⟩ := hz.at (k := k) (by have := hzn.out; omega)
      obtain ⟨b', off', rfl, hbb', hc'⟩ := hy.at (k := k) (by have := hyn.out; omega)
      have hck := hc k (by have := hzn.out; omega)
      have hck' := hc' k (by have := hyn.out; omega)
      have hlti : (k : Int) < (n : Int) := by omega
      have hnx : Hid (zs.getD k 0 = ys.getD k 0 → zs.take (k + 1) = ys.take (k + 1)) := fun e => take_next (by have := hzn.out; omega) (by have := hyn.out; omega) htk e
      have hpt : Hid (zs.getD k 0 ≠ ys.getD k 0 → zs ≠ ys) := take_part
      clear htk hc hc' hz hy
      generalize zs.getD k 0 = x at hck hnx hpt
      generalize ys.getD k 0 = y at hck' hnx hpt
      by_cases hxy : x = y
      · have hb : (x != y) = false := by simp [hxy]
        have ht := hnx.out hxy
        clear hnx hpt
        have htH : Hid (zs.take (k + 1) = ys.take (k + 1)) := ht
        clear ht hxy
        go_wp2
        go_quiet (fail)
        go_wp2
        go_roundw
        case rel => exact ⟨k + 1, _, by omega, by go_num, rfl, htH.out⟩
        case measure => simp [intOf]; omega
      · have hb : (x != y) = true := by simp [hxy]
        have hd : Hid (decide (zs = ys) = false) := decide_eq_false (hpt.out hxy)
        clear hnx hpt hxy
        go_wp2
        go_quiet (fail)
        go_wp2
        go_ret
        exact ⟨ret_bool hd.out.symm, _, World.drewN_drewN _ _ _⟩
    · have hd : Hid (decide (zs = ys) = true) := decide_eq_true (by
        rw [List.take_of_length_le (by have := hzn.out; omega), List.take_of_length_le (by have := hyn.out; omega)] at htk
        exact htk)
      clear htk
      go_wp2
      go_ret
      exact ⟨ret_bool hd.out.symm, _, rfl⟩

/-- 'sameBytes': are the two rows one? -/
theorem same_any (a a' : Option Addr) (len len' cap cap' : Nat) (zs ys : List Int) (w : World) (B : Nat) (hz : RowB B w a zs) (hy : RowB B w a' ys) (hzl : zs.length = len) (hyl : ys.length = len') (hl : len ≤ 1048576) (hl' : len' ≤ 1048576) :
    Calls Try.prog 15 #[.slice a len cap, .slice a' len' cap'] w fun e w' => e = .returned (.bool (decide (zs = ys))) ∧ ∃ n, w' = w.drewN n := by
  by_cases hlen : len = len'
  · subst hlen
    exact same_len a a' cap cap' len zs ys w B hz hy hl hzl hyl
  · have hne : ((len : Int) != (len' : Int)) = true := by simp; omega
    have hd : decide (zs = ys) = false := decide_eq_false (fun h => hlen (by rw [← hzl, ← hyl, h]))
    rw [hd]
    clear hd hzl hyl
    go_enter Try.func15, Try.ntmps15
    go_wp2
    go_ret
    exact ⟨rfl, 0, rfl⟩
end Go.Proofs.Qxb6605480a
