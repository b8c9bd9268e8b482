import Derived.Test.Qxb6605480aOpen
namespace Go.Proofs.Qxb6605480a
open Go.RowKit

theorem NamesB.drewN {B : Nat} {w : World} {a : Option Addr} {L : List (List Int)} (h : NamesB B w a L) (q : Nat) : NamesB B (w.drewN q) a L := h.below (below_drewN (Below.refl _ _) _) (Nat.le_refl _)

set_option maxHeartbeats 800000 in
/-- 'seenBefore': is the i-th name among those before it? -/
theorem seen_any (a : Option Addr) (n cap i B : Nat) (L : List (List Int)) (w : World) (hL : NamesB B w a L) (hn : Hid (L.length = n)) (hn1 : n ≤ 4096) (hi : i < n) (hall : Hid (∀ j, j < L.length → (L.getD j []).length ≤ 1048576)) :
    Calls Try.prog 12 #[.slice a n cap, .int .i64 i] w fun e w' => e = .returned (.bool (decide (L.getD i [] ∈ L.take i))) ∧ ∃ q, w' = w.drewN q := by
  go_enter Try.func12, Try.ntmps12
  go_wp2
  go_loopw [5] (fun t wr => ∃ k q : Nat, k ≤ i ∧ t = .int .i64 k ∧ wr = w.drewN q ∧ L.getD i [] ∉ L.take k) (fun t _ => i - (intOf t).toNat)
  case atStart => exact ⟨0, 0, Nat.zero_le _, rfl, rfl, by simp⟩
  case round =>
    obtain ⟨k, q, hk, rfl, rfl, hno⟩ := hrel
    by_cases hlt : k < i
    · obtain ⟨b, off, a1, m1, c1, rfl, hb1, hck, hR1, hm1, _⟩ := hL.at (k := k) (by have := hn.out; omega)
      obtain ⟨b2, off2, a2, m2, c2, e2, hb2, hci, hR2, hm2, _⟩ := hL.at (k := i) (by have := hn.out; omega)
      cases e2
      have hki : (k : Int) < (n : Int) := by omega
      have hii : (i : Int) < (n : Int) := by omega
      have hl1 : m1 ≤ 1048576 := by rw [← hm1]; exact hall.out k (by have := hn.out; omega)
      have hl2 : m2 ≤ 1048576 := by rw [← hm2]; exact hall.out i (by have := hn.out; omega)
      have hm1H : Hid ((L.getD k []).length = m1) := hm1
      have hm2H : Hid ((L.getD i []).length = m2) := hm2
      have hst : Hid (L.getD k [] ≠ L.getD i [] → L.getD i [] ∉ L.take (k + 1)) := fun hxy h => ((take_mem (by have := hn.out; omega) _).2 h).elim hno (fun e => hxy e.symm)
      have hin : Hid (L.getD k [] = L.getD i [] → L.getD i [] ∈ L.take i) := fun hxy => by
        have hkL : k < L.length := by have := hn.out; omega
        rw [← hxy]
        exact List.mem_take_iff_getElem.2 ⟨k, by omega, by simp [List.getD, List.getElem?_eq_getElem hkL]⟩
      have hcall : Hid (∀ x, Calls Try.prog 15 #[.slice a1 m1 c1, .slice a2 m2 c2] ((w.drewN q).drewN x) fun e w' => e = .returned (.bool (decide (L.getD k [] = L.getD i []))) ∧ ∃ m, w' = ((w.drewN q).drewN x).drewN m) :=
        fun x => same_any a1 a2 m1 m2 c1 c2 (L.getD k []) (L.getD i []) _ B (fun hz => hR1 hz) (fun hz => hR2 hz) hm1 hm2 hl1 hl2
      have hck' : (w.drewN q).cell? ⟨b, off + k, none⟩ = some (.slice a1 m1 c1) := hck
      have hci' : (w.drewN q).cell? ⟨b, off + i, none⟩ = some (.slice a2 m2 c2) := hci
      have hwq : ∃ wq, wq = w.drewN q := ⟨_, rfl⟩
      obtain ⟨wq, hwq⟩ := hwq
      rw [← hwq] at hcall hck' hci' ⊢
      have hwqH : Hid (wq = w.drewN q) := hwq
      clear hwq hck hci hno hR1 hR2 hm1 hm2 hL
      by_cases hxy : L.getD k [] = L.getD i []
      · rw [decide_eq_true hxy] at hcall
        have hxyH := hin.out hxy
        clear hxy hst hin
        have hxyH' : Hid (L.getD i [] ∈ L.take i) := hxyH
        clear hxyH
        go_wp2
        go_quiet ((go_at_call 15; exact Calls.quiet_of (hcall.out _)))
        go_wp2
        go_ret
        exact ⟨ret_bool (decide_eq_true hxyH'.out).symm, _, by rw [hwqH.out]; exact World.drewN_drewN _ _ _⟩
      · rw [decide_eq_false hxy] at hcall
        have hxyH : Hid (L.getD i [] ∉ L.take (k + 1)) := hst.out hxy
        clear hxy hst hin
        go_wp2
        go_quiet ((go_at_call 15; exact Calls.quiet_of (hcall.out _)))
        go_wp2
        go_roundw
        case rel => exact ⟨k + 1, _, by omega, by go_num, by rw [hwqH.out]; exact World.drewN_drewN _ _ _, hxyH.out⟩
        case measure => simp [intOf]; omega
    · obtain rfl : k = i := by omega
      have hxyH : Hid (L.getD k [] ∉ L.take k) := hno
      clear hno
      go_wp2
      go_ret
      exact ⟨ret_bool (decide_eq_false hxyH.out).symm, _, rfl⟩
set_option maxHeartbeats 1600000 in
theorem law3 (a0 : Option Addr) (n c0 : Nat) (L : List (List Int)) (w : World) (hL : NamesB w.heap.size w a0 L) (hn : Hid (L.length = n)) (h0 : a0 = none → L = []) (hB : ∀ xs ∈ L, BytesIn xs) :
    Calls Try.prog 3 #[.slice a0 n c0] w fun e w' => e = .returned (.bool true) ∧ Below w.heap.size w w' := by
  go_enter Try.func3, Try.ntmps3
  go_wp2_with fail
  refine (zz8_any a0 n c0 L w _ hL hn).mono ?_
  rintro e w' ⟨v, rfl, hw, hv⟩
  replace hw := hw.symm; subst hw
  cases v
  · go_wp2
    go_ret
    exact ⟨rfl, Below.refl _ _⟩
  obtain ⟨hall, _⟩ := hv rfl
  have hallH : Hid (∀ j, j < L.length → (L.getD j []).length ≤ 1048576) := hall
  clear hv hall
  by_cases hn1 : (4096 : Int) < (n : Int)
  · go_wp2_with fail
    go_ret
    exact ⟨rfl, Below.refl _ _⟩
  have hn2 : decide ((4096 : Int) < (n : Int)) = false := decide_eq_false hn1
  go_wp2_with fail
  refine (nested_any a0 n c0 L w _ hL hn (by omega)).mono ?_
  rintro e w' ⟨z, rfl, hw, hz0, hz1⟩
  replace hw := hw.symm; subst hw
  by_cases hs : (1048576 : Int) < z
  · go_wp2_with fail
    go_ret
    exact ⟨rfl, Below.refl _ _⟩
  have hs2 : decide ((1048576 : Int) < z) = false := decide_eq_false hs
  go_wp2_with fail
  refine (cloneN_any a0 n c0 L w hL hn.out (by omega) (fun xs hx => by obtain ⟨j, hj, rfl⟩ := List.getElem_of_mem hx; have := hallH.out j hj; simpa [List.getD, List.getElem?_eq_getElem hj] using this) h0).mono ?_
  rintro e w2 ⟨a2, rfl, hN3, hb2⟩
  rw [hn.out]
  have hbel : Hid (Below w.heap.size w w2) := hb2
  clear hb2 hL h0 hs2 hs hz0 hz1
  have hstart := got_start w2
  go_wp2
  go_loopw [4] (fun i wr => ∃ k : Nat, k ≤ n ∧ i = .int .i64 k ∧ Got w2.heap.size w2 (· ∈ L.take k) k wr) (fun i _ => n - (intOf i).toNat)
  case atStart => exact ⟨0, Nat.zero_le _, rfl, hstart.congr (fun xs => by simp)⟩
  case round =>
    clear hstart
    obtain ⟨k, hk, rfl, hgot⟩ := hrel
    by_cases hlt : k < n
    · have hN3H : Hid (NamesB w2.heap.size w2 a2 L) := hN3
      obtain ⟨b', off, a', m', c', rfl, hck, hold⟩ := names_at hN3 hgot.1 (k := k) (by rw [hn.out]; exact hlt) hallH.out hB
      have hgH : Hid (Got w2.heap.size w2 (· ∈ L.take k) k wr) := hgot
      clear hgot hN3
      go_wp2_with fail
      refine (add_got hgH.out (by omega) hold).mono ?_
      rintro e w3 ⟨v, rfl, hv, hgot3⟩
      have hvH : Hid (decide (L.getD k [] ∈ L.take k) = v) := by rw [Hid, Bool.eq_iff_iff, hv, decide_eq_true_eq]
      have hg3 : Hid (Got w2.heap.size w2 (· ∈ L.take (k + 1)) (k + 1) w3) := hgot3.congr (take_mem (by rw [hn.out]; exact hlt))
      clear hgot3 hold hv
      go_wp2_with fail
      refine (seen_any (some ⟨b', off, none⟩) n n k w2.heap.size L w3 (hN3H.out.below hg3.out.1 (Nat.le_refl _)) hn (by omega) hlt hallH).mono ?_
      rintro e w4 ⟨rfl, q, rfl⟩
      have hfin : Hid (Got w2.heap.size w2 (· ∈ L.take (k + 1)) (k + 1) (w3.drewN q)) := hg3.out.drewN q
      rw [hvH.out]
      clear hg3
      go_wp2
      go_roundw
      case rel => exact ⟨k + 1, by omega, by go_num, hfin.out⟩
      case measure => simp [intOf]; omega
    · have hfin : Hid (Below w.heap.size w wr) := hbel.out.trans (hgot.1.mono hbel.out.size)
      clear hgot
      go_wp2
      go_ret
      exact ⟨rfl, hfin.out⟩
end Go.Proofs.Qxb6605480a
