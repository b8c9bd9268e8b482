import Derived.Test.Qxb6003608aBase
namespace Go.Proofs.Qxb6003608a
open Go.RowKit

/-- A ROW OF NUMBERS that came in. -/
def RowI (B : Nat) (w : World) (a : Option Addr) (n : Nat) (F : Nat → Int) : Prop :=
  0 < n → ∃ b off, a = some ⟨b, off, none⟩ ∧ b < B ∧ ∀ i, i < n → w.cell? ⟨b, off + i, none⟩ = some (.int .i64 (F i))

theorem RowI.below {B : Nat} {w w' : World} {a : Option Addr} {n : Nat} {F : Nat → Int} (h : RowI B w a n F) (k : Below B w w') : RowI B w' a n F := by
  intro hn
  obtain ⟨b, off, rfl, hb, hc⟩ := h hn
  exact ⟨b, off, rfl, hb, fun i hi => (k.cell (by exact hb)).trans (hc i hi)⟩

/-- What 'spanMinusGaps' leaves. -/
def Spanned (F G : Nat → Int) (n : Nat) (w : World) (e : Ending) (w' : World) : Prop := e = .returned (.int .i64 (wrap64 (sumTo F G n))) ∧ ∃ q, w' = w.drewN q

set_option maxHeartbeats 400000 in
theorem span_any (B : Nat) (a a' : Option Addr) (n cap cap' : Nat) (F G : Nat → Int) (w : World) (hF : RowI B w a n F) (hG : RowI B w a' n G) (hn : n ≤ 65536) :
    Calls Try.prog 6 #[.slice a n cap, .slice a' n cap'] w fun e w' => Spanned F G n w e w' := by
  rcases Nat.eq_zero_or_pos n with h0 | h0
  · subst h0
    go_enter Try.func6, Try.ntmps6
    go_wp2
    go_ret
    exact ⟨ret_int wrap_zero.symm, 0, rfl⟩
  · obtain ⟨b, off, rfl, _, hc⟩ := hF h0
    obtain ⟨b', off', rfl, _, hc'⟩ := hG h0
    have hn0 : ((n : Int) == 0) = false := by simp; omega
    have hn1 : (0 : Int) < (n : Int) := by omega
    have cF0 := hc 0 h0
    have cGn := hc' (n - 1) (by omega)
    rw [Nat.add_zero] at cF0
    go_enter Try.func6, Try.ntmps6
    go_wp2
    go_quiet (fail)
    go_wp2
    go_loopw [6, 7] (fun t i wr => ∃ (k q : Nat) (x : Int), k ≤ n - 1 ∧ i = .int .i64 k ∧ t = .int .i64 x ∧ x = wrap64 (gapTo F G n k) ∧ wr = w.drewN q) (fun _ i _ => n - (intOf i).toNat)
    case atStart => exact ⟨0, nq, _, Nat.zero_le _, rfl, rfl, wrap_span _ _, rfl⟩
    case round =>
      clear cF0 cGn
      obtain ⟨k, q, x, hk, rfl, rfl, hx, rfl⟩ := hrel
      have hxH : Hid (x = wrap64 (gapTo F G n k)) := hx
      clear hx
      by_cases hlt : k + 1 < n
      · have hlt' : (k : Int) + 1 < (n : Int) := by omega
        have hlt2 : (k : Int) < (n : Int) := by omega
        have cF := hc (k + 1) hlt
        have cG := hc' k (by omega)
        have hst : Hid (wrap64 (x - wrap64 (wrap64 (F (k + 1) - G k) - 1)) = wrap64 (gapTo F G n (k + 1))) := by rw [Hid, hxH.out]; exact wrap_gap _ _ _
        clear hc hc'
        generalize F (k + 1) = fk at cF hst
        generalize G k = gk at cG hst
        go_wp2
        go_quiet (fail)
        go_wp2
        go_roundw
        case rel => exact ⟨k + 1, _, _, by omega, by go_num, rfl, hst.out, rfl⟩
        case measure => simp [intOf]; omega
      · have hk1 : Hid (k = n - 1) := by rw [Hid]; omega
        clear hc hc'
        go_wp2
        go_ret
        exact ⟨ret_int (by rw [hxH.out, hk1.out, gap_end F G h0]), _, rfl⟩
end Go.Proofs.Qxb6003608a
