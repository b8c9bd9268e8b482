import Derived.Test.Qxb6003608aRows
import Derived.Test.Qxb6003608aPlain
import Derived.WalkKit
import Derived.WalkSpells
import Derived.WalkLawsBesides
import Derived.Deep.OwnRows
import Derived.Deep.QuietTactic
import Derived.BigQuiet
namespace Go.Proofs.Qxb6003608a
open Go.RowKit

theorem ret_int {k : IntKind} {a b : Int} (h : a = b) : Ending.returned (.int k a) = .returned (.int k b) := by rw [h]

/-- The cells of a row of runs. -/
def runCell (F G : Nat → Int) (c : Nat) : Value := if c % 2 = 0 then .int .i64 (F (c / 2)) else .int .i64 (G (c / 2))

/-- A ROW OF RUNS of n elements in block b. -/
def RunsB (w : World) (b n : Nat) (F G : Nat → Int) : Prop := w.rowIs b 27 (n * 2) (runCell F G)

theorem runCell0 (F G : Nat → Int) (k : Nat) : runCell F G (k * 2) = .int .i64 (F k) := by
  unfold runCell; rw [if_pos (by omega), show k * 2 / 2 = k by omega]
theorem runCell1 (F G : Nat → Int) (k : Nat) : runCell F G (k * 2 + 1) = .int .i64 (G k) := by
  unfold runCell; rw [if_neg (by omega), show (k * 2 + 1) / 2 = k by omega]

theorem RunsB.c0 {w : World} {b n : Nat} {F G : Nat → Int} (h : RunsB w b n F G) {k : Nat} (hk : k < n) : w.cell? ⟨b, k * 2, none⟩ = some (.int .i64 (F k)) := by
  rw [World.rowIs.cell h (i := k * 2) (by omega), runCell0]
theorem RunsB.c1 {w : World} {b n : Nat} {F G : Nat → Int} (h : RunsB w b n F G) {k : Nat} (hk : k < n) : w.cell? ⟨b, k * 2 + 1, none⟩ = some (.int .i64 (G k)) := by
  rw [World.rowIs.cell h (i := k * 2 + 1) (by omega), runCell1]

/-- What 'Len' leaves. -/
def Lened (F G : Nat → Int) (n : Nat) (w : World) (e : Ending) (w' : World) : Prop := e = .returned (.int .i64 (wrap64 (sumTo F G n))) ∧ Below w.heap.size w w'

set_option maxHeartbeats 400000 in
theorem len_any (b n cap : Nat) (F G : Nat → Int) (w : World) (h : RunsB w b n F G) (hn : n ≤ 65537) :
    Calls Try.prog 7 #[.slice (some ⟨b, 0, none⟩) n cap] w fun e w' => Lened F G n w e w' := by
  go_enter Try.func7, Try.ntmps7
  go_wp2
  go_loopw [3, 8] (fun t i wr => ∃ (k : Nat) (x : Int), k ≤ n ∧ i = .int .i64 k ∧ t = .int .i64 x ∧ x = wrap64 (sumTo F G k) ∧ Below w.heap.size w wr) (fun _ i _ => n - (intOf i).toNat)
  case atStart => exact ⟨0, 0, Nat.zero_le _, rfl, rfl, wrap_zero.symm, Below.refl _ _⟩
  case round =>
    obtain ⟨k, x, hk, rfl, rfl, hx, hb⟩ := hrel
    have hxH : Hid (x = wrap64 (sumTo F G k)) := hx
    clear hx
    by_cases hlt : k < n
    · have hbb := World.rowIs.lt h
      have c0 := (hb.cell (p := ⟨b, k * 2, none⟩) hbb).trans (h.c0 hlt)
      have c1 := (hb.cell (p := ⟨b, k * 2 + 1, none⟩) hbb).trans (h.c1 hlt)
      have hst : Hid (wrap64 (x + wrap64 (wrap64 (G k - F k) + 1)) = wrap64 (sumTo F G (k + 1))) := by rw [Hid, hxH.out]; exact wrap_step _ _ _
      have hsz := hb.size
      have hbH : Hid (∀ o, Below w.heap.size w (wr.alloc o)) := fun o => hb.alloc hsz o
      clear hb h
      generalize F k = fk at c0 hst
      generalize G k = gk at c1 hst
      go_wp2
      go_roundw
      case rel => exact ⟨k + 1, _, by omega, by go_num, rfl, hst.out, hbH.out _⟩
      case measure => simp [intOf]; omega
    · obtain rfl : k = n := by omega
      clear h
      go_wp2
      go_ret
      exact ⟨ret_int hxH.out, hb⟩
end Go.Proofs.Qxb6003608a
