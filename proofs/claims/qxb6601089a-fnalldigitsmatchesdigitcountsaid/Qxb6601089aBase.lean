import Derived.Test.Qxb6601089aRows
import Derived.WalkKit
import Derived.WalkSpells
import Derived.WalkLawsBesides
import Derived.Deep.OwnRows
import Derived.Deep.QuietTactic
import Derived.BigQuiet
namespace Go.Proofs.Qxb6601089a
open Go.RowKit

theorem Try.info5 : (Try.prog.info? 5).map (fun i => (i.zero, i.size, i.bytes)) = some (some (.int .u8 0), 1, 1) := by kernel_rfl

/-- A ROW OF BYTES: the slice's elements are the numbers zs; they lie below block B. -/
def RowB (B : Nat) (w : World) (a : Option Addr) (zs : List Int) : Prop :=
  zs ≠ [] → ∃ b off, a = some ⟨b, off, none⟩ ∧ b < B ∧ ∀ i, i < zs.length → w.cell? ⟨b, off + i, none⟩ = some (.int .u8 (zs.getD i 0))

theorem RowB.below {B C : Nat} {w w' : World} {a : Option Addr} {zs : List Int} (h : RowB B w a zs) (k : Below B w w') (hBC : B ≤ C) : RowB C w' a zs := by
  intro hz
  obtain ⟨b, off, rfl, hb, hc⟩ := h hz
  exact ⟨b, off, rfl, by omega, fun i hi => (k.cell (by exact hb)).trans (hc i hi)⟩

theorem RowB.at {B : Nat} {w : World} {a : Option Addr} {zs : List Int} (h : RowB B w a zs) {k : Nat} (hk : k < zs.length) :
    ∃ b off, a = some ⟨b, off, none⟩ ∧ b < B ∧ ∀ i, i < zs.length → w.cell? ⟨b, off + i, none⟩ = some (.int .u8 (zs.getD i 0)) :=
  h (fun e => by simp [e] at hk)

theorem RowB.of_rowIs {B b : Nat} {w : World} {zs : List Int} (h : w.rowIs b 5 zs.length (fun i => .int .u8 (zs.getD i 0))) (hb : b < B) : RowB B w (some ⟨b, 0, none⟩) zs :=
  fun _ => ⟨b, 0, rfl, hb, fun i hi => by rw [Nat.zero_add]; exact h.cell hi⟩

theorem clone_step (zs : List Int) (k : Nat) : ∀ j, j < zs.length → (if j = k then Value.int .u8 (zs.getD k 0) else if j < k then .int .u8 (zs.getD j 0) else .int .u8 0) = if j < k + 1 then .int .u8 (zs.getD j 0) else .int .u8 0 := by
  intro j _
  by_cases h : j = k
  · subst h; simp
  · by_cases h2 : j < k
    · rw [if_neg h, if_pos h2, if_pos (by omega)]
    · rw [if_neg h, if_neg h2, if_neg (by omega)]

/-- What 'cloneBytes' leaves: a slice of the same bytes; nothing that was there has turned. -/
def Cloned (w : World) (zs : List Int) (e : Ending) (w' : World) : Prop :=
  ∃ a', e = .returned (.slice a' zs.length zs.length) ∧ RowB w'.heap.size w' a' zs ∧ Below w.heap.size w w' ∧ (a' = none → zs = [])

set_option maxHeartbeats 400000 in
/-- 'cloneBytes': a new row of the same bytes; nothing that was there has turned. -/
theorem clone_any (a : Option Addr) (len cap : Nat) (zs : List Int) (w : World) (hr : RowB w.heap.size w a zs) (hz : zs.length = len) (hl : len ≤ 1048576) (hn : a = none → zs = []) :
    Calls Try.prog 6 #[.slice a len cap] w fun e w' => Cloned w zs e w' := by
  have hnil : ∀ (w : World) (a : Option Addr) (n c : Nat), (binOp .eql 22 (.slice a n c) (.slice none 0 0)).run Try.prog w = .ok (.bool a.isNone) w := fun w a n c => Lib.run_eql_slice_nil w _ _ a n c 0 0 Try.underlying22
  cases a with
  | none =>
    obtain rfl := hn rfl
    go_enter Try.func6, Try.ntmps6
    go_wp2
    go_ret
    exact ⟨none, rfl, fun h => absurd rfl h, Below.refl _ _, fun _ => rfl⟩
  | some x =>
    subst hz
    have hmk := run_make_row' (P := Try.prog) 22 5 (.int .u8 0) 1 Try.underlying22 Try.info5 rfl .i64 .i64 zs.length (by omega) (by omega)
    go_enter Try.func6, Try.ntmps6
    go_wp2
    go_loopw [4] (fun i wr => ∃ k : Nat, k ≤ zs.length ∧ i = .int .i64 k ∧ Below w.heap.size w wr ∧ wr.rowIs w.heap.size 5 zs.length (fun j => if j < k then .int .u8 (zs.getD j 0) else .int .u8 0)) (fun i _ => zs.length - (intOf i).toNat)
    case atStart => exact ⟨0, Nat.zero_le _, rfl, (Below.refl _ _).alloc (Nat.le_refl _) _, (World.rowIs_made _ _ _ _).congr (fun i _ => by simp)⟩
    case round =>
      obtain ⟨k, hk, rfl, hb, hrow⟩ := hrel
      by_cases hlt : k < zs.length
      · obtain ⟨b, off, hx, hbb, hc⟩ := hr.at hlt
        obtain rfl : x = ⟨b, off, none⟩ := by simpa using hx
        have R := (hrow.set k (.int .u8 (zs.getD k 0))).congr (clone_step zs k)
        have hck : wr.cell? ⟨b, off + k, none⟩ = some (.int .u8 (zs.getD k 0)) := (hb.cell (by exact hbb)).trans (hc k hlt)
        generalize zs.getD k 0 = z at R hck
        have hf := hrow.frozen k
        have hco := hrow.cell hlt
        have B := hb.setCell (p := ⟨w.heap.size, k, none⟩) (Nat.le_refl _) (.int .u8 z)
        clear hrow hc hr hx
        go_wp2
        go_roundw
        case rel => exact ⟨k + 1, by omega, by go_num, B, R⟩
        case measure => simp [intOf]; omega
      · have R := hrow.congr (g := fun j => .int .u8 (zs.getD j 0)) (fun i hi => by rw [if_pos (by omega)])
        have hlt' := hrow.lt
        clear hrow hr
        go_wp2
        go_ret
        exact ⟨some ⟨w.heap.size, 0, none⟩, rfl, .of_rowIs R hlt', hb, fun h => by cases h⟩
end Go.Proofs.Qxb6601089a
