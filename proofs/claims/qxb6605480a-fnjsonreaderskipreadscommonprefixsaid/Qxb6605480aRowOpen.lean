import Derived.Test.Qxb6605480aBase
import Derived.ProofKit
import Derived.OpenShut
import Derived.ShutString
import Derived.ChangeOld
import Derived.Below
namespace Go.Proofs.Qxb6605480a.Json
open Go.ChangeShapes Go.WideShapes Go.ChangeAt Go.RowKit

theorem own : ownKnob Try.prog.godebug = none := by kernel_rfl
theorem laidOut : laidOutB Try.prog = true := by kernel_rfl

/-- One row of bytes, as its reading gives it. -/
theorem row_of {W : World} {a : Option Addr} {len cap : Nat} {zs : List Int} (hl : len ≤ cap) (hz : zs.length = cap) (hn : a = none → cap = 0) (hc : ∀ x, a = some x → ∀ i, i < cap → W.cell? (x.add i) = some (.int .u8 (zs.getD i 0))) :
    RowB W.heap.size W a (zs.take len) ∧ (zs.take len).length = len ∧ (a = none → zs.take len = []) := by
  refine ⟨fun hne => ?_, by rw [List.length_take]; omega, fun h => ?_⟩
  · have hlen : 0 < len := by
      rcases Nat.eq_zero_or_pos len with h | h
      · subst h; simp at hne
      · exact h
    cases a with
    | none => have := hn rfl; omega
    | some x =>
      have h0 := hc x rfl 0 (by omega)
      have hb := block_lt_of_cell h0
      obtain ⟨b, off, spot⟩ := x
      have hspot : spot = none := by simpa [Addr.add] using World.cell?_spot h0
      subst hspot
      refine ⟨b, off, rfl, by simpa [Addr.add] using hb, fun i hi => ?_⟩
      rw [List.length_take] at hi
      have := hc _ rfl i (by omega)
      rw [add_plain] at this
      rw [this]
      simp [List.getD, show i < len by omega]
  · have := hn h
    have : len = 0 := by omega
    subst this
    simp

theorem open_row {H : Type} {enc : TypeId × Value → H} {W : World} {t : TypeId} (ht : Try.prog.underlying t = some (.slice 5)) {a : Option Addr} {len cap : Nat} {d : DataW H} {p : List MemPlace} (h : DataW.Trod enc Try.prog W 0 (fun _ => true) true t (.slice a len cap) d p) :
    ∃ zs, RowB W.heap.size W a zs ∧ zs.length = len ∧ (a = none → zs = []) := by
  obtain ⟨fuel, hf⟩ := h
  rcases open_ints ht Try.underlying5 (by kernel_rfl) hf with ⟨hcs, _⟩ | ⟨x, l, c, zs, hcs, _, hl, hm, hz, _, hcell, hwz⟩
  · simp [Value.cells] at hcs
    obtain ⟨rfl, rfl, rfl⟩ := hcs
    exact ⟨[], fun h => absurd rfl h, rfl, fun _ => rfl⟩
  · simp [Value.cells] at hcs
    obtain ⟨rfl, rfl, rfl⟩ := hcs
    simp only [if_true] at hz
    exact ⟨_, row_of hl hz (fun h => by cases h) (fun x hx i hi => by cases hx; exact hcell i (by omega))⟩
end Go.Proofs.Qxb6605480a.Json
