import Derived.Test.Qxb6605480aLaw4
import Derived.ProofKit
import Derived.OpenShut
import Derived.ShutString
import Derived.ChangeOld
import Derived.Below
import Derived.Deep.Matrix
namespace Go.Proofs.Qxb6605480a
open Go.ChangeShapes Go.WideShapes Go.ChangeAt Go.RowKit
open Go.ChangeMaps (open_string shut_string)

theorem own : ownKnob Try.prog.godebug = none := by kernel_rfl
theorem laidOut : laidOutB Try.prog = true := by kernel_rfl

theorem bytes_wf {n : Int} (h : (Lit.int .u8 n).wf = true) : 0 ≤ n ∧ n ≤ 255 := by
  have := bounds_u8 h
  omega

/-- One row of bytes, as its reading gives it. -/
theorem row_of {W : World} {a : Option Addr} {len cap : Nat} {zs : List Int} (hl : len ≤ cap) (hz : zs.length = cap) (hn : a = none → cap = 0) (hc : ∀ x, a = some x → ∀ i, i < cap → W.cell? (x.add i) = some (.int .u8 (zs.getD i 0))) (hw : ∀ n ∈ zs, (Lit.int .u8 n).wf = true) :
    RowB W.heap.size W a (zs.take len) ∧ (zs.take len).length = len ∧ (a = none → zs.take len = []) ∧ BytesIn (zs.take len) := by
  refine ⟨fun hne => ?_, by rw [List.length_take]; omega, fun h => ?_, fun z hz' => bytes_wf (hw z (List.mem_of_mem_take hz'))⟩
  · have hlen : 0 < len := by
      rcases Nat.eq_zero_or_pos len with h | h
      · subst h; simp at hne
      · exact h
    cases a with
    | none => have := hn rfl; omega
    | some x =>
      have h0 := hc x rfl 0 (by omega)
      have hb := block_lt_of_cell h0
      obtain ⟨b, off, spot⟩ := x
      have hspot : spot = none := by simpa [Addr.add] using World.cell?_spot h0
      subst hspot
      refine ⟨b, off, rfl, by simpa [Addr.add] using hb, fun i hi => ?_⟩
      rw [List.length_take] at hi
      have := hc _ rfl i (by omega)
      rw [add_plain] at this
      rw [this]
      simp [List.getD, show i < len by omega]
  · have := hn h
    have : len = 0 := by omega
    subst this
    simp

section
variable {H : Type} {enc : TypeId × Value → H} {W : World}

theorem open_row {t : TypeId} (ht : Try.prog.underlying t = some (.slice 5)) {a : Option Addr} {len cap : Nat} {d : DataW H} {p : List MemPlace} (h : DataW.Trod enc Try.prog W 0 (fun _ => true) true t (.slice a len cap) d p) :
    ∃ zs, RowB W.heap.size W a zs ∧ zs.length = len ∧ (a = none → zs = []) ∧ BytesIn zs := by
  obtain ⟨fuel, hf⟩ := h
  rcases open_ints ht Try.underlying5 (by kernel_rfl) hf with ⟨hcs, _⟩ | ⟨x, l, c, zs, hcs, _, hl, hm, hz, _, hcell, hwz⟩
  · simp [Value.cells] at hcs
    obtain ⟨rfl, rfl, rfl⟩ := hcs
    exact ⟨[], fun h => absurd rfl h, rfl, fun _ => rfl, fun z hz => by simp at hz⟩
  · simp [Value.cells] at hcs
    obtain ⟨rfl, rfl, rfl⟩ := hcs
    simp only [if_true] at hz
    exact ⟨_, row_of hl hz (fun h => by cases h) (fun x hx i hi => by cases hx; exact hcell i (by omega)) hwz⟩

theorem open_names {a : Option Addr} {len cap : Nat} {d : DataW H} {p : List MemPlace} (h : DataW.Trod enc Try.prog W 0 (fun _ => true) true 22 (.slice a len cap) d p) :
    ∃ L, NamesB W.heap.size W a L ∧ L.length = len ∧ (a = none → L = []) ∧ ∀ xs ∈ L, BytesIn xs := by
  obtain ⟨fuel, hf⟩ := h
  rcases Deep.open_int_rows Try.underlying22 Try.underlying26 Try.underlying5 (by kernel_rfl) (by kernel_rfl) hf with ⟨hcs, _⟩ | ⟨x, l, c, A, Ln, C, Z, hcs, _, hl, hm, _, hx⟩
  · simp [Value.cells] at hcs
    obtain ⟨rfl, rfl, rfl⟩ := hcs
    exact ⟨[], fun h => absurd rfl h, rfl, fun _ => rfl, fun z hz => by simp at hz⟩
  · simp [Value.cells] at hcs
    obtain ⟨rfl, rfl, rfl⟩ := hcs
    have each : ∀ r, r < cap → RowB W.heap.size W (A r) ((Z r).take (Ln r)) ∧ ((Z r).take (Ln r)).length = Ln r ∧ (A r = none → (Z r).take (Ln r) = []) ∧ BytesIn ((Z r).take (Ln r)) := by
      intro r hr
      obtain ⟨_, h1, _, h3, h4, h5, h6⟩ := hx r hr
      exact row_of h1 h3 h5 (fun x hx i hi => (h6 x hx).2 i hi) h4
    have hat : ∀ i, i < len → ((List.range len).map fun r => (Z r).take (Ln r)).getD i [] = (Z i).take (Ln i) := by
      intro i hi
      simp [List.getD, hi]
    refine ⟨(List.range len).map fun r => (Z r).take (Ln r), fun hne => ?_, by simp, (fun h => by cases h), fun xs hxs => ?_⟩
    · have hlen : 0 < len := by
        rcases Nat.eq_zero_or_pos len with h | h
        · subst h; simp at hne
        · exact h
      have h0 := (hx 0 (by omega)).1
      have hb := block_lt_of_cell h0
      obtain ⟨b, off, spot⟩ := x
      have hspot : spot = none := by simpa [Addr.add] using World.cell?_spot h0
      subst hspot
      refine ⟨b, off, rfl, by simpa [Addr.add] using hb, fun i hi => ?_⟩
      simp at hi
      obtain ⟨e1, e2, e3, _⟩ := each i (by omega)
      refine ⟨A i, C i, ?_, ?_, ?_⟩
      · have := (hx i (by omega)).1
        rw [add_plain] at this
        rw [this, hat i hi, e2]
      · rw [hat i hi]; exact e1
      · rw [hat i hi]; exact e3
    · obtain ⟨r, hr, rfl⟩ := List.mem_map.1 hxs
      exact (each r (by have := List.mem_range.1 hr; omega)).2.2.2
end

end Go.Proofs.Qxb6605480a
