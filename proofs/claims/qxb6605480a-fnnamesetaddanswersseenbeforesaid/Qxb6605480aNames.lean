import Derived.Test.Qxb6605480aAdd3
namespace Go.Proofs.Qxb6605480a
open Go.RowKit

/-- '(*nameSet).add', whatever the set. -/
theorem add_any (b : Nat) (S : List (List Int)) (a : Option Addr) (len cap : Nat) (xs : List Int) (w : World) (hN : NSet w b S) (hS : S.length ≤ 1048576) (hx : Holds1 b w (.slice a len cap) xs) :
    Calls Try.prog 28 #[.pointer (some ⟨b, 0, none⟩), .slice a len cap] w fun e w' => Added b S xs w e w' := by
  have hN0 := hN
  rcases hN with ⟨f, hrow, h16, h17, hS16, hh⟩ | ⟨f, bm, n, D, hrow, h17, hbm, hown, hn, hM⟩
  · by_cases h : S.length < 16
    · exact add_few b S.length S a len cap xs w f hrow h16 h17 hh rfl h hx
    · have e : S.length = 16 := by omega
      rw [e] at h16
      exact add_turn b S a len cap xs w f hrow h16 h17 (fun i hi => hh i (by omega)) e hx
  · by_cases hin : xs ∈ S
    · exact add_many_seen b bm n D S a len cap xs w f hrow h17 hown hM hN0 hx hin
    · exact add_many_new b bm n D S a len cap xs w f hrow h17 hbm hown hn hS hM hx hin

set_option maxHeartbeats 400000 in
theorem zzadd_any (b : Nat) (S : List (List Int)) (a : Option Addr) (len cap : Nat) (xs : List Int) (w : World) (hN : NSet w b S) (hS : S.length ≤ 1048576) (hx : Holds1 b w (.slice a len cap) xs) :
    Calls Try.prog 11 #[.pointer (some ⟨b, 0, none⟩), .slice a len cap] w fun e w' => Added b S xs w e w' := by
  have H : Hid (Calls Try.prog 28 #[.pointer (some ⟨b, 0, none⟩), .slice a len cap] w fun e w' => Added b S xs w e w') := add_any b S a len cap xs w hN hS hx
  clear hN hx hS
  go_enter Try.func11, Try.ntmps11
  go_wp2_with fail
  refine H.out.mono ?_
  rintro e w' ⟨rfl, h⟩
  have h' : Hid (Added b S xs w (.returned (.bool (decide (xs ∈ S)))) w') := ⟨rfl, h⟩
  clear h
  generalize decide (xs ∈ S) = v at h'
  go_wp2
  go_ret
  exact h'.out

/-- A ROW OF NAMES. -/
def NamesB (B : Nat) (w : World) (a : Option Addr) (L : List (List Int)) : Prop :=
  L ≠ [] → ∃ b off, a = some ⟨b, off, none⟩ ∧ b < B ∧ ∀ i, i < L.length → ∃ a' c', w.cell? ⟨b, off + i, none⟩ = some (.slice a' (L.getD i []).length c') ∧ RowB B w a' (L.getD i []) ∧ (a' = none → L.getD i [] = [])

theorem NamesB.below {B C : Nat} {w w' : World} {a : Option Addr} {L : List (List Int)} (h : NamesB B w a L) (k : Below B w w') (hBC : B ≤ C) : NamesB C w' a L := by
  intro hz
  obtain ⟨b, off, rfl, hb, hc⟩ := h hz
  refine ⟨b, off, rfl, by omega, fun i hi => ?_⟩
  obtain ⟨a', c', h1, h2, h3⟩ := hc i hi
  exact ⟨a', c', (k.cell (by exact hb)).trans h1, h2.below k hBC, h3⟩

theorem NamesB.at {B : Nat} {w : World} {a : Option Addr} {L : List (List Int)} (h : NamesB B w a L) {k : Nat} (hk : k < L.length) :
    ∃ b off a' m c', a = some ⟨b, off, none⟩ ∧ b < B ∧ w.cell? ⟨b, off + k, none⟩ = some (.slice a' m c') ∧ RowB B w a' (L.getD k []) ∧ (L.getD k []).length = m ∧ (a' = none → L.getD k [] = []) := by
  obtain ⟨b, off, rfl, hb, hc⟩ := h (fun e => by simp [e] at hk)
  obtain ⟨a', c', h1, h2, h3⟩ := hc k hk
  exact ⟨b, off, a', _, c', rfl, hb, h1, h2, rfl, h3⟩

theorem RowB.setOther {Bd B n i : Nat} {w : World} {a : Option Addr} {zs : List Int} {f : Nat → Value} (h : RowB Bd w a zs) (hrow : w.rowIs B 26 n f) (hf : ∀ j, ∃ a l c, f j = .slice a l c) (v : Value) : RowB Bd (w.setCell ⟨B, i, none⟩ v) a zs := by
  intro hz
  obtain ⟨b, off, rfl, hb, hc⟩ := h hz
  refine ⟨b, off, rfl, hb, fun j hj => ?_⟩
  have hne : b ≠ B := by
    intro e
    subst e
    have h0 := hc 0 (by cases zs with | nil => exact absurd rfl hz | cons _ _ => simp)
    by_cases hlt : off + 0 < n
    · rw [hrow.cell hlt] at h0
      obtain ⟨a, l, c, e⟩ := hf (off + 0)
      rw [e] at h0
      cases h0
    · obtain ⟨cs, hb', hs, _⟩ := hrow
      simp [World.cell?, hb'] at h0
      rw [Array.getElem?_eq_none (by omega)] at h0
      cases h0
  rw [World.cell?_of_block (w := w) (w' := w.setCell ⟨B, i, none⟩ v) (Below.heap_setCell _ _ _ _ hne)]
  exact hc j hj

theorem Try.info26 : (Try.prog.info? 26).map (fun i => (i.zero, i.size, i.bytes)) = some (some (.slice none 0 0), 1, 24) := by kernel_rfl

/-- What 'cloneNames' leaves. -/
def ClonedN (w : World) (L : List (List Int)) (e : Ending) (w' : World) : Prop :=
  ∃ a', e = .returned (.slice a' L.length L.length) ∧ NamesB w'.heap.size w' a' L ∧ Below w.heap.size w w'

/-- Behind k rounds of 'cloneNames'. -/
def CloneRel (w : World) (L : List (List Int)) (k : Nat) (wr : World) : Prop :=
  Below w.heap.size w wr ∧ ∃ g : Nat → Option Addr, wr.rowIs w.heap.size 26 L.length (fun j => if j < k then .slice (g j) (L.getD j []).length (L.getD j []).length else .slice none 0 0) ∧
    ∀ j, j < k → RowB wr.heap.size wr (g j) (L.getD j []) ∧ (g j = none → L.getD j [] = [])

theorem cloneRel_start (w : World) (L : List (List Int)) : CloneRel w L 0 (w.alloc (.cells (madeCells #[.slice none 0 0] L.length) 26)) :=
  ⟨(Below.refl _ _).alloc (Nat.le_refl _) _, fun _ => none, (World.rowIs_made _ _ _ _).congr (fun i _ => by simp), fun j hj => by omega⟩

theorem cloneRel_step {w wr w' : World} {L : List (List Int)} {k : Nat} (h : CloneRel w L k wr) (hlt : w.heap.size < wr.heap.size) {a2 : Option Addr} (hr : RowB w'.heap.size w' a2 (L.getD k [])) (hb : Below wr.heap.size wr w') (hn : a2 = none → L.getD k [] = []) :
    CloneRel w L (k + 1) (w'.setCell ⟨w.heap.size, k, none⟩ (.slice a2 (L.getD k []).length (L.getD k []).length)) := by
  obtain ⟨h1, g, h2, h3⟩ := h
  have h2' : w'.rowIs w.heap.size 26 L.length _ := h2.of_block (hb.block _ hlt)
  have hsl : ∀ j, ∃ a l c, (if j < k then Value.slice (g j) (L.getD j []).length (L.getD j []).length else .slice none 0 0) = .slice a l c := by
    intro j; split <;> exact ⟨_, _, _, rfl⟩
  have hsz : (w'.setCell ⟨w.heap.size, k, none⟩ (.slice a2 (L.getD k []).length (L.getD k []).length)).heap.size = w'.heap.size := by simp [World.setCell]
  refine ⟨(h1.trans (hb.mono (by omega))).setCell (p := ⟨w.heap.size, k, none⟩) (Nat.le_refl _) _, fun j => if j = k then a2 else g j, (h2'.set k _).congr (fun j _ => ?_), fun j hj => ?_⟩
  · by_cases e : j = k
    · subst e; simp
    · by_cases hjk : j < k
      · simp [e, hjk, show j < k + 1 by omega]
      · simp [e, hjk, show ¬ j < k + 1 by omega]
  · rw [hsz]
    by_cases e : j = k
    · subst e
      simp only [if_true]
      exact ⟨hr.setOther h2' hsl _, hn⟩
    · simp only [if_neg e]
      obtain ⟨q1, q2⟩ := h3 j (by omega)
      exact ⟨(q1.below hb hb.size).setOther h2' hsl _, q2⟩

theorem cloneRel_end {w wr : World} {L : List (List Int)} (h : CloneRel w L L.length wr) : NamesB wr.heap.size wr (some ⟨w.heap.size, 0, none⟩) L := by
  obtain ⟨h1, g, h2, h3⟩ := h
  refine fun _ => ⟨_, 0, rfl, h2.lt, fun i hi => ⟨g i, (L.getD i []).length, ?_, h3 i hi⟩⟩
  have := h2.cell hi
  simp only [if_pos hi] at this
  rw [Nat.zero_add]
  exact this

theorem CloneRel.more {w wr : World} {L : List (List Int)} {k : Nat} (h : CloneRel w L k wr) : w.heap.size < wr.heap.size ∧ (∀ j, wr.frozen? ⟨w.heap.size, j, none⟩ = false) ∧ ∀ j, j < L.length → ∃ v, wr.cell? ⟨w.heap.size, j, none⟩ = some v := by
  obtain ⟨h1, g, h2, h3⟩ := h
  exact ⟨h2.lt, h2.frozen, fun j hj => ⟨_, h2.cell hj⟩⟩

set_option maxHeartbeats 800000 in
theorem cloneN_any (a : Option Addr) (n cap : Nat) (L : List (List Int)) (w : World) (hr : NamesB w.heap.size w a L) (hz : L.length = n) (hl : n ≤ 4096) (hb : ∀ xs ∈ L, xs.length ≤ 1048576) (hn : a = none → L = []) :
    Calls Try.prog 10 #[.slice a n cap] w fun e w' => ClonedN w L e w' := by
  have hnil : ∀ (w : World) (a : Option Addr) (n c : Nat), (binOp .eql 22 (.slice a n c) (.slice none 0 0)).run Try.prog w = .ok (.bool a.isNone) w := fun w a n c => Lib.run_eql_slice_nil w _ _ a n c 0 0 Try.underlying22
  cases a with
  | none =>
    obtain rfl := hn rfl
    go_enter Try.func10, Try.ntmps10
    go_wp2
    go_ret
    exact ⟨none, rfl, fun h => absurd rfl h, Below.refl _ _⟩
  | some x =>
    have hzH : Hid (L.length = n) := hz
    have hstart := cloneRel_start w L
    have hmk := run_make_row' (P := Try.prog) 22 26 (.slice none 0 0) 24 Try.underlying22 Try.info26 rfl .i64 .i64 n (by omega) (by omega)
    rw [hz] at hstart
    clear hz
    go_enter Try.func10, Try.ntmps10
    go_wp2
    go_loopw [4] (fun i wr => ∃ k : Nat, k ≤ n ∧ i = .int .i64 k ∧ CloneRel w L k wr) (fun i _ => n - (intOf i).toNat)
    case atStart => exact ⟨0, Nat.zero_le _, rfl, hstart⟩
    case round =>
      obtain ⟨k, hk, rfl, hrel⟩ := hrel
      have hRel : Hid (CloneRel w L k wr) := hrel
      obtain ⟨hsz, hfr, hce⟩ := hrel.more
      by_cases hlt : k < n
      · obtain ⟨b, off, a', m, c', hx, hbb, hcell, hrow, hm, hnn⟩ := hr.at (k := k) (by have := hzH.out; omega)
        obtain rfl : x = ⟨b, off, none⟩ := by simpa using hx
        have hck := (hrel.1.cell (p := ⟨b, off + k, none⟩) (by exact hbb)).trans hcell
        have hrow' := hrow.below hrel.1 hrel.1.size
        have hmb : m ≤ 1048576 := by rw [← hm]; exact hb _ (mem_getD (by have := hzH.out; omega))
        have hmH : Hid ((L.getD k []).length = m) := hm
        obtain ⟨v0, hv0⟩ := hce k (by have := hzH.out; omega)
        have hfk := hfr k
        clear hrel hx hcell hrow hm hr hstart hmk hfr hce
        go_wp2_with fail
        refine (clone_any a' m c' (L.getD k []) wr hrow' hmH.out hmb hnn).mono ?_
        rintro e w' ⟨a2, rfl, hr2, hb2, hn2⟩
        have hfin : Hid _ := cloneRel_step hRel.out hsz hr2 hb2 hn2
        rw [hmH.out] at hfin
        have hfk' := (hb2.frozen (p := ⟨w.heap.size, k, none⟩) hsz).trans hfk
        have hv0' := (hb2.cell (p := ⟨w.heap.size, k, none⟩) hsz).trans hv0
        rw [hmH.out]
        clear hr2 hb2 hn2 hrow' hnn hb
        go_wp2
        go_roundw
        case rel => exact ⟨k + 1, by omega, by go_num, hfin.out⟩
        case measure => simp [intOf]; omega
      · obtain rfl : k = n := by omega
        have hend : Hid _ := cloneRel_end (by rw [hzH.out]; exact hrel)
        have hbel := hrel.1
        have hL : Hid (k = L.length) := hzH.out.symm
        clear hrel hr hfr hce hstart hmk
        go_wp2
        go_ret
        exact ⟨some ⟨w.heap.size, 0, none⟩, by rw [hzH.out]; rfl, hend.out, hbel⟩
end Go.Proofs.Qxb6605480a
