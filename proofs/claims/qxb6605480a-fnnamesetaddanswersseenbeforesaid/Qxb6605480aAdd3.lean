import Derived.Test.Qxb6605480aAdd2
import Derived.Deep.MidRow
namespace Go.Proofs.Qxb6605480a
open Go.RowKit Go.Maps

/-- The sixteen cells of 'few'. -/
def fewCells (f : Nat → Value) : List Value := (List.range 16).map f
theorem fewCells_length (f : Nat → Value) : (fewCells f).length = 16 := by simp [fewCells]
theorem fewCells_at (f : Nat → Value) {k : Nat} (hk : k < 16) : (fewCells f)[k]? = some (f k) := by simp [fewCells, hk]

theorem Try.info27 : (Try.prog.info? 27).map (·.size) = some 16 := by kernel_rfl

theorem index_few (f : Nat → Value) (k : Nat) (hk : k < 16) (w : World) : (Instr.index 27 (.agg (fewCells f).toArray) (.int .i64 k)).run Try.prog w = .ok (f k) w := by
  have hs : (sizeOf 26).run Try.prog w = .ok 1 w := by kernel_rfl
  have ha : (isAgg 26).run Try.prog w = .ok false w := by kernel_rfl
  have hp : (part 26 (fewCells f).toArray k).run Try.prog w = .ok (f k) w := by
    unfold part
    simp [Sem.run_bind, ha, Result.andThen, fewCells_at f hk, Sem.run_pure]
  unfold Instr.index
  simp [Sem.run_bind, run_underlying Try.underlying27, hs, Result.andThen, hk, hp, asIntOf]

theorem Many_or {w0 : World} {b bm n : Nat} {D : DataW Unit} {S : List (List Int)} {f : Nat → Value} (hrow : w0.rowIs b 30 18 f) (h17 : f 17 = .map (some bm)) (hbm : b < bm) (hown : w0.ownsMap Try.prog 9 (plainElem Try.prog 4) bm n D)
    (hn : n ≤ S.length) (hM : Marks D S) : NSet w0 b S := .inr ⟨f, bm, n, D, hrow, h17, hbm, hown, hn, hM⟩

theorem take_marks {D : DataW Unit} {S : List (List Int)} {k : Nat} (hk : k < S.length) (h : Marks D (S.take k)) (hD : IsMap D) (hB : Byt (S.getD k [])) : Marks (D.put (keyL (S.getD k [])) (.lit (.bool true))) (S.take (k + 1)) := by
  have := h.put hD hB
  rw [List.take_succ_eq_append_getElem hk]
  simpa [List.getD, List.getElem?_eq_getElem hk] using this

/-- The world behind 's.many = map[string]bool{}'. -/
def turned (w : World) (b : Nat) : World := (w.setCell ⟨b, 17, none⟩ (.map (some w.heap.size))).alloc (.map #[] 0)

theorem turned_row {w : World} {b : Nat} {f : Nat → Value} (hrow : w.rowIs b 30 18 f) : (turned w b).rowIs b 30 18 (fun j => if j = 17 then .map (some w.heap.size) else f j) :=
  (hrow.set 17 _).alloc _

theorem turned_range {w : World} {b : Nat} {f : Nat → Value} (hrow : w.rowIs b 30 18 f) : ((w.setCell ⟨b, 17, none⟩ (.map (some w.heap.size))).alloc (.map #[] 0)).rangeAt b 0 (fewCells f) := by
  intro j v hj
  have hj16 : j < 16 := by
    rcases Nat.lt_or_ge j 16 with h | h
    · exact h
    · rw [List.getElem?_eq_none (by rw [fewCells_length]; exact h)] at hj; cases hj
  rw [fewCells_at f hj16] at hj
  cases hj
  have := (turned_row hrow).cell (i := j) (by omega)
  rw [if_neg (by omega)] at this
  rw [Nat.zero_add]
  exact this

theorem turned_below {w : World} {b : Nat} (hlt : b < w.heap.size) : Below b w (turned w b) :=
  ((Below.refl _ _).setCell (p := ⟨b, 17, none⟩) (Nat.le_refl b) _).alloc (by simp [World.setCell]; omega) _

theorem turned_owns {w : World} {b : Nat} : (turned w b).ownsMap Try.prog 9 (plainElem (H := Unit) Try.prog 4) w.heap.size 0 (.map []) :=
  by
  have h := World.ownsMap_made (w.setCell ⟨b, 17, none⟩ (.map (some w.heap.size))) Try.prog 9 (plainElem (H := Unit) Try.prog 4)
  have e : (w.setCell ⟨b, 17, none⟩ (.map (some w.heap.size))).heap.size = w.heap.size := by simp [World.setCell]
  rw [e] at h
  exact h

theorem marks_empty : Marks (.map []) [] := fun xs _ => by simp [DataW.atKey]

/-- Behind k rounds of the loop that fills the map. -/
def TurnRel (w : World) (b : Nat) (f : Nat → Value) (S : List (List Int)) (k : Nat) (wr : World) : Prop :=
  Below b w wr ∧ wr.rowIs b 30 18 (fun j => if j = 17 then .map (some w.heap.size) else f j) ∧ ∃ D : DataW Unit, wr.ownsMap Try.prog 9 (plainElem Try.prog 4) w.heap.size k D ∧ Marks D (S.take k)

theorem turn_start {w : World} {b : Nat} {f : Nat → Value} (S : List (List Int)) (hrow : w.rowIs b 30 18 f) : TurnRel w b f S 0 ((w.setCell ⟨b, 17, none⟩ (.map (some w.heap.size))).alloc (.map #[] 0)) :=
  ⟨turned_below hrow.lt, turned_row hrow, _, turned_owns, marks_empty⟩

theorem turn_step {w wr : World} {b : Nat} {f : Nat → Value} {S : List (List Int)} {k : Nat} (h : TurnRel w b f S k wr) (hb : b < w.heap.size) (hk : k < S.length) (hS : S.length ≤ 16) (hB : Byt (S.getD k [])) (q : Nat) :
    ∃ w', (Instr.mapUpdate 28 (.map (some w.heap.size)) (.string (strOfNums (S.getD k []))) (.bool true)).run Try.prog (wr.drewN q) = .ok () w' ∧ TurnRel w b f S (k + 1) w' := by
  obtain ⟨h1, h2, D, h3, h4⟩ := h
  have h3' : (wr.drewN q).ownsMap Try.prog 9 (plainElem Try.prog 4) w.heap.size k D := h3
  obtain ⟨w', hr, ho, hg⟩ := h3'.update law9 Try.underlying28 (by unfold maxLen; omega) (keyOf9 hB) (plainElem_bool Try.underlying4 true)
  have hlt := h2.lt
  exact ⟨w', hr, (below_drewN h1 q).grown hg (by show b ≤ wr.heap.size; omega) (fun k hk => by cases hk; omega),
    World.rowIs.of_block (w := wr.drewN q) h2 (hg.block b hlt (by simp; omega)), _, ho, take_marks hk h4 h3.isMap hB⟩

theorem turn_end {w wr : World} {b : Nat} {f : Nat → Value} {S : List (List Int)} (h : TurnRel w b f S 16 wr) (hb : b < w.heap.size) (hS : S.length = 16) {xs : List Int} (hB : Byt xs) :
    Below b w wr ∧ NSet wr b S ∧ (∀ q, (Instr.lookup 28 (.map (some w.heap.size)) (.string (strOfNums xs)) false).run Try.prog (wr.drewN q) = .ok (.bool (decide (xs ∈ S))) (wr.drewN q)) ∧
      ∀ q, ∃ w', (Instr.mapUpdate 28 (.map (some w.heap.size)) (.string (strOfNums xs)) (.bool true)).run Try.prog (wr.drewN q) = .ok () w' ∧ Below b w w' ∧ NSet w' b (S ++ [xs]) := by
  obtain ⟨h1, h2, D, h3, h4⟩ := h
  rw [List.take_of_length_le (by omega)] at h4
  refine ⟨h1, Many_or h2 (if_pos rfl) hb h3 (by omega) h4, fun q => look_marks (w := wr.drewN q) h3 h4 hB, fun q => ?_⟩
  have h3' : (wr.drewN q).ownsMap Try.prog 9 (plainElem Try.prog 4) w.heap.size 16 D := h3
  obtain ⟨w', hr, ho, hg⟩ := h3'.update law9 Try.underlying28 (by unfold maxLen; omega) (keyOf9 hB) (plainElem_bool Try.underlying4 true)
  have hf := many_put (w0 := wr.drewN q) h2 (if_pos rfl) hb (by omega) (below_drewN h1 _) ho hg (h4.put h3.isMap hB)
  exact ⟨w', hr, hf.1, hf.2⟩

theorem TurnRel.c17 {w wr : World} {b : Nat} {f : Nat → Value} {S : List (List Int)} {k : Nat} (h : TurnRel w b f S k wr) : wr.cell? ⟨b, 17, none⟩ = some (.map (some w.heap.size)) := by
  have := h.2.1.cell (i := 17) (by omega)
  rwa [if_pos rfl] at this

set_option maxHeartbeats 800000 in
theorem add_turn (b : Nat) (S : List (List Int)) (a : Option Addr) (len cap : Nat) (xs : List Int) (w : World) (f : Nat → Value) (hrow : w.rowIs b 30 18 f) (h16 : f 16 = .int .i64 16) (h17 : f 17 = .map none)
    (hh : ∀ i, i < 16 → Holds1 b w (f i) (S.getD i [])) (hSn : Hid (S.length = 16)) (hx : Holds1 b w (.slice a len cap) xs) :
    Calls Try.prog 28 #[.pointer (some ⟨b, 0, none⟩), .slice a len cap] w fun e w' => Added b S xs w e w' := by
  have c16 := hrow.cell (i := 16) (by omega)
  have c17 := hrow.cell (i := 17) (by omega)
  rw [h16] at c16
  rw [h17] at c17
  have f17 := hrow.frozen 17
  have hlt := hrow.lt
  have hmn : ∀ (w : World) (r : Option Nat), (binOp .eql 28 (.map r) (.map none)).run Try.prog w = .ok (.bool r.isNone) w := fun w r => run_eql_map_nil w 28 9 4 r Try.underlying28
  have hmm := @run_makeMap Try.prog
  have hrange := turned_range hrow
  have hstart := turn_start S hrow
  have hBx : Byt xs := hx.choose_spec.choose_spec.2.2
  go_enter Try.func28, Try.ntmps28
  go_wp2_with (refine wpList_load_mid rfl 27 _ rfl b 0 rfl (fewCells f) _ (by exact hrange) Try.underlying27 rfl (by rw [fewCells_length]; exact Try.info27) ?_)
  go_loopw [69] (fun i wr => ∃ k : Nat, k ≤ 16 ∧ i = .int .i64 k ∧ TurnRel w b f S k wr) (fun i _ => 16 - (intOf i).toNat)
  case atStart => exact ⟨0, by omega, rfl, hstart⟩
  case round =>
    clear c16 c17 f17 hrange hstart hrow h16 h17 hmm
    obtain ⟨k, hk, rfl, hrel⟩ := hrel
    have c17 := hrel.c17
    by_cases hlt16 : k < 16
    · have hBy : Byt (S.getD k []) := (hh k hlt16).choose_spec.choose_spec.2.2
      obtain ⟨a1, m1, c1, e1, hcy⟩ := ((hh k hlt16).below hrel.1).conv
      have hix := index_few f k hlt16
      rw [e1] at hix
      obtain ⟨g, hg⟩ := pick (turn_step hrel hlt (by have := hSn.out; omega) (by have := hSn.out; omega) hBy)
      have hru := fun q => (hg q).1
      have hfin : Hid (∀ q, TurnRel w b f S (k + 1) (g q)) := fun q => (hg q).2
      clear hg hrel hBy e1 hh hx hBx
      generalize strOfNums (S.getD k []) = s at hcy hru
      have hcy1 : (convert 26 9 (.slice a1 m1 c1)).run Try.prog wr.drew = .ok (.string s) wr.drew := hcy 1
      have hru1 : (Instr.mapUpdate 28 (.map (some w.heap.size)) (.string s) (.bool true)).run Try.prog wr.drew = .ok () (g 1) := hru 1
      clear hcy hru
      go_wp2
      go_region
      go_wp2
      go_roundw
      case rel => exact ⟨k + 1, by omega, by go_num, hfin.out _⟩
      case measure => simp [intOf]; omega
    · obtain rfl : k = 16 := by omega
      obtain ⟨a1, m1, c1, e1, hcx⟩ := (hx.below hrel.1).conv
      cases e1
      obtain ⟨hb, hN, hlk, hup⟩ := turn_end hrel hlt hSn.out hBx
      obtain ⟨g, hg⟩ := pick hup
      have hru := fun q => (hg q).1
      have hfin : Hid (∀ q, Below b w (g q) ∧ NSet (g q) b (S ++ [xs])) := fun q => (hg q).2
      have hNH : Hid (Below b w wr ∧ NSet wr b S) := ⟨hb, hN⟩
      clear hg hup hb hN hrel hh hx hBx
      by_cases hin : xs ∈ S
      · rw [decide_eq_true hin] at hlk
        have hinH : Hid (xs ∈ S) := hin
        clear hin
        generalize strOfNums xs = s at hcx hru hlk
        go_wp2
        go_quiet (fail)
        go_wp2
        go_ret
        exact .seen rfl hinH.out (below_drewN hNH.out.1 _) hNH.out.2
      · rw [decide_eq_false hin] at hlk
        have hinH : Hid (xs ∉ S) := hin
        clear hin
        generalize strOfNums xs = s at hcx hru hlk
        go_wp2
        go_quiet (fail)
        go_wp2
        go_region
        go_wp2
        go_ret
        exact .new rfl hinH.out (hfin.out _).1 (hfin.out _).2
end Go.Proofs.Qxb6605480a
