import Derived.Test.Qxb6605480aAdd1
namespace Go.Proofs.Qxb6605480a
open Go.RowKit Go.Maps

theorem law9 : Keyed Try.prog 9 := string_keyed Try.underlying9
theorem zero4 (w : World) : (zeroValue 4).run Try.prog w = .ok (.bool false) w := by kernel_rfl

/-- The name as a key. -/
def keyL (xs : List Int) : Lit := .string (strOfNums xs).data.toList

theorem keyL_ne {xs ys : List Int} (hx : Byt xs) (hy : Byt ys) (h : ys ≠ xs) : keyL ys ≠ keyL xs := by
  intro e
  simp only [keyL, Lit.string.injEq] at e
  exact h (str_inj hy hx (ByteArray.ext (Array.toList_inj.1 e)))

theorem keyOf9 {xs : List Int} (hx : Byt xs) : keyOf Try.prog 9 (.string (strOfNums xs)) = some (keyL xs) :=
  WideMaps.keyOf_string_mk Try.underlying9 (by rw [strOfNums_size]; have := hx.1; unfold maxLen; omega)

theorem isKey_keyL (xs : List Int) : WideAt.IsKeyLit (keyL xs) := trivial

/-- The map holds the names on the list, each at 'true'. -/
def Marks (D : DataW Unit) (S : List (List Int)) : Prop := ∀ xs, Byt xs → D.atKey (keyL xs) (.lit (.bool false)) = .lit (.bool (decide (xs ∈ S)))

theorem Marks.put {D : DataW Unit} {S : List (List Int)} {xs : List Int} (h : Marks D S) (hD : IsMap D) (hx : Byt xs) : Marks (D.put (keyL xs) (.lit (.bool true))) (S ++ [xs]) := by
  intro ys hy
  by_cases e : ys = xs
  · subst e
    rw [atKey_put_same hD (isKey_keyL _)]
    simp
  · rw [atKey_put_other (keyL_ne hx hy e), h ys hy]
    simp [e]

theorem plainElem_bool_inv {v : Value} {z : DataW Unit × List MemPlace} (h : plainElem Try.prog 4 v = some z) : ∃ x, v = .bool x ∧ z = (.lit (.bool x), []) := by
  unfold plainElem at h
  rw [Try.underlying4] at h
  cases v <;> simp at h
  exact ⟨_, rfl, h.symm⟩

/-- 'm[string(name)]' -/
theorem look_marks {w : World} {bm n : Nat} {D : DataW Unit} {S : List (List Int)} {xs : List Int} (hown : w.ownsMap Try.prog 9 (plainElem Try.prog 4) bm n D) (hM : Marks D S) (hx : Byt xs) :
    (Instr.lookup 28 (.map (some bm)) (.string (strOfNums xs)) false).run Try.prog w = .ok (.bool (decide (xs ∈ S))) w := by
  obtain ⟨v, ps, hrun, hv⟩ := hown.lookup law9 Try.underlying28 (zero4 w) (plainElem_bool Try.underlying4 false) (keyOf9 hx)
  obtain ⟨x, rfl, hz⟩ := plainElem_bool_inv hv
  rw [hM xs hx] at hz
  simp only [Prod.mk.injEq, DataW.lit.injEq, Lit.bool.injEq] at hz
  rw [hrun, hz.1]

set_option maxHeartbeats 400000 in
theorem add_many_seen (b bm n : Nat) (D : DataW Unit) (S : List (List Int)) (a : Option Addr) (len cap : Nat) (xs : List Int) (w : World) (f : Nat → Value) (hrow : w.rowIs b 30 18 f) (h17 : f 17 = .map (some bm))
    (hown : w.ownsMap Try.prog 9 (plainElem Try.prog 4) bm n D) (hM : Marks D S) (hN : Hid (NSet w b S)) (hx : Holds1 b w (.slice a len cap) xs) (hin : Hid (xs ∈ S)) :
    Calls Try.prog 28 #[.pointer (some ⟨b, 0, none⟩), .slice a len cap] w fun e w' => Added b S xs w e w' := by
  have c17 := hrow.cell (i := 17) (by omega)
  rw [h17] at c17
  have hmn : ∀ (w : World) (r : Option Nat), (binOp .eql 28 (.map r) (.map none)).run Try.prog w = .ok (.bool r.isNone) w := fun w r => run_eql_map_nil w 28 9 4 r Try.underlying28
  have hBx : Byt xs := hx.choose_spec.choose_spec.2.2
  obtain ⟨a0, m0, c0, e0, hcx⟩ := hx.conv
  cases e0
  have hlk : ∀ q, (Instr.lookup 28 (.map (some bm)) (.string (strOfNums xs)) false).run Try.prog (w.drewN q) = .ok (.bool (decide (xs ∈ S))) (w.drewN q) := fun q => look_marks (w := w.drewN q) hown hM hBx
  rw [decide_eq_true hin.out] at hlk
  clear hown hM
  generalize strOfNums xs = s at hcx hlk
  go_enter Try.func28, Try.ntmps28
  go_wp2
  go_quiet (fail)
  go_wp2
  go_ret
  exact .seen rfl hin.out (below_drewN (Below.refl _ _) _) hN.out

theorem many_put {b bm n : Nat} {D : DataW Unit} {S : List (List Int)} {xs : List Int} {w w0 w' : World} {f : Nat → Value} (hrow : w0.rowIs b 30 18 f) (h17 : f 17 = .map (some bm)) (hbm : b < bm) (hn : n ≤ S.length)
    (hb : Below b w w0) (hown : w'.ownsMap Try.prog 9 (plainElem Try.prog 4) bm (n + 1) D) (hg : w0.grownBy w' (some bm)) (hM : Marks D (S ++ [xs])) :
    Below b w w' ∧ NSet w' b (S ++ [xs]) := by
  have hlt := hrow.lt
  refine ⟨hb.grown hg (by omega) (fun k hk => by cases hk; omega), .inr ⟨f, bm, n + 1, D, hrow.of_block (hg.block b hlt (by simp; omega)), h17, hbm, hown, by simp; omega, hM⟩⟩

set_option maxHeartbeats 400000 in
theorem add_many_new (b bm n : Nat) (D : DataW Unit) (S : List (List Int)) (a : Option Addr) (len cap : Nat) (xs : List Int) (w : World) (f : Nat → Value) (hrow : w.rowIs b 30 18 f) (h17 : f 17 = .map (some bm)) (hbm : b < bm)
    (hown : w.ownsMap Try.prog 9 (plainElem Try.prog 4) bm n D) (hn : n ≤ S.length) (hS : S.length ≤ 1048576) (hM : Marks D S) (hx : Holds1 b w (.slice a len cap) xs) (hin : Hid (xs ∉ S)) :
    Calls Try.prog 28 #[.pointer (some ⟨b, 0, none⟩), .slice a len cap] w fun e w' => Added b S xs w e w' := by
  have c17 := hrow.cell (i := 17) (by omega)
  rw [h17] at c17
  have hmn : ∀ (w : World) (r : Option Nat), (binOp .eql 28 (.map r) (.map none)).run Try.prog w = .ok (.bool r.isNone) w := fun w r => run_eql_map_nil w 28 9 4 r Try.underlying28
  have hBx : Byt xs := hx.choose_spec.choose_spec.2.2
  obtain ⟨a0, m0, c0, e0, hcx⟩ := hx.conv
  cases e0
  have hlk : ∀ q, (Instr.lookup 28 (.map (some bm)) (.string (strOfNums xs)) false).run Try.prog (w.drewN q) = .ok (.bool (decide (xs ∈ S))) (w.drewN q) := fun q => look_marks (w := w.drewN q) hown hM hBx
  rw [decide_eq_false hin.out] at hlk
  have hup : ∀ q, ∃ w', (Instr.mapUpdate 28 (.map (some bm)) (.string (strOfNums xs)) (.bool true)).run Try.prog (w.drewN q) = .ok () w' ∧ Below b w w' ∧ NSet w' b (S ++ [xs]) := by
    intro q
    have hown' : (w.drewN q).ownsMap Try.prog 9 (plainElem Try.prog 4) bm n D := hown
    obtain ⟨w', hr, ho, hg⟩ := hown'.update law9 Try.underlying28 (by unfold maxLen; omega) (keyOf9 hBx) (plainElem_bool Try.underlying4 true)
    have hf := many_put (w0 := w.drewN q) hrow h17 hbm hn (below_drewN (Below.refl _ _) _) ho hg (hM.put hown.isMap hBx)
    exact ⟨w', hr, hf.1, hf.2⟩
  obtain ⟨g, hg⟩ := pick hup
  have hru := fun q => (hg q).1
  have hfin : Hid (∀ q, Below b w (g q) ∧ NSet (g q) b (S ++ [xs])) := fun q => (hg q).2
  clear hown hM hg hup hx hrow
  generalize strOfNums xs = s at hcx hlk hru
  go_enter Try.func28, Try.ntmps28
  go_wp2
  go_quiet (fail)
  go_wp2
  go_region
  go_wp2
  go_ret
  exact .new rfl hin.out (hfin.out _).1 (hfin.out _).2
end Go.Proofs.Qxb6605480a
