import Derived.Test.Qxb6605480aSame
namespace Go.Proofs.Qxb6605480a
open Go.RowKit

/-- The numbers are bytes. -/
def Byt (zs : List Int) : Prop := zs.length ≤ 1048576 ∧ ∀ z ∈ zs, 0 ≤ z ∧ z ≤ 255

/-- 'string(b)' -/
theorem conv_any {B : Nat} {w : World} {a : Option Addr} {zs : List Int} (h : RowB B w a zs) (cap : Nat) :
    (convert 26 9 (.slice a zs.length cap)).run Try.prog w = .ok (.string (strOfNums zs)) w := by
  by_cases hz : zs = []
  · subst hz
    rw [run_convert_bytes_string w 26 9 5 _ _ cap Try.underlying26 Try.underlying5 Try.underlying9]
    cases a <;> simp [Conv.bytesToString, loadCells]
    all_goals rfl
  · obtain ⟨b, off, rfl, _, hc⟩ := h hz
    exact run_convert_bytes_arg w 26 5 Try.underlying26 Try.underlying5 b off zs.length cap zs rfl hc 9 Try.underlying9

theorem str_inj : ∀ {zs ys : List Int}, Byt zs → Byt ys → strOfNums zs = strOfNums ys → zs = ys := by
  intro zs ys hz hy h
  replace hz := hz.2
  replace hy := hy.2
  have h1 : (zs.map fun n => UInt8.ofNat n.toNat) = (ys.map fun n => UInt8.ofNat n.toNat) := by
    rw [← strOfNums_data, ← strOfNums_data, h]
  clear h
  induction zs generalizing ys with
  | nil => cases ys with
    | nil => rfl
    | cons y ys => simp at h1
  | cons z zs ih => cases ys with
    | nil => simp at h1
    | cons y ys =>
      simp only [List.map_cons, List.cons.injEq] at h1
      obtain ⟨e1, e2⟩ := h1
      have hz0 := hz z (by simp)
      have hy0 := hy y (by simp)
      have e3 : z.toNat = y.toNat := by
        have := congrArg UInt8.toNat e1
        simp [UInt8.toNat_ofNat'] at this
        omega
      have : z = y := by omega
      rw [this, ih (fun x hx => hz x (by simp [hx])) (fun x hx => hy x (by simp [hx])) e2]

theorem str_ne {zs ys : List Int} (hz : Byt zs) (hy : Byt ys) (h : zs ≠ ys) : ((strOfNums zs).toList == (strOfNums ys).toList) = false := by
  rw [beq_eq_false_iff_ne, ByteArray.toList_eq, ByteArray.toList_eq]
  exact fun e => h (str_inj hz hy (ByteArray.ext (Array.toList_inj.1 e)))

/-- The slot i of 'few' holds the name xs. -/
def Holds1 (B : Nat) (w : World) (v : Value) (xs : List Int) : Prop := ∃ a c, v = .slice a xs.length c ∧ RowB B w a xs ∧ Byt xs

/-- THE SET WHILE ITS NAMES ARE FEW: block b is the struct. -/
def Few (w : World) (b : Nat) (S : List (List Int)) : Prop :=
  ∃ f : Nat → Value, w.rowIs b 30 18 f ∧ f 16 = .int .i64 S.length ∧ f 17 = .map none ∧ S.length ≤ 16 ∧ ∀ i, i < S.length → Holds1 b w (f i) (S.getD i [])

/-- THE SET WHEN ITS NAMES ARE MANY: the struct's third field leads to a map of its own. -/
def Many (w : World) (b : Nat) (S : List (List Int)) : Prop :=
  ∃ (f : Nat → Value) (bm n : Nat) (D : DataW Unit), w.rowIs b 30 18 f ∧ f 17 = .map (some bm) ∧ b < bm ∧ w.ownsMap Try.prog 9 (plainElem Try.prog 4) bm n D ∧ n ≤ S.length ∧
    ∀ xs, Byt xs → D.atKey (.string (strOfNums xs).data.toList) (.lit (.bool false)) = .lit (.bool (decide (xs ∈ S)))

def NSet (w : World) (b : Nat) (S : List (List Int)) : Prop := Few w b S ∨ Many w b S

/-- What 'add' leaves. -/
def Added (b : Nat) (S : List (List Int)) (xs : List Int) (w : World) (e : Ending) (w' : World) : Prop :=
  e = .returned (.bool (decide (xs ∈ S))) ∧ Below b w w' ∧ ∃ S', NSet w' b S' ∧ (∀ ys, ys ∈ S' ↔ ys ∈ S ∨ ys = xs) ∧ S'.length ≤ S.length + 1

theorem Added.seen {b : Nat} {S : List (List Int)} {xs : List Int} {w w' : World} {v : Bool} (hv : v = true) (hx : xs ∈ S) (hb : Below b w w') (hN : NSet w' b S) : Added b S xs w (.returned (.bool v)) w' :=
  ⟨by rw [hv, decide_eq_true hx], hb, S, hN, fun ys => ⟨.inl, fun h => h.elim id (fun e => e ▸ hx)⟩, by omega⟩

theorem Added.new {b : Nat} {S : List (List Int)} {xs : List Int} {w w' : World} {v : Bool} (hv : v = false) (hx : xs ∉ S) (hb : Below b w w') (hN : NSet w' b (S ++ [xs])) : Added b S xs w (.returned (.bool v)) w' :=
  ⟨by rw [hv, decide_eq_false hx], hb, S ++ [xs], hN, fun ys => by simp, by simp⟩

theorem Try.arrayLen27 : Try.prog.arrayLen 27 = 16 := by kernel_rfl
theorem Try.elem27 : Try.prog.elem 27 = 26 := by kernel_rfl
theorem slice_few (b n : Nat) (hn : n ≤ 16) (w : World) : (Instr.sliceAt 27 (.pointer (some ⟨b, 0, none⟩)) none (some (.int .i64 n)) none).run Try.prog w = .ok (.slice (some ⟨b, 0, none⟩) n 16) w := by
  have hu : Try.prog.underlying 27 = some (.array (Try.prog.arrayLen 27) (Try.prog.elem 27)) := by rw [Try.arrayLen27, Try.elem27]; exact Try.underlying27
  rw [run_sliceAt_array_h w 27 _ hu .i64 n (by omega) (by rw [Try.arrayLen27]; omega), Try.arrayLen27, Try.elem27]
  have hs : (sizeOf 26).run Try.prog w = .ok 1 w := by kernel_rfl
  rw [hs]
  simp [Result.andThen, slicedAt, Addr.add]

theorem Holds1.conv {B : Nat} {w : World} {v : Value} {ys : List Int} (h : Holds1 B w v ys) : ∃ a m c, v = .slice a m c ∧ ∀ q, (convert 26 9 (.slice a m c)).run Try.prog (w.drewN q) = .ok (.string (strOfNums ys)) (w.drewN q) := by
  obtain ⟨a, c, rfl, hr, _⟩ := h
  exact ⟨a, _, c, rfl, fun q => conv_any (B := B) (w := w.drewN q) (fun hz => hr hz) c⟩

theorem mem_getD {S : List (List Int)} {k : Nat} (hk : k < S.length) : S.getD k [] ∈ S := by
  simp [List.getD, List.getElem?_eq_getElem hk]

theorem not_mem_getD {S : List (List Int)} {xs : List Int} (h : ∀ j, j < S.length → S.getD j [] ≠ xs) : xs ∉ S := by
  intro hm
  obtain ⟨i, hi, e⟩ := List.getElem_of_mem hm
  exact h i hi (by simp [List.getD, List.getElem?_eq_getElem hi, e])

theorem Holds1.below {B : Nat} {w w' : World} {v : Value} {ys : List Int} (h : Holds1 B w v ys) (k : Below B w w') : Holds1 B w' v ys := by
  obtain ⟨a, c, rfl, hr, hb⟩ := h
  exact ⟨a, c, rfl, hr.below k (Nat.le_refl _), hb⟩

theorem few_put {b n q : Nat} {S : List (List Int)} {v : Value} {xs : List Int} {w : World} {f : Nat → Value} (hrow : w.rowIs b 30 18 f) (h17 : f 17 = .map none)
    (hh : ∀ i, i < n → Holds1 b w (f i) (S.getD i [])) (hSn : S.length = n) (hn : n < 16) (hx : Holds1 b w v xs) :
    Below b w (((w.drewN q).setCell ⟨b, n, none⟩ v).setCell ⟨b, 16, none⟩ (.int .i64 ((n : Int) + 1))) ∧ NSet (((w.drewN q).setCell ⟨b, n, none⟩ v).setCell ⟨b, 16, none⟩ (.int .i64 ((n : Int) + 1))) b (S ++ [xs]) := by
  have hb : Below b w (((w.drewN q).setCell ⟨b, n, none⟩ v).setCell ⟨b, 16, none⟩ (.int .i64 ((n : Int) + 1))) :=
    ((below_drewN (Below.refl _ _) _).setCell (p := ⟨b, n, none⟩) (Nat.le_refl b) _).setCell (p := ⟨b, 16, none⟩) (Nat.le_refl b) _
  refine ⟨hb, .inl ⟨_, World.rowIs.set (World.rowIs.set (w := w.drewN q) hrow n v) 16 _, ?_, ?_, ?_, ?_⟩⟩
  · simp [hSn]
  · rw [if_neg (by omega), if_neg (by omega)]; exact h17
  · simp [hSn]; omega
  · intro i hi
    simp [hSn] at hi
    rw [if_neg (by omega)]
    by_cases e : i = n
    · subst e
      rw [if_pos rfl]
      have : (S ++ [xs]).getD i [] = xs := by simp [List.getD, ← hSn]
      rw [this]
      exact hx.below hb
    · rw [if_neg e]
      have : (S ++ [xs]).getD i [] = S.getD i [] := by simp [List.getD, List.getElem?_append_left (show i < S.length by omega)]
      rw [this]
      exact (hh i (by omega)).below hb

set_option maxHeartbeats 400000 in
theorem add_few (b n : Nat) (S : List (List Int)) (a : Option Addr) (len cap : Nat) (xs : List Int) (w : World) (f : Nat → Value) (hrow : w.rowIs b 30 18 f) (h16 : f 16 = .int .i64 n) (h17 : f 17 = .map none)
    (hh : ∀ i, i < n → Holds1 b w (f i) (S.getD i [])) (hSn : Hid (S.length = n)) (hn : n < 16) (hx : Holds1 b w (.slice a len cap) xs) :
    Calls Try.prog 28 #[.pointer (some ⟨b, 0, none⟩), .slice a len cap] w fun e w' => Added b S xs w e w' := by
  have hFew : Hid (Few w b S) := ⟨f, hrow, by rw [h16, hSn.out], h17, by have := hSn.out; omega, fun i hi => hh i (by rw [← hSn.out]; exact hi)⟩
  have c16 := hrow.cell (i := 16) (by omega)
  have c17 := hrow.cell (i := 17) (by omega)
  rw [h16] at c16
  rw [h17] at c17
  have hmn : ∀ (w : World) (r : Option Nat), (binOp .eql 28 (.map r) (.map none)).run Try.prog w = .ok (.bool r.isNone) w := fun w r => run_eql_map_nil w 28 9 4 r Try.underlying28
  have hd : decide ((n : Int) < 16) = true := decide_eq_true (by omega)
  have hsa := slice_few b n (by omega)
  have hBx : Byt xs := hx.choose_spec.choose_spec.2.2
  obtain ⟨a0, m0, c0, e0, hcx⟩ := hx.conv
  cases e0
  go_enter Try.func28, Try.ntmps28
  go_wp2
  go_quiet (fail)
  go_wp2
  go_loop [30] (fun i => ∃ k : Nat, k ≤ n ∧ i = .int .i64 k ∧ ∀ j, j < k → S.getD j [] ≠ xs) (fun i => n - (intOf i).toNat)
  case atStart => exact ⟨0, Nat.zero_le _, rfl, fun j hj => by omega⟩
  case round =>
    obtain ⟨k, hk, rfl, hno⟩ := hrel
    by_cases hlt : k < n
    · have hck := hrow.cell (i := k) (by omega)
      have hBy : Byt (S.getD k []) := (hh k hlt).choose_spec.choose_spec.2.2
      obtain ⟨a1, m1, c1, e1, hcy⟩ := (hh k hlt).conv
      rw [e1] at hck
      by_cases hxy : S.getD k [] = xs
      · have hmem : Hid (xs ∈ S) := by
          have := mem_getD (S := S) (k := k) (by have := hSn.out; omega)
          rw [hxy] at this
          exact this
        have hs : ((strOfNums (S.getD k [])).toList == (strOfNums xs).toList) = true := by rw [hxy]; simp
        clear hno hxy hBy hh e1
        generalize strOfNums (S.getD k []) = s at hcy hs
        generalize strOfNums xs = t at hcx hs
        go_wp2
        go_ret
        exact .seen rfl hmem.out (below_drewN (Below.refl _ _) _) (.inl hFew.out)
      · have hs : ((strOfNums (S.getD k [])).toList == (strOfNums xs).toList) = false := str_ne hBy hBx hxy
        have hno' : Hid (∀ j, j < k + 1 → S.getD j [] ≠ xs) := fun j hj => by
          by_cases e : j = k
          · rw [e]; exact hxy
          · exact hno j (by omega)
        clear hno hxy hBy hh e1
        generalize strOfNums (S.getD k []) = s at hcy hs
        generalize strOfNums xs = t at hcx hs
        go_wp2
        go_round
        case rel => exact ⟨k + 1, by omega, by go_num, hno'.out⟩
        case measure => simp [intOf]; omega
    · have hnot : Hid (xs ∉ S) := not_mem_getD (fun j hj => hno j (by have := hSn.out; omega))
      have fn := hrow.frozen n
      have f16 := hrow.frozen 16
      have cn := hrow.cell (i := n) (by omega)
      have hfin : Hid (∀ q, _) := fun q => few_put (q := q) hrow h17 hh hSn.out hn hx
      clear hno hh
      go_wp2
      go_region
      go_wp2
      go_ret
      exact .new rfl hnot.out (hfin.out _).1 (hfin.out _).2
end Go.Proofs.Qxb6605480a
