import Derived.Test.Qxb6003608aSpan
namespace Go.Proofs.Qxb6003608a
open Go.RowKit

theorem Try.info27 : (Try.prog.info? 27).map (fun i => (i.zero, i.size, i.bytes)) = some (some (.agg #[.int .i64 0, .int .i64 0]), 2, 16) := by kernel_rfl

/-- 'make(output.Runs, n)' -/
theorem make_runs (n : Nat) (hn : n ≤ 65537) (w : World) : (Instr.makeSlice 25 (.int .i64 n) (.int .i64 n)).run Try.prog w = .ok (.slice (some ⟨w.heap.size, 0, none⟩) n n) (w.alloc (.cells (madeCells #[.int .i64 0, .int .i64 0] (n * 2)) 27)) := by
  obtain ⟨i, hi, hzz⟩ := Option.map_eq_some_iff.1 Try.info27
  simp only [Prod.mk.injEq] at hzz
  obtain ⟨hz, hs, hb⟩ := hzz
  have hr := run_make (P := Try.prog) w 25 27 i _ Try.underlying25 hi hz .i64 .i64 n n (by omega) (Int.le_refl _) (by rw [hb]; omega) (by omega)
  simp only [Int.toNat_natCast, hs] at hr
  exact hr

/-- The first k of F, nought behind. -/
def upTo (F : Nat → Int) (k i : Nat) : Int := if i < k then F i else 0

theorem runs_made (w : World) (n : Nat) (F G : Nat → Int) : RunsB (w.alloc (.cells (madeCells #[.int .i64 0, .int .i64 0] (n * 2)) 27)) w.heap.size n (upTo F 0) (upTo G 0) := by
  refine ⟨_, Deep.blk_alloc_new _ _, size_madeCells _ _, fun i hi => ?_⟩
  have e : ∀ j : Nat, j % 2 < 2 := fun j => Nat.mod_lt _ (by omega)
  have hz : runCell (upTo F 0) (upTo G 0) i = .int .i64 0 := by unfold runCell upTo; split <;> simp
  rw [hz]
  rcases Nat.mod_two_eq_zero_or_one i with h | h <;> simp [madeCells, hi, h]

theorem RunsB.put {w : World} {b n : Nat} {F G : Nat → Int} (h : RunsB w b n F G) (k : Nat) (x y : Int) :
    RunsB ((w.setCell ⟨b, k * 2, none⟩ (.int .i64 x)).setCell ⟨b, k * 2 + 1, none⟩ (.int .i64 y)) b n (fun i => if i = k then x else F i) (fun i => if i = k then y else G i) := by
  refine World.rowIs.congr (World.rowIs.set (World.rowIs.set h (k * 2) (.int .i64 x)) (k * 2 + 1) (.int .i64 y)) (fun j _ => ?_)
  unfold runCell
  by_cases e1 : j = k * 2 + 1
  · subst e1
    rw [if_pos rfl, if_neg (by omega), show (k * 2 + 1) / 2 = k by omega]
    simp
  · rw [if_neg e1]
    by_cases e2 : j = k * 2
    · subst e2
      rw [if_pos rfl, if_pos (by omega), show k * 2 / 2 = k by omega]
      simp
    · rw [if_neg e2]
      by_cases e3 : j % 2 = 0
      · rw [if_pos e3, if_pos e3]
        simp [show ¬ j / 2 = k by omega]
      · rw [if_neg e3, if_neg e3]
        simp [show ¬ j / 2 = k by omega]

theorem RunsB.of_block {w w' : World} {b n : Nat} {F G : Nat → Int} (h : RunsB w b n F G) (e : w'.heap[b]? = w.heap[b]?) : RunsB w' b n F G := World.rowIs.of_block h e

theorem RunsB.putOther {w : World} {b n : Nat} {F G : Nat → Int} (h : RunsB w b n F G) {c : Nat} (hc : b ≠ c) (k : Nat) (x y : Int) :
    RunsB ((w.setCell ⟨c, k * 2, none⟩ (.int .i64 x)).setCell ⟨c, k * 2 + 1, none⟩ (.int .i64 y)) b n F G :=
  World.rowIs.setOther (World.rowIs.setOther h hc _) hc _

theorem below_put {B b : Nat} {w wr : World} (h : Below B w wr) (hb : B ≤ b) (k : Nat) (x y : Int) : Below B w ((wr.setCell ⟨b, k * 2, none⟩ (.int .i64 x)).setCell ⟨b, k * 2 + 1, none⟩ (.int .i64 y)) :=
  (h.setCell (p := ⟨b, k * 2, none⟩) hb _).setCell (p := ⟨b, k * 2 + 1, none⟩) hb _

theorem RunsB.congr {w : World} {b n : Nat} {F G F' G' : Nat → Int} (h : RunsB w b n F G) (e : ∀ i, i < n → F i = F' i ∧ G i = G' i) : RunsB w b n F' G' := by
  refine World.rowIs.congr h (fun j hj => ?_)
  have := e (j / 2) (by omega)
  unfold runCell
  rw [this.1, this.2]

theorem RunsB.step {w : World} {b n : Nat} {F G : Nat → Int} {k : Nat} (h : RunsB w b n (upTo F k) (upTo G k)) :
    RunsB ((w.setCell ⟨b, k * 2, none⟩ (.int .i64 (F k))).setCell ⟨b, k * 2 + 1, none⟩ (.int .i64 (G k))) b n (upTo F (k + 1)) (upTo G (k + 1)) := by
  refine (h.put k (F k) (G k)).congr (fun i _ => ?_)
  unfold upTo
  by_cases e : i = k
  · subst e; simp
  · by_cases e2 : i < k
    · simp [e, e2, show i < k + 1 by omega]
    · simp [e, e2, show ¬ i < k + 1 by omega]

theorem RunsB.full {w : World} {b n : Nat} {F G : Nat → Int} (h : RunsB w b n (upTo F n) (upTo G n)) : RunsB w b n F G :=
  h.congr (fun i hi => by simp [upTo, hi])

/-- What 'zzBytes_..' leaves. -/
def Asked (w : World) (e : Ending) (w' : World) : Prop := ∃ v, e = .returned (.bool v) ∧ w' = w

theorem zz5_any (a a' : Option Addr) (n cap m cap' : Nat) (K : Int) (w : World) : Calls Try.prog 5 #[.slice a n cap, .slice a' m cap', .int .i64 K] w fun e w' => Asked w e w' := by
  by_cases hn : (1048576 : Int) < (n : Int)
  · go_enter Try.func5, Try.ntmps5
    go_wp2
    go_ret
    exact ⟨false, rfl, rfl⟩
  by_cases hm : (1048576 : Int) < (m : Int)
  · go_enter Try.func5, Try.ntmps5
    go_wp2
    go_ret
    exact ⟨false, rfl, rfl⟩
  by_cases hs : (1048576 : Int) < (n : Int) + (m : Int)
  · go_enter Try.func5, Try.ntmps5
    go_wp2
    go_ret
    exact ⟨false, rfl, rfl⟩
  · go_enter Try.func5, Try.ntmps5
    go_wp2
    go_ret
    exact ⟨true, rfl, rfl⟩

/-- Two numbers of the argument's rows, in a later world. -/
theorem two_cells {w wr : World} {a0 a1 : Option Addr} {n : Nat} {F G : Nat → Int} (hF : RowI w.heap.size w a0 n F) (hG : RowI w.heap.size w a1 n G) (hb : Below w.heap.size w wr) {j : Nat} (hj : j < n) :
    ∃ b off b' off', a0 = some ⟨b, off, none⟩ ∧ a1 = some ⟨b', off', none⟩ ∧ wr.cell? ⟨b, off + j, none⟩ = some (.int .i64 (F j)) ∧ wr.cell? ⟨b', off' + j, none⟩ = some (.int .i64 (G j)) := by
  obtain ⟨b, off, rfl, hbb, hc⟩ := hF (by omega)
  obtain ⟨b', off', rfl, hbb', hc'⟩ := hG (by omega)
  exact ⟨b, off, b', off', rfl, rfl, (hb.cell (p := ⟨b, off + j, none⟩) hbb).trans (hc j hj), (hb.cell (p := ⟨b', off' + j, none⟩) hbb').trans (hc' j hj)⟩

set_option maxHeartbeats 1600000 in
theorem law3 (a0 a1 : Option Addr) (n n' c0 c1 : Nat) (K : Int) (F G : Nat → Int) (w : World) (hF : RowI w.heap.size w a0 n F) (hG : RowI w.heap.size w a1 n' G) :
    Calls Try.prog 3 #[.slice a0 n c0, .slice a1 n' c1, .int .i64 K] w fun e w' => e = .returned (.bool true) ∧ Below w.heap.size w w' := by
  go_enter Try.func3, Try.ntmps3
  go_wp2_with fail
  refine (zz5_any a0 a1 n c0 n' c1 K w).mono ?_
  rintro e w' ⟨v, rfl, hw⟩
  replace hw := hw.symm; subst hw
  cases v
  · go_wp2
    go_ret
    exact ⟨rfl, Below.refl _ _⟩
  by_cases hn1 : (65536 : Int) < (n : Int)
  · go_wp2
    go_ret
    exact ⟨rfl, Below.refl _ _⟩
  by_cases hn2 : (65536 : Int) < (n' : Int)
  · have hn1' : decide ((65536 : Int) < (n : Int)) = false := decide_eq_false hn1
    go_wp2
    go_ret
    exact ⟨rfl, Below.refl _ _⟩
  have g1 : decide ((65536 : Int) < (n : Int)) = false := decide_eq_false hn1
  by_cases hnn : n = n'
  · subst hnn
    by_cases hk0 : K < 0
    · go_wp2
      go_ret
      exact ⟨rfl, Below.refl _ _⟩
    have g4 : decide (K < 0) = false := decide_eq_false hk0
    by_cases hk1 : (n : Int) < K
    · go_wp2
      go_ret
      exact ⟨rfl, Below.refl _ _⟩
    have g5 : decide ((n : Int) < K) = false := decide_eq_false hk1
    obtain ⟨k, rfl⟩ := Int.eq_ofNat_of_zero_le (show 0 ≤ K by omega)
    have g5' : decide (n < k) = false := decide_eq_false (by omega)
    have hmk := make_runs n (by omega)
    have hst := runs_made w n F G
    have hkn : k ≤ n := by omega
    go_wp2
    go_loopw [9] (fun i wr => ∃ j : Nat, j ≤ n ∧ i = .int .i64 j ∧ Below w.heap.size w wr ∧ RunsB wr w.heap.size n (upTo F j) (upTo G j)) (fun i _ => n - (intOf i).toNat)
    case atStart => exact ⟨0, Nat.zero_le _, rfl, (Below.refl _ _).alloc (Nat.le_refl _) _, hst⟩
    case round =>
      clear hst hmk
      obtain ⟨j, hj, rfl, hb, hR⟩ := hrel
      by_cases hlt : j < n
      · obtain ⟨b, off, b', off', rfl, rfl, cF, cG⟩ := two_cells hF hG hb hlt
        have hlti : (j : Int) < (n : Int) := by omega
        have r0 := hR.c0 hlt
        have r1 := hR.c1 hlt
        have f0 := World.rowIs.frozen hR (j * 2)
        have f1 := World.rowIs.frozen hR (j * 2 + 1)
        have hfin : Hid (_ ∧ _) := ⟨below_put hb (Nat.le_refl _) j (F j) (G j), hR.step⟩
        generalize F j = fj at cF hfin
        generalize G j = gj at cG hfin
        clear hF hG hb hR
        go_wp2
        go_region
        go_wp2
        go_roundw
        case rel => exact ⟨j + 1, by omega, by go_num, hfin.out.1.drew, hfin.out.2⟩
        case measure => simp [intOf]; omega
      · obtain rfl : j = n := by omega
        have hR1 := hR.full
        have hlt1 := World.rowIs.lt hR
        have hsz := hb.size
        have hmk := make_runs k (by omega)
        have hst : Below w.heap.size w (wr.alloc (.cells (madeCells #[.int .i64 0, .int .i64 0] (k * 2)) 27)) ∧ RunsB (wr.alloc (.cells (madeCells #[.int .i64 0, .int .i64 0] (k * 2)) 27)) w.heap.size j F G ∧
            RunsB (wr.alloc (.cells (madeCells #[.int .i64 0, .int .i64 0] (k * 2)) 27)) wr.heap.size k (upTo F 0) (upTo G 0) :=
          ⟨hb.alloc hsz _, World.rowIs.alloc hR1 _, runs_made wr k F G⟩
        clear hR hR1 hb
        go_wp2
        generalize wr.heap.size = b2 at *
        go_loopw [11] (fun i wq => ∃ t : Nat, t ≤ k ∧ i = .int .i64 t ∧ Below w.heap.size w wq ∧ RunsB wq w.heap.size j F G ∧ RunsB wq b2 k (upTo F t) (upTo G t)) (fun i _ => k - (intOf i).toNat)
        case atStart => exact ⟨0, Nat.zero_le _, rfl, hst⟩
        case round =>
          clear hst hmk
          obtain ⟨t, ht, rfl, hb, hR1, hR⟩ := hrel
          by_cases hlt : t < k
          · obtain ⟨b, off, b', off', rfl, rfl, cF, cG⟩ := two_cells hF hG hb (j := t) (by omega)
            have hlti : (t : Int) < (j : Int) := by omega
            have hltk : (t : Int) < (k : Int) := by omega
            have r0 := hR.c0 hlt
            have r1 := hR.c1 hlt
            have f0 := World.rowIs.frozen hR (t * 2)
            have f1 := World.rowIs.frozen hR (t * 2 + 1)
            have hfin : Hid (_ ∧ _ ∧ _) := ⟨below_put hb hsz t (F t) (G t), hR1.putOther (Nat.ne_of_lt hlt1) t (F t) (G t), hR.step⟩
            generalize F t = ft at cF hfin
            generalize G t = gt at cG hfin
            clear hF hG hb hR hR1
            go_wp2
            go_region
            go_wp2
            go_roundw
            case rel => exact ⟨t + 1, by omega, by go_num, hfin.out.1.drew, hfin.out.2.1, hfin.out.2.2⟩
            case measure => simp [intOf]; omega
          · obtain rfl : t = k := by omega
            obtain ⟨d, hd⟩ : ∃ d, j = t + d := ⟨j - t, by omega⟩
            have hdH : Hid (j = t + d) := hd
            have hmk := make_runs d (by omega)
            have ed : (d : Int) = (j : Int) - (t : Int) := by omega
            rw [ed] at hmk
            have hR2 := hR.full
            have hlt2 := World.rowIs.lt hR
            have hsz2 := hb.size
            have hst : Below w.heap.size w (wr.alloc (.cells (madeCells #[.int .i64 0, .int .i64 0] (d * 2)) 27)) ∧ RunsB (wr.alloc (.cells (madeCells #[.int .i64 0, .int .i64 0] (d * 2)) 27)) w.heap.size j F G ∧
                RunsB (wr.alloc (.cells (madeCells #[.int .i64 0, .int .i64 0] (d * 2)) 27)) b2 t F G ∧ RunsB (wr.alloc (.cells (madeCells #[.int .i64 0, .int .i64 0] (d * 2)) 27)) wr.heap.size d (upTo (fun i => F (t + i)) 0) (upTo (fun i => G (t + i)) 0) :=
              ⟨hb.alloc hsz2 _, World.rowIs.alloc hR1 _, World.rowIs.alloc hR2 _, runs_made wr d _ _⟩
            clear hd ed hR hR1 hR2 hb
            go_wp2
            generalize wr.heap.size = b3 at *
            go_loopw [13] (fun i wq => ∃ x : Nat, x ≤ d ∧ i = .int .i64 ((t : Int) + (x : Int)) ∧ Below w.heap.size w wq ∧ RunsB wq w.heap.size j F G ∧ RunsB wq b2 t F G ∧ RunsB wq b3 d (upTo (fun i => F (t + i)) x) (upTo (fun i => G (t + i)) x)) (fun i _ => j - (intOf i).toNat)
            case atStart => exact ⟨0, Nat.zero_le _, by simp, hst⟩
            case round =>
              clear hst hmk
              obtain ⟨x, hx, rfl, hb, hR1, hR2, hR⟩ := hrel
              by_cases hlt : x < d
              · have hltj : (t : Int) + (x : Int) < (j : Int) := by have := hdH.out; omega
                have hxd : (x : Int) < (d : Int) := by omega
                obtain ⟨b, off, b', off', rfl, rfl, cF, cG⟩ := two_cells hF hG hb (j := t + x) (by omega)
                have r0 := hR.c0 hlt
                have r1 := hR.c1 hlt
                have f0 := World.rowIs.frozen hR (x * 2)
                have f1 := World.rowIs.frozen hR (x * 2 + 1)
                have hfin : Hid (_ ∧ _ ∧ _ ∧ _) := ⟨below_put hb hsz2 x (F (t + x)) (G (t + x)), hR1.putOther (c := b3) (by omega) x (F (t + x)) (G (t + x)), hR2.putOther (c := b3) (by omega) x (F (t + x)) (G (t + x)), hR.step⟩
                generalize F (t + x) = ft at cF hfin
                generalize G (t + x) = gt at cG hfin
                clear hF hG hb hR hR1 hR2
                go_wp2
                go_region
                go_wp2
                go_roundw
                case rel => exact ⟨x + 1, by omega, by go_num, hfin.out.1.drew, hfin.out.2.1, hfin.out.2.2.1, hfin.out.2.2.2⟩
                case measure => simp [intOf]; omega
              · obtain rfl : x = d := by omega
                have hR3 := hR.full
                have hltj : decide ((t : Int) + (x : Int) < (j : Int)) = false := decide_eq_false (by have := hdH.out; omega)
                have hFr := hF.below hb
                have hGr := hG.below hb
                clear hR hF hG
                go_wp2_with fail
                refine (span_any w.heap.size a0 a1 j c0 c1 F G wr hFr hGr (by omega)).mono ?_
                rintro e w5 ⟨rfl, q, rfl⟩
                have hb5 := below_drewN hb q
                have hR15 : RunsB (wr.drewN q) w.heap.size j F G := hR1
                have hR25 : RunsB (wr.drewN q) b2 t F G := hR2
                have hR35 : RunsB (wr.drewN q) b3 x (fun i => F (t + i)) (fun i => G (t + i)) := hR3
                clear hFr hGr hb hR1 hR2 hR3
                go_wp2_with fail
                refine (len_any w.heap.size j j F G _ hR15 (by omega)).mono ?_
                rintro e w6 ⟨rfl, hb6⟩
                have hR26 := hR25.of_block (hb6.block b2 (World.rowIs.lt hR25))
                have hR36 := hR35.of_block (hb6.block b3 (World.rowIs.lt hR35))
                replace hb6 := hb5.trans (hb6.mono hb5.size)
                clear hb5 hR15 hR25 hR35
                go_wp2_with fail
                refine (len_any b2 t t F G _ hR26 (by omega)).mono ?_
                rintro e w7 ⟨rfl, hb7⟩
                have hR37 := hR36.of_block (hb7.block b3 (World.rowIs.lt hR36))
                replace hb7 := hb6.trans (hb7.mono hb6.size)
                clear hb6 hR26 hR36
                go_wp2_with fail
                refine (len_any b3 x x _ _ _ hR37 (by have := hdH.out; omega)).mono ?_
                rintro e w8 ⟨rfl, hb8⟩
                have hfin : Hid (Below w.heap.size w w8) := hb7.trans (hb8.mono hb7.size)
                have heq : wrap64 (wrap64 (sumTo F G t) + wrap64 (sumTo (fun i => F (t + i)) (fun i => G (t + i)) x)) = wrap64 (sumTo F G j) := by
                  rw [wrap_add, hdH.out, sum_cut]
                clear hb7 hb8 hR37
                generalize wrap64 (sumTo F G t) = A at heq ⊢
                generalize wrap64 (sumTo (fun i => F (t + i)) (fun i => G (t + i)) x) = B at heq ⊢
                generalize wrap64 (sumTo F G j) = C at heq ⊢
                have heq' : (C == wrap64 (A + B)) = true := by rw [heq]; simp
                clear heq
                go_wp2
                go_ret
                exact ⟨rfl, hfin.out⟩
  · have g6 : ((n : Int) != (n' : Int)) = true := by simp; omega
    have g7 : decide ((65536 : Int) < (n' : Int)) = false := decide_eq_false hn2
    go_wp2
    go_ret
    exact ⟨rfl, Below.refl _ _⟩
end Go.Proofs.Qxb6003608a
