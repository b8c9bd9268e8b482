import Derived.Test.Qxb6003608aLaw3
namespace Go.Proofs.Qxb6003608a
open Go.RowKit

theorem zz8_any (a a' : Option Addr) (n cap m cap' : Nat) (K M : Int) (w : World) : Calls Try.prog 8 #[.slice a n cap, .slice a' m cap', .int .i64 K, .int .i64 M] w fun e w' => Asked w e w' := by
  by_cases hn : (1048576 : Int) < (n : Int)
  · go_enter Try.func8, Try.ntmps8
    go_wp2
    go_ret
    exact ⟨false, rfl, rfl⟩
  by_cases hm : (1048576 : Int) < (m : Int)
  · go_enter Try.func8, Try.ntmps8
    go_wp2
    go_ret
    exact ⟨false, rfl, rfl⟩
  by_cases hs : (1048576 : Int) < (n : Int) + (m : Int)
  · go_enter Try.func8, Try.ntmps8
    go_wp2
    go_ret
    exact ⟨false, rfl, rfl⟩
  · go_enter Try.func8, Try.ntmps8
    go_wp2
    go_ret
    exact ⟨true, rfl, rfl⟩

theorem cutF_hi {F : Nat → Int} {t x : Nat} {m1 : Int} (h : t + 1 ≤ x) : cutF F t m1 (x + 1) = F x := by
  unfold cutF; rw [if_neg (by omega), if_neg (by omega), Nat.add_sub_cancel]
theorem cutG_hi {G : Nat → Int} {t x : Nat} {m : Int} (h : t + 1 ≤ x) : cutG G t m (x + 1) = G x := by
  unfold cutG; rw [if_neg (by omega), if_neg (by omega), Nat.add_sub_cancel]

/-- The two stores between the loops. -/
theorem split_start {w : World} {b n t : Nat} {F G : Nat → Int} {m m1 : Int} (h : RunsB w b n (upTo F t) (upTo G t)) :
    RunsB ((((w.setCell ⟨b, t * 2, none⟩ (.int .i64 (F t))).setCell ⟨b, t * 2 + 1, none⟩ (.int .i64 m)).setCell ⟨b, (t + 1) * 2, none⟩ (.int .i64 m1)).setCell ⟨b, (t + 1) * 2 + 1, none⟩ (.int .i64 (G t))) b n
      (upTo (cutF F t m1) (t + 1 + 1)) (upTo (cutG G t m) (t + 1 + 1)) := by
  have e1 : cutF F t m1 t = F t := by simp [cutF]
  have e2 : cutG G t m t = m := by simp [cutG]
  have e3 : cutF F t m1 (t + 1) = m1 := by unfold cutF; rw [if_neg (by omega), if_pos rfl]
  have e4 : cutG G t m (t + 1) = G t := by unfold cutG; rw [if_neg (by omega), if_neg (by omega), Nat.add_sub_cancel]
  have h0 : RunsB w b n (upTo (cutF F t m1) t) (upTo (cutG G t m) t) := h.congr (fun i _ => by
    unfold upTo
    by_cases hi : i < t
    · simp [hi, cutF, cutG, Nat.le_of_lt hi]
    · simp [hi])
  have h1 := h0.step
  rw [e1, e2] at h1
  have h2 := h1.step
  rw [e3, e4] at h2
  exact h2

theorem split_step {w : World} {b n t x : Nat} {F G : Nat → Int} {m m1 : Int} (hx : t + 1 ≤ x) (h : RunsB w b n (upTo (cutF F t m1) (x + 1)) (upTo (cutG G t m) (x + 1))) :
    RunsB ((w.setCell ⟨b, (x + 1) * 2, none⟩ (.int .i64 (F x))).setCell ⟨b, (x + 1) * 2 + 1, none⟩ (.int .i64 (G x))) b n (upTo (cutF F t m1) (x + 1 + 1)) (upTo (cutG G t m) (x + 1 + 1)) := by
  have h1 := h.step
  rw [cutF_hi hx, cutG_hi hx] at h1
  exact h1

theorem split_sum (F G : Nat → Int) {n t : Nat} (h : t < n) (m : Int) : wrap64 (sumTo (cutF F t (wrap64 (m + 1))) (cutG G t m) (n + 1)) = wrap64 (sumTo F G n) := by
  obtain ⟨d, rfl⟩ : ∃ d, n = t + 1 + d := ⟨n - (t + 1), by omega⟩
  have e : t + 1 + d + 1 = t + 2 + d := by omega
  rw [e, sum_split, wrap_off]

set_option maxHeartbeats 1600000 in
theorem law4 (a0 a1 : Option Addr) (n n' c0 c1 : Nat) (K M : Int) (F G : Nat → Int) (w : World) (hF : RowI w.heap.size w a0 n F) (hG : RowI w.heap.size w a1 n' G) :
    Calls Try.prog 4 #[.slice a0 n c0, .slice a1 n' c1, .int .i64 K, .int .i64 M] w fun e w' => e = .returned (.bool true) ∧ Below w.heap.size w w' := by
  go_enter Try.func4, Try.ntmps4
  go_wp2_with fail
  refine (zz8_any a0 a1 n c0 n' c1 K M w).mono ?_
  rintro e w' ⟨v, rfl, hw⟩
  replace hw := hw.symm; subst hw
  cases v
  · go_wp2
    go_ret
    exact ⟨rfl, Below.refl _ _⟩
  by_cases hn1 : (65536 : Int) < (n : Int)
  · go_wp2
    go_ret
    exact ⟨rfl, Below.refl _ _⟩
  have g1 : decide ((65536 : Int) < (n : Int)) = false := decide_eq_false hn1
  by_cases hn2 : (65536 : Int) < (n' : Int)
  · go_wp2
    go_ret
    exact ⟨rfl, Below.refl _ _⟩
  by_cases hnn : n = n'
  · subst hnn
    by_cases hk0 : K < 0
    · go_wp2
      go_ret
      exact ⟨rfl, Below.refl _ _⟩
    have g4 : decide (K < 0) = false := decide_eq_false hk0
    by_cases hk1 : (n : Int) ≤ K
    · go_wp2
      go_ret
      exact ⟨rfl, Below.refl _ _⟩
    have g5 : decide ((n : Int) ≤ K) = false := decide_eq_false hk1
    obtain ⟨k, rfl⟩ := Int.eq_ofNat_of_zero_le (show 0 ≤ K by omega)
    have g5' : decide (n ≤ k) = false := decide_eq_false (by omega)
    have hmk := make_runs n (by omega)
    have hst := runs_made w n F G
    have hkn : k < n := by omega
    go_wp2
    go_loopw [11] (fun i wr => ∃ j : Nat, j ≤ n ∧ i = .int .i64 j ∧ Below w.heap.size w wr ∧ RunsB wr w.heap.size n (upTo F j) (upTo G j)) (fun i _ => n - (intOf i).toNat)
    case atStart => exact ⟨0, Nat.zero_le _, rfl, (Below.refl _ _).alloc (Nat.le_refl _) _, hst⟩
    case round =>
      clear hst hmk
      obtain ⟨j, hj, rfl, hb, hR⟩ := hrel
      by_cases hlt : j < n
      · obtain ⟨b, off, b', off', rfl, rfl, cF, cG⟩ := two_cells hF hG hb hlt
        have hlti : (j : Int) < (n : Int) := by omega
        have r0 := hR.c0 hlt
        have r1 := hR.c1 hlt
        have f0 := World.rowIs.frozen hR (j * 2)
        have f1 := World.rowIs.frozen hR (j * 2 + 1)
        have hfin : Hid (_ ∧ _) := ⟨below_put hb (Nat.le_refl _) j (F j) (G j), hR.step⟩
        generalize F j = fj at cF hfin
        generalize G j = gj at cG hfin
        clear hF hG hb hR
        go_wp2
        go_region
        go_wp2
        go_roundw
        case rel => exact ⟨j + 1, by omega, by go_num, hfin.out.1.drew, hfin.out.2⟩
        case measure => simp [intOf]; omega
      · obtain rfl : j = n := by omega
        have hR1 := hR.full
        have hlt1 := World.rowIs.lt hR
        have hsz := hb.size
        have hmk := make_runs (j + 1) (by omega)
        have ej : ((j + 1 : Nat) : Int) = (j : Int) + 1 := by omega
        rw [ej] at hmk
        have hst : Below w.heap.size w (wr.alloc (.cells (madeCells #[.int .i64 0, .int .i64 0] ((j + 1) * 2)) 27)) ∧ RunsB (wr.alloc (.cells (madeCells #[.int .i64 0, .int .i64 0] ((j + 1) * 2)) 27)) w.heap.size j F G ∧
            RunsB (wr.alloc (.cells (madeCells #[.int .i64 0, .int .i64 0] ((j + 1) * 2)) 27)) wr.heap.size (j + 1) (upTo F 0) (upTo G 0) :=
          ⟨hb.alloc hsz _, World.rowIs.alloc hR1 _, runs_made wr (j + 1) F G⟩
        clear hR hR1 hb ej
        go_wp2
        generalize wr.heap.size = b2 at *
        go_loopw [13] (fun i wq => ∃ t : Nat, t ≤ k ∧ i = .int .i64 t ∧ Below w.heap.size w wq ∧ RunsB wq w.heap.size j F G ∧ RunsB wq b2 (j + 1) (upTo F t) (upTo G t)) (fun i _ => k - (intOf i).toNat)
        case atStart => exact ⟨0, Nat.zero_le _, rfl, hst⟩
        case round =>
          clear hst hmk
          obtain ⟨t, ht, rfl, hb, hR1, hR⟩ := hrel
          by_cases hlt : t < k
          · obtain ⟨b, off, b', off', rfl, rfl, cF, cG⟩ := two_cells hF hG hb (j := t) (by omega)
            have hlti : (t : Int) < (j : Int) := by omega
            have hltk : (t : Int) < (k : Int) := by omega
            have hlt3 : t < j + 1 := by omega
            have r0 := hR.c0 hlt3
            have r1 := hR.c1 hlt3
            have f0 := World.rowIs.frozen hR (t * 2)
            have f1 := World.rowIs.frozen hR (t * 2 + 1)
            have hfin : Hid (_ ∧ _ ∧ _) := ⟨below_put hb hsz t (F t) (G t), hR1.putOther (Nat.ne_of_lt hlt1) t (F t) (G t), hR.step⟩
            generalize F t = ft at cF hfin
            generalize G t = gt at cG hfin
            clear hF hG hb hR hR1
            go_wp2
            go_region
            go_wp2
            go_roundw
            case rel => exact ⟨t + 1, by omega, by go_num, hfin.out.1.drew, hfin.out.2.1, hfin.out.2.2⟩
            case measure => simp [intOf]; omega
          · obtain rfl : t = k := by omega
            obtain ⟨b, off, b', off', ea, eb, cF, cG⟩ := two_cells hF hG hb (j := t) (by omega)
            have hbb : b < w.heap.size ∧ b' < w.heap.size := by
              obtain ⟨x, y, e1, e2, _⟩ := hF (by omega)
              obtain ⟨x', y', e1', e2', _⟩ := hG (by omega)
              rw [ea] at e1; rw [eb] at e1'
              cases e1; cases e1'
              exact ⟨e2, e2'⟩
            have hne : b' ≠ b2 := by omega
            have hlti : (t : Int) < (j : Int) := by omega
            have hlt3 : (t : Int) < (j : Int) + 1 := by omega
            have r0 := hR.c0 (k := t) (by omega)
            have r1 := hR.c1 (k := t) (by omega)
            have q0 := hR.c0 (k := t + 1) (by omega)
            have q1 := hR.c1 (k := t + 1) (by omega)
            have f0 := World.rowIs.frozen hR (t * 2)
            have f1 := World.rowIs.frozen hR (t * 2 + 1)
            have f2 := World.rowIs.frozen hR ((t + 1) * 2)
            have f3 := World.rowIs.frozen hR ((t + 1) * 2 + 1)
            subst ea
            subst eb
            have hst : Hid (_ ∧ _ ∧ _) := ⟨below_put (below_put hb hsz t (F t) M) hsz (t + 1) (wrap64 (M + 1)) (G t), (hR1.putOther (c := b2) (by omega) t (F t) M).putOther (c := b2) (by omega) (t + 1) (wrap64 (M + 1)) (G t), split_start (m := M) (m1 := wrap64 (M + 1)) hR⟩
            have hFG : Hid (_ ∧ _) := ⟨hF, hG⟩
            clear hF hG hb hR1 hR
            generalize hfk : F t = ft at cF hst
            generalize hgk : G t = gt at cG hst
            clear hfk hgk
            go_wp2
            go_loopw [14] (fun i wq => ∃ x : Nat, t + 1 ≤ x ∧ x ≤ j ∧ i = .int .i64 x ∧ Below w.heap.size w wq ∧ RunsB wq w.heap.size j F G ∧ RunsB wq b2 (j + 1) (upTo (cutF F t (wrap64 (M + 1))) (x + 1)) (upTo (cutG G t M) (x + 1))) (fun i _ => j - (intOf i).toNat)
            case atStart => exact ⟨t + 1, Nat.le_refl _, by omega, by go_num, hst.out⟩
            case round =>
              clear hst r0 r1 q0 q1 f0 f1 f2 f3 cF cG hne hbb
              obtain ⟨x, hx1, hx2, rfl, hb, hR1, hR⟩ := hrel
              by_cases hlt : x < j
              · have hltj : (x : Int) < (j : Int) := by omega
                have hltj1 : (x : Int) + 1 < (j : Int) + 1 := by omega
                obtain ⟨b3, off3, b3', off3', e3, e3', cF, cG⟩ := two_cells hFG.out.1 hFG.out.2 hb hlt
                cases e3
                cases e3'
                have hx3 : x + 1 < j + 1 := by omega
                have r0 := hR.c0 hx3
                have r1 := hR.c1 hx3
                have f0 := World.rowIs.frozen hR ((x + 1) * 2)
                have f1 := World.rowIs.frozen hR ((x + 1) * 2 + 1)
                have hfin : Hid (_ ∧ _ ∧ _) := ⟨below_put hb hsz (x + 1) (F x) (G x), hR1.putOther (c := b2) (by omega) (x + 1) (F x) (G x), split_step hx1 hR⟩
                generalize F x = fx at cF hfin
                generalize G x = gx at cG hfin
                clear hb hR hR1 hx3
                go_wp2
                go_region
                go_wp2
                go_roundw
                case rel => exact ⟨x + 1, by omega, by omega, by go_num, hfin.out.1.drew, hfin.out.2.1, hfin.out.2.2⟩
                case measure => simp [intOf]; omega
              · obtain rfl : x = j := by omega
                have hR2 := hR.full
                have hFr := hFG.out.1.below hb
                have hGr := hFG.out.2.below hb
                clear hR
                go_wp2_with fail
                refine (span_any w.heap.size _ _ x c0 c1 F G _ hFr hGr (by omega)).mono ?_
                rintro e w5 ⟨rfl, q, hw5⟩
                have hb5 : Below w.heap.size w w5 := by rw [hw5]; exact below_drewN hb q
                have hR15 : RunsB w5 w.heap.size x F G := by rw [hw5]; exact hR1
                have hR25 : RunsB w5 b2 (x + 1) (cutF F t (wrap64 (M + 1))) (cutG G t M) := by rw [hw5]; exact hR2
                clear hFr hGr hb hR1 hR2 hw5
                go_wp2_with fail
                refine (len_any w.heap.size x x F G _ hR15 (by omega)).mono ?_
                rintro e w6 ⟨rfl, hb6⟩
                have hR26 := hR25.of_block (hb6.block b2 (World.rowIs.lt hR25))
                replace hb6 := hb5.trans (hb6.mono hb5.size)
                clear hb5 hR15 hR25
                go_wp2_with fail
                refine (len_any b2 (x + 1) (x + 1) _ _ _ hR26 (by omega)).mono ?_
                rintro e w7 ⟨rfl, hb7⟩
                have hfin : Hid (Below w.heap.size w w7) := hb6.trans (hb7.mono hb6.size)
                rw [split_sum F G (by omega) M]
                clear hb6 hb7 hR26
                generalize wrap64 (sumTo F G x) = C
                go_wp2
                go_ret
                exact ⟨rfl, hfin.out⟩
  · have g6 : ((n : Int) != (n' : Int)) = true := by simp; omega
    have g7 : decide ((65536 : Int) < (n' : Int)) = false := decide_eq_false hn2
    go_wp2
    go_ret
    exact ⟨rfl, Below.refl _ _⟩
end Go.Proofs.Qxb6003608a
