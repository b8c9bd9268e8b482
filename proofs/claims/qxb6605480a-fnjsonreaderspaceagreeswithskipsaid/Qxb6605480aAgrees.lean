import Derived.Test.Qxb6605480aTwo
namespace Go.Proofs.Qxb6605480a
open Go.RowKit

theorem run_spAt {zs : List Int} {p q : Nat} (h : Run zs p q) : spAt zs q = false := by
  rcases h with ⟨h1, rfl⟩ | ⟨h1, h2, h3, h4⟩
  · simp [spAt, show ¬ q < zs.length by omega]
  · by_cases hq : q < zs.length
    · unfold spAt; rw [h4 hq]; simp
    · simp [spAt, hq]

/-- At the head of a round of the law's own loop. -/
def OwnRun (zs : List Int) (p q : Nat) : Prop := p ≤ q ∧ (q ≤ zs.length ∨ q = p) ∧ ∀ k, p ≤ k → k < q → isSp (zs.getD k 0) = true

theorem OwnRun.step {zs : List Int} {p q : Nat} (h : OwnRun zs p q) (hs : spAt zs q = true) : OwnRun zs p (q + 1) ∧ q < zs.length := by
  unfold spAt at hs
  rw [Bool.and_eq_true, decide_eq_true_eq] at hs
  obtain ⟨h1, h2, h3⟩ := h
  refine ⟨⟨by omega, by omega, fun k hk hk' => ?_⟩, hs.1⟩
  by_cases e : k = q
  · rw [e]; exact hs.2
  · exact h3 k hk (by omega)

theorem OwnRun.done {zs : List Int} {p q : Nat} (h : OwnRun zs p q) (hs : spAt zs q = false) : Run zs p q := by
  obtain ⟨h1, h2, h3⟩ := h
  rcases Nat.lt_or_ge zs.length q with e | e
  · have : q = p := by omega
    subst this
    exact .inl ⟨by omega, rfl⟩
  · refine .inr ⟨h1, e, h3, fun hq => ?_⟩
    unfold spAt at hs
    rw [decide_eq_true hq] at hs
    simpa using hs

set_option maxRecDepth 100000 in
set_option maxHeartbeats 1600000 in
theorem law6 (a0 : Option Addr) (n c0 : Nat) (zs : List Int) (pos d : Int) (w : World) (hZ : RowB w.heap.size w a0 zs) (hl : Hid (zs.length = n)) (h0 : a0 = none → zs = []) :
    Calls Try.prog 6 #[.slice a0 n c0, .int .i64 pos, .int .i64 d] w fun e w' => e = .returned (.bool true) ∧ Below w.heap.size w w' := by
  go_enter Try.func6, Try.ntmps6
  go_wp2_with fail
  refine (zz23_any a0 n c0 pos d w).mono ?_
  rintro e w' ⟨v, rfl, hw, hv⟩
  replace hw := hw.symm; subst hw
  cases v
  · go_wp2
    go_ret
    exact ⟨rfl, Below.refl _ _⟩
  have hn := hv rfl
  have hn2 : decide ((1048576 : Int) < (n : Int)) = false := decide_eq_false (by omega)
  clear hv
  by_cases hp : pos < 0
  · go_wp2_with fail
    go_ret
    exact ⟨rfl, Below.refl _ _⟩
  have hp2 : decide (pos < 0) = false := decide_eq_false hp
  go_wp2_with fail
  refine (clone_any a0 n c0 zs w hZ hl.out hn h0).mono ?_
  rintro e w1 ⟨a1, rfl, hZ1, hb1, hn1⟩
  rw [hl.out]
  have hbel : Hid (Below w.heap.size w w1) := hb1
  obtain ⟨p, rfl⟩ := Int.eq_ofNat_of_zero_le (show 0 ≤ pos by omega)
  clear hZ hb1 h0 hn1 hp
  go_wp2_with fail
  refine (new_any a1 n n p d w1).mono ?_
  rintro e w2 ⟨rfl, hR2, hb2, hs2⟩
  go_wp2_with fail
  refine (zzspace_any w1.heap.size w1.heap.size a1 n n p d zs w2 hR2 (hZ1.below hb2 (Nat.le_refl _)) (Nat.le_refl _) hl hn).mono ?_
  rintro e w3 ⟨rfl, ho3, pa, hrun, hR3⟩
  have hb3 := hb2.trans (ho3.below (Nat.le_refl _))
  have hs3 : w1.heap.size < w3.heap.size := by rw [ho3.size]; exact hs2
  have hrunH : Hid (Run zs p pa) := hrun
  clear hrun hR2 hb2 ho3
  go_wp2_with fail
  refine (pos_any w1.heap.size a1 n n pa d w3 hR3).mono ?_
  rintro e w' ⟨rfl, hw⟩
  replace hw := hw.symm; subst hw
  go_wp2_with fail
  refine (new_any a1 n n p d w3).mono ?_
  rintro e w4 ⟨rfl, hR4, hb4, hs4⟩
  have hb4' := hb4.mono (Nat.le_of_lt hs3)
  have hT : Two w1.heap.size w3.heap.size a1 n n pa p d zs w1 w4 := ⟨hs3, hb3.trans hb4', hZ1.below (hb3.trans hb4') (Nat.le_refl _), hR3.of_block (hb4.block _ hs3), hR4⟩
  generalize hba : w1.heap.size = ba at *
  generalize hbb : w3.heap.size = bb at *
  have hbaH : Hid (w1.heap.size = ba) := hba
  clear hba hbb hb4' hb4 hb3 hR3 hR4 hs4 hs2 hs3 hZ1
  go_wp2
  go_loopw [10] (fun i wr => ∃ k : Nat, k ≤ n ∧ i = .int .i64 k ∧ OwnRun zs p (p + k) ∧ Two ba bb a1 n n pa (p + k) d zs w1 wr) (fun i _ => n - (intOf i).toNat)
  case atStart => exact ⟨0, Nat.zero_le _, rfl, ⟨Nat.le_refl _, .inr rfl, fun k hk hk' => by omega⟩, hT⟩
  case round =>
    clear hT
    obtain ⟨k, hk, rfl, hown, hT⟩ := hrel
    have hki : (k : Int) ≤ (n : Int) := by omega
    go_wp2_with fail
    refine (two_oneB hT hl hn).mono ?_
    rintro e w5 ⟨rfl, hT5⟩
    clear hT
    by_cases hs : spAt zs (p + k) = true
    · have hst := hown.step hs
      have hkn : k < n := by have := hl.out; have := hst.2; omega
      rw [hs] at hT5 ⊢
      simp only [if_true] at hT5
      have hfin : Hid (OwnRun zs p (p + (k + 1)) ∧ Two ba bb a1 n n pa (p + (k + 1)) d zs w1 w5) := ⟨hst.1, hT5⟩
      clear hT5 hst hs hown
      go_wp2
      go_roundw
      case rel => exact ⟨k + 1, by omega, by go_num, hfin.out.1, hfin.out.2⟩
      case measure => simp [intOf]; omega
    · replace hs : spAt zs (p + k) = false := by simpa using hs
      obtain rfl : pa = p + k := hrunH.out.unique (hown.done hs)
      rw [hs] at hT5 ⊢
      simp only [Bool.false_eq_true, if_false] at hT5
      have hrunS := run_spAt hrunH.out
      generalize hpa : p + k = pa at *
      clear hs hown hpa
      go_wp2_with fail
      refine (pos_any bb a1 n n pa d w5 hT5.rb).mono ?_
      rintro e w' ⟨rfl, hw⟩
      replace hw := hw.symm; subst hw
      go_wp2_with fail
      refine (two_oneA hT5 hl hn).mono ?_
      rintro e w6 ⟨rfl, hT6⟩
      rw [hrunS] at hT6 ⊢
      simp only [Bool.false_eq_true, if_false] at hT6
      clear hT5 hrunS
      go_wp2_with fail
      refine (pos_any ba a1 n n pa d w6 hT6.ra).mono ?_
      rintro e w' ⟨rfl, hw⟩
      replace hw := hw.symm; subst hw
      by_cases hin : pa < n
      · have hin' : decide ((pa : Int) < (n : Int)) = true := decide_eq_true (by omega)
        have hini : (pa : Int) < (n : Int) := by omega
        obtain ⟨b', off, ea, _, hc⟩ := hT6.row.at (k := pa) (by have := hl.out; omega)
        have hcp := hc pa (by have := hl.out; omega)
        have hh : Hid (∀ c, hit zs pa c = (zs.getD pa 0 == c)) := fun c => by
          have : pa < zs.length := by have := hl.out; omega
          unfold hit
          rw [decide_eq_true this, Bool.true_and]
        generalize zs.getD pa 0 = z at hcp hh
        have haH : Hid (a1 = some ⟨b', off, none⟩) := ea
        rw [ea] at hT6 ⊢
        clear hc ea
        go_wp2
        go_loopw [12] (fun i wr => ∃ j : Nat, j ≤ 256 ∧ i = .int .i64 j ∧ Two ba bb (some ⟨b', off, none⟩) n n pa pa d zs w1 wr) (fun i _ => 256 - (intOf i).toNat)
        case atStart => exact ⟨0, by omega, rfl, hT6⟩
        case round =>
          clear hT6 hcp
          obtain ⟨j, hj, rfl, hT⟩ := hrel
          by_cases hlt : j < 256
          · by_cases hz : z = (j : Int)
            · have hb : (((j : Int)) == z) = true := by simp [hz]
              have hTH : Hid (Two ba bb (some ⟨b', off, none⟩) n n pa pa d zs w1 _) := hT
              clear hT hz
              go_wp2
              go_roundw
              case rel => exact ⟨j + 1, by omega, by go_num, hTH.out⟩
              case measure => simp [intOf]; omega
            · have hb : (((j : Int)) == z) = false := by simp; omega
              go_wp2_with fail
              refine (two_skip hT hl hn (j : Int)).mono ?_
              rintro e w7 ⟨rfl, hT7⟩
              have hm : hit zs pa (j : Int) = false := by rw [hh.out, beq_eq_false_iff_ne]; exact hz
              rw [hm] at hT7 ⊢
              simp only [Bool.false_eq_true, if_false] at hT7
              clear hm hz hT
              go_wp2_with fail
              refine (pos_any ba _ n n pa d w7 hT7.ra).mono ?_
              rintro e w' ⟨rfl, hw⟩
              replace hw := hw.symm; subst hw
              have hTH : Hid (Two ba bb (some ⟨b', off, none⟩) n n pa pa d zs w1 w7) := hT7
              clear hT7
              go_wp2
              go_roundw
              case rel => exact ⟨j + 1, by omega, by go_num, hTH.out⟩
              case measure => simp [intOf]; omega
          · go_wp2_with fail
            refine (two_skip hT hl hn z).mono ?_
            rintro e w7 ⟨rfl, hT7⟩
            have hm : hit zs pa z = true := by rw [hh.out]; simp
            rw [hm] at hT7 ⊢
            simp only [if_true] at hT7
            clear hm hT
            go_wp2_with fail
            refine (pos_any ba _ n n (pa + 1) d w7 hT7.ra).mono ?_
            rintro e w' ⟨rfl, hw⟩
            replace hw := hw.symm; subst hw
            have hpa1 : ((pa + 1 : Nat) : Int) = (pa : Int) + 1 := by omega
            rw [hpa1]
            go_wp2_with fail
            refine (depth_any ba _ n n (pa + 1) d w7 hT7.ra).mono ?_
            rintro e w' ⟨rfl, hw⟩
            replace hw := hw.symm; subst hw
            go_wp2_with fail
            refine (depth_any bb _ n n pa d w7 hT7.rb).mono ?_
            rintro e w' ⟨rfl, hw⟩
            replace hw := hw.symm; subst hw
            have hfin : Hid (Below w.heap.size w w7) := hbel.out.trans (hT7.bel.mono (by rw [← hbaH.out]; exact hbel.out.size))
            clear hT7
            go_wp2
            go_ret
            exact ⟨rfl, hfin.out⟩
      · have hin' : decide ((pa : Int) < (n : Int)) = false := decide_eq_false (by omega)
        have hh : Hid (∀ c, hit zs pa c = false) := fun c => by
          have : ¬ pa < zs.length := by have := hl.out; omega
          unfold hit
          rw [decide_eq_false this, Bool.false_and]
        go_wp2
        go_loopw [13] (fun i wr => ∃ j : Nat, j ≤ 256 ∧ i = .int .i64 j ∧ Two ba bb a1 n n pa pa d zs w1 wr) (fun i _ => 256 - (intOf i).toNat)
        case atStart => exact ⟨0, by omega, rfl, hT6⟩
        case round =>
          clear hT6
          obtain ⟨j, hj, rfl, hT⟩ := hrel
          by_cases hlt : j < 256
          · go_wp2_with fail
            refine (two_skip hT hl hn (j : Int)).mono ?_
            rintro e w7 ⟨rfl, hT7⟩
            rw [hh.out] at hT7 ⊢
            simp only [Bool.false_eq_true, if_false] at hT7
            clear hT
            go_wp2_with fail
            refine (pos_any ba _ n n pa d w7 hT7.ra).mono ?_
            rintro e w' ⟨rfl, hw⟩
            replace hw := hw.symm; subst hw
            have hTH : Hid (Two ba bb a1 n n pa pa d zs w1 w7) := hT7
            clear hT7
            go_wp2
            go_roundw
            case rel => exact ⟨j + 1, by omega, by go_num, hTH.out⟩
            case measure => simp [intOf]; omega
          · go_wp2_with fail
            refine (depth_any ba _ n n pa d _ hT.ra).mono ?_
            rintro e w' ⟨rfl, hw⟩
            replace hw := hw.symm; subst hw
            go_wp2_with fail
            refine (depth_any bb _ n n pa d _ hT.rb).mono ?_
            rintro e w' ⟨rfl, hw⟩
            replace hw := hw.symm; subst hw
            have hfin : Hid (Below w.heap.size w _) := hbel.out.trans (hT.bel.mono (by rw [← hbaH.out]; exact hbel.out.size))
            clear hT
            go_wp2
            go_ret
            exact ⟨rfl, hfin.out⟩
end Go.Proofs.Qxb6605480a
