import Derived.Test.Qxb6605480aSpace
namespace Go.Proofs.Qxb6605480a
open Go.RowKit

/-- Is there whitespace at p? -/
def spAt (zs : List Int) (p : Nat) : Bool := decide (p < zs.length) && isSp (zs.getD p 0)

theorem spAt_hit {zs : List Int} {p : Nat} {c : Int} (h : hit zs p c = true) (hc : isSp c = true) : spAt zs p = true := by
  unfold hit at h
  rw [Bool.and_eq_true] at h
  unfold spAt
  rw [h.1, beq_iff_eq.1 h.2, hc]
  rfl

theorem spAt_miss {zs : List Int} {p : Nat} (h1 : hit zs p 32 = false) (h2 : hit zs p 9 = false) (h3 : hit zs p 10 = false) (h4 : hit zs p 13 = false) : spAt zs p = false := by
  by_cases hp : p < zs.length
  · simp [hit, hp] at h1 h2 h3 h4
    simp [spAt, isSp, hp, h1, h2, h3, h4]
  · simp [spAt, hp]

/-- What 'skipOneSpace' leaves. -/
def Skipped1 (b : Nat) (a : Option Addr) (len cap p : Nat) (d : Int) (zs : List Int) (w : World) (e : Ending) (w' : World) : Prop :=
  e = .returned (.bool (spAt zs p)) ∧ Only b w w' ∧ Rd w' b a len cap (if spAt zs p then p + 1 else p) d

set_option maxHeartbeats 800000 in
theorem one_any (b B : Nat) (a : Option Addr) (len cap p : Nat) (d : Int) (zs : List Int) (w : World) (hr : Rd w b a len cap p d) (hz : RowB B w a zs) (hB : B ≤ b) (hl : Hid (zs.length = len)) (hn : len ≤ 1048576) :
    Calls Try.prog 24 #[.pointer (some ⟨b, 0, none⟩)] w fun e w' => Skipped1 b a len cap p d zs w e w' := by
  go_enter Try.func24, Try.ntmps24
  go_wp2_with fail
  refine (zzskip_any b B a len cap p d 32 zs w hr hz hl hn).mono ?_
  rintro e w1 ⟨rfl, ho1, hr1⟩
  by_cases h1 : hit zs p 32 = true
  · have hfin : Hid _ := And.intro (spAt_hit h1 rfl) (And.intro ho1 hr1)
    have h1H : Hid (hit zs p 32 = true) := h1
    rw [h1]
    clear h1 ho1 hr1 hr hz
    go_wp2_with fail
    go_ret
    exact ⟨ret_bool hfin.out.1.symm, hfin.out.2.1, by have := hfin.out.2.2; rw [h1H.out] at this; rw [hfin.out.1]; exact this⟩
  replace h1 : hit zs p 32 = false := by simpa using h1
  rw [h1] at hr1 ⊢
  simp only [Bool.false_eq_true, if_false] at hr1
  have h1H : Hid (hit zs p 32 = false) := h1
  have hz1 := hz.below (ho1.below hB) (Nat.le_refl _)
  clear h1 hr hz
  go_wp2_with fail
  refine (zzskip_any b B a len cap p d 9 zs w1 hr1 hz1 hl hn).mono ?_
  rintro e w2 ⟨rfl, ho2, hr2⟩
  by_cases h2 : hit zs p 9 = true
  · have hfin : Hid _ := And.intro (spAt_hit h2 rfl) (And.intro (ho1.trans ho2) hr2)
    have h2H : Hid (hit zs p 9 = true) := h2
    rw [h2]
    clear h2 ho1 hr1 ho2 hr2 hz1
    go_wp2_with fail
    go_ret
    exact ⟨ret_bool hfin.out.1.symm, hfin.out.2.1, by have := hfin.out.2.2; rw [h2H.out] at this; rw [hfin.out.1]; exact this⟩
  replace h2 : hit zs p 9 = false := by simpa using h2
  rw [h2] at hr2 ⊢
  simp only [Bool.false_eq_true, if_false] at hr2
  have h2H : Hid (hit zs p 9 = false) := h2
  have hz2 := hz1.below (ho2.below hB) (Nat.le_refl _)
  replace ho2 := ho1.trans ho2
  clear h2 hr1 hz1 ho1
  go_wp2_with fail
  refine (zzskip_any b B a len cap p d 10 zs w2 hr2 hz2 hl hn).mono ?_
  rintro e w3 ⟨rfl, ho3, hr3⟩
  by_cases h3 : hit zs p 10 = true
  · have hfin : Hid _ := And.intro (spAt_hit h3 rfl) (And.intro (ho2.trans ho3) hr3)
    have h3H : Hid (hit zs p 10 = true) := h3
    rw [h3]
    clear h3 ho2 hr2 ho3 hr3 hz2
    go_wp2_with fail
    go_ret
    exact ⟨ret_bool hfin.out.1.symm, hfin.out.2.1, by have := hfin.out.2.2; rw [h3H.out] at this; rw [hfin.out.1]; exact this⟩
  replace h3 : hit zs p 10 = false := by simpa using h3
  rw [h3] at hr3 ⊢
  simp only [Bool.false_eq_true, if_false] at hr3
  have h3H : Hid (hit zs p 10 = false) := h3
  have hz3 := hz2.below (ho3.below hB) (Nat.le_refl _)
  replace ho3 := ho2.trans ho3
  clear h3 hr2 hz2 ho2
  go_wp2_with fail
  refine (zzskip_any b B a len cap p d 13 zs w3 hr3 hz3 hl hn).mono ?_
  rintro e w4 ⟨rfl, ho4, hr4⟩
  replace ho4 := ho3.trans ho4
  by_cases h4 : hit zs p 13 = true
  · have hfin : Hid _ := And.intro (spAt_hit h4 rfl) (And.intro ho4 hr4)
    have h4H : Hid (hit zs p 13 = true) := h4
    rw [h4]
    clear h4 ho3 hr3 ho4 hr4 hz3
    go_wp2_with fail
    go_ret
    exact ⟨ret_bool hfin.out.1.symm, hfin.out.2.1, by have := hfin.out.2.2; rw [h4H.out] at this; rw [hfin.out.1]; exact this⟩
  replace h4 : hit zs p 13 = false := by simpa using h4
  have hfin : Hid _ := And.intro (spAt_miss h1H.out h2H.out h3H.out h4) (And.intro ho4 hr4)
  have h4H : Hid (hit zs p 13 = false) := h4
  rw [h4]
  clear h4 ho3 hr3 ho4 hr4 hz3
  go_wp2_with fail
  go_ret
  exact ⟨ret_bool hfin.out.1.symm, hfin.out.2.1, by have := hfin.out.2.2; rw [h4H.out] at this; rw [hfin.out.1]; exact this⟩

/-- TWO READERS over one row of bytes: the first in block ba, the second in block bb. -/
structure Two (ba bb : Nat) (a : Option Addr) (len cap pa pb : Nat) (d : Int) (zs : List Int) (w1 w : World) : Prop where
  lt : ba < bb
  bel : Below ba w1 w
  row : RowB ba w a zs
  ra : Rd w ba a len cap pa d
  rb : Rd w bb a len cap pb d

theorem Two.afterA {ba bb : Nat} {a : Option Addr} {len cap pa pb q : Nat} {d : Int} {zs : List Int} {w1 w w' : World} (h : Two ba bb a len cap pa pb d zs w1 w) (ho : Only ba w w') (hr : Rd w' ba a len cap q d) : Two ba bb a len cap q pb d zs w1 w' :=
  ⟨h.lt, h.bel.trans (ho.below (Nat.le_refl _)), h.row.below (ho.below (Nat.le_refl _)) (Nat.le_refl _), hr, h.rb.of_block (ho.block bb (by have := h.lt; omega))⟩

theorem Two.afterB {ba bb : Nat} {a : Option Addr} {len cap pa pb q : Nat} {d : Int} {zs : List Int} {w1 w w' : World} (h : Two ba bb a len cap pa pb d zs w1 w) (ho : Only bb w w') (hr : Rd w' bb a len cap q d) : Two ba bb a len cap pa q d zs w1 w' :=
  ⟨h.lt, h.bel.trans (ho.below (Nat.le_of_lt h.lt)), h.row.below (ho.below (Nat.le_of_lt h.lt)) (Nat.le_refl _), h.ra.of_block (ho.block ba (by have := h.lt; omega)), hr⟩

theorem two_skip {ba bb : Nat} {a : Option Addr} {len cap pa pb : Nat} {d : Int} {zs : List Int} {w1 w : World} (h : Two ba bb a len cap pa pb d zs w1 w) (hl : Hid (zs.length = len)) (hn : len ≤ 1048576) (c : Int) :
    Calls Try.prog 25 #[.pointer (some ⟨ba, 0, none⟩), .int .u8 c] w fun e w' => e = .returned (.bool (hit zs pa c)) ∧ Two ba bb a len cap (if hit zs pa c then pa + 1 else pa) pb d zs w1 w' := by
  refine (zzskip_any ba ba a len cap pa d c zs w h.ra h.row hl hn).mono ?_
  rintro e w' ⟨rfl, ho, hr⟩
  exact ⟨rfl, h.afterA ho hr⟩

theorem two_oneA {ba bb : Nat} {a : Option Addr} {len cap pa pb : Nat} {d : Int} {zs : List Int} {w1 w : World} (h : Two ba bb a len cap pa pb d zs w1 w) (hl : Hid (zs.length = len)) (hn : len ≤ 1048576) :
    Calls Try.prog 24 #[.pointer (some ⟨ba, 0, none⟩)] w fun e w' => e = .returned (.bool (spAt zs pa)) ∧ Two ba bb a len cap (if spAt zs pa then pa + 1 else pa) pb d zs w1 w' := by
  refine (one_any ba ba a len cap pa d zs w h.ra h.row (Nat.le_refl _) hl hn).mono ?_
  rintro e w' ⟨rfl, ho, hr⟩
  exact ⟨rfl, h.afterA ho hr⟩

theorem two_oneB {ba bb : Nat} {a : Option Addr} {len cap pa pb : Nat} {d : Int} {zs : List Int} {w1 w : World} (h : Two ba bb a len cap pa pb d zs w1 w) (hl : Hid (zs.length = len)) (hn : len ≤ 1048576) :
    Calls Try.prog 24 #[.pointer (some ⟨bb, 0, none⟩)] w fun e w' => e = .returned (.bool (spAt zs pb)) ∧ Two ba bb a len cap pa (if spAt zs pb then pb + 1 else pb) d zs w1 w' := by
  refine (one_any bb ba a len cap pb d zs w h.rb h.row (Nat.le_of_lt h.lt) hl hn).mono ?_
  rintro e w' ⟨rfl, ho, hr⟩
  exact ⟨rfl, h.afterB ho hr⟩
end Go.Proofs.Qxb6605480a
