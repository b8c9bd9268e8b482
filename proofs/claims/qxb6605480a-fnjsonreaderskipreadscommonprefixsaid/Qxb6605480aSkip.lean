import Derived.Test.Qxb6605480aReader
namespace Go.Proofs.Qxb6605480a
open Go.RowKit

/-- What 'skip' leaves. -/
def Skipped (b : Nat) (a : Option Addr) (len cap p : Nat) (d c : Int) (zs : List Int) (w : World) (e : Ending) (w' : World) : Prop :=
  e = .returned (.bool (hit zs p c)) ∧ Only b w w' ∧ Rd w' b a len cap (if hit zs p c then p + 1 else p) d

set_option maxHeartbeats 400000 in
theorem skip_any (b B : Nat) (a : Option Addr) (len cap p : Nat) (d c : Int) (zs : List Int) (w : World) (hr : Rd w b a len cap p d) (hz : RowB B w a zs) (hl : Hid (zs.length = len)) (hn : len ≤ 1048576) :
    Calls Try.prog 31 #[.pointer (some ⟨b, 0, none⟩), .int .u8 c] w fun e w' => Skipped b a len cap p d c zs w e w' := by
  have hcall : Hid (Calls Try.prog 32 #[.pointer (some ⟨b, 0, none⟩), .int .u8 c] w fun e w' => e = .returned (.bool (hit zs p c)) ∧ ∃ n, w' = w.drewN n) := at_any b B a len cap p d c zs w hr hz hl
  have hrH : Hid (Rd w b a len cap p d) := hr
  have c1 := hr.c1
  have f1 := World.rowIs.frozen hr 1
  clear hr hz
  go_enter Try.func31, Try.ntmps31
  go_wp2_with fail
  refine hcall.out.mono ?_
  rintro e w1 ⟨rfl, n, rfl⟩
  clear hcall
  by_cases hh : hit zs p c = true
  · have hp : p < len := by
      have := hl.out
      simp [hit] at hh
      omega
    have hhH : Hid (hit zs p c = true) := hh
    rw [hh]
    clear hh
    go_wp2
    go_ret
    exact ⟨ret_bool hhH.out.symm, ((Only.refl _ _).drewN _).setCell _, by rw [hhH.out]; exact (hrH.out.drewN n).next⟩
  · replace hh : hit zs p c = false := by simpa using hh
    have hhH : Hid (hit zs p c = false) := hh
    rw [hh]
    clear hh
    go_wp2
    go_ret
    exact ⟨ret_bool hhH.out.symm, (Only.refl _ _).drewN _, by rw [hhH.out]; exact hrH.out.drewN n⟩

set_option maxHeartbeats 400000 in
theorem zzskip_any (b B : Nat) (a : Option Addr) (len cap p : Nat) (d c : Int) (zs : List Int) (w : World) (hr : Rd w b a len cap p d) (hz : RowB B w a zs) (hl : Hid (zs.length = len)) (hn : len ≤ 1048576) :
    Calls Try.prog 25 #[.pointer (some ⟨b, 0, none⟩), .int .u8 c] w fun e w' => Skipped b a len cap p d c zs w e w' := by
  have hcall : Hid (Calls Try.prog 31 #[.pointer (some ⟨b, 0, none⟩), .int .u8 c] w fun e w' => Skipped b a len cap p d c zs w e w') := skip_any b B a len cap p d c zs w hr hz hl hn
  clear hr hz
  go_enter Try.func25, Try.ntmps25
  go_wp2_with fail
  refine hcall.out.mono ?_
  rintro e w1 ⟨rfl, h⟩
  have h' : Hid (Skipped b a len cap p d c zs w (.returned (.bool (hit zs p c))) w1) := ⟨rfl, h⟩
  clear h hcall
  generalize hit zs p c = v at h'
  go_wp2
  go_ret
  exact h'.out

theorem pos_any (b : Nat) (a : Option Addr) (len cap p : Nat) (d : Int) (w : World) (hr : Rd w b a len cap p d) :
    Calls Try.prog 19 #[.pointer (some ⟨b, 0, none⟩)] w fun e w' => e = .returned (.int .i64 p) ∧ w' = w := by
  have c1 := hr.c1
  clear hr
  go_enter Try.func19, Try.ntmps19
  go_wp2
  go_ret
  exact ⟨rfl, rfl⟩

theorem data_any (b : Nat) (a : Option Addr) (len cap p : Nat) (d : Int) (w : World) (hr : Rd w b a len cap p d) :
    Calls Try.prog 20 #[.pointer (some ⟨b, 0, none⟩)] w fun e w' => e = .returned (.slice a len cap) ∧ w' = w := by
  have c0 := hr.c0
  clear hr
  go_enter Try.func20, Try.ntmps20
  go_wp2
  go_ret
  exact ⟨rfl, rfl⟩

theorem depth_any (b : Nat) (a : Option Addr) (len cap p : Nat) (d : Int) (w : World) (hr : Rd w b a len cap p d) :
    Calls Try.prog 21 #[.pointer (some ⟨b, 0, none⟩)] w fun e w' => e = .returned (.int .i64 d) ∧ w' = w := by
  have c2 := hr.c2
  clear hr
  go_enter Try.func21, Try.ntmps21
  go_wp2
  go_ret
  exact ⟨rfl, rfl⟩

/-- What 'ZZNewJSONReader' leaves: a new block. -/
def Newed (a : Option Addr) (len cap p : Nat) (d : Int) (w : World) (e : Ending) (w' : World) : Prop :=
  e = .returned (.pointer (some ⟨w.heap.size, 0, none⟩)) ∧ Rd w' w.heap.size a len cap p d ∧ Below w.heap.size w w' ∧ w.heap.size < w'.heap.size

theorem new_any (a : Option Addr) (len cap p : Nat) (d : Int) (w : World) :
    Calls Try.prog 17 #[.slice a len cap, .int .i64 p, .int .i64 d] w fun e w' => Newed a len cap p d w e w' := by
  go_enter Try.func17, Try.ntmps17
  go_wp2
  go_ret
  refine ⟨rfl, ?_, (Below.refl _ _).alloc (Nat.le_refl _) _, by simp⟩
  refine World.rowIs_alloc w #[.slice a len cap, .int .i64 p, .int .i64 d] 49 _ ?_
  intro i hi
  simp at hi
  match i, hi with
  | 0, _ => rfl
  | 1, _ => rfl
  | 2, _ => rfl
  | j + 3, h => exact absurd h (by omega)

/-! ### space -/

/-- From p on, whitespace up to p', and no further. -/
def Run (zs : List Int) (p p' : Nat) : Prop :=
  (zs.length ≤ p ∧ p' = p) ∨ (p ≤ p' ∧ p' ≤ zs.length ∧ (∀ k, p ≤ k → k < p' → isSp (zs.getD k 0) = true) ∧ (p' < zs.length → isSp (zs.getD p' 0) = false))

theorem Run.unique {zs : List Int} {p q r : Nat} (h : Run zs p q) (k : Run zs p r) : q = r := by
  rcases h with ⟨h1, h2⟩ | ⟨h1, h2, h3, h4⟩
  · rcases k with ⟨k1, k2⟩ | ⟨k1, k2, k3, k4⟩ <;> omega
  · rcases k with ⟨k1, k2⟩ | ⟨k1, k2, k3, k4⟩
    · omega
    · rcases Nat.lt_trichotomy q r with e | e | e
      · have := k3 q h1 e; rw [h4 (by omega)] at this; cases this
      · exact e
      · have := h3 r k1 e; rw [k4 (by omega)] at this; cases this

theorem Run.again {zs : List Int} {p q : Nat} (h : Run zs p q) : Run zs q q := by
  rcases h with ⟨h1, h2⟩ | ⟨h1, h2, h3, h4⟩
  · exact .inl ⟨by omega, rfl⟩
  · exact .inr ⟨Nat.le_refl _, h2, fun k hk hk' => by omega, h4⟩

/-- What 'space' leaves. -/
def Spaced (b : Nat) (a : Option Addr) (len cap p : Nat) (d : Int) (zs : List Int) (w : World) (e : Ending) (w' : World) : Prop :=
  e = .returned (.tuple #[]) ∧ Only b w w' ∧ ∃ p', Run zs p p' ∧ Rd w' b a len cap p' d

/-- At the head of a round of 'space'. -/
def SpaceRel (b : Nat) (a : Option Addr) (len cap p : Nat) (d : Int) (zs : List Int) (w : World) (q : Nat) (wr : World) : Prop :=
  Only b w wr ∧ Rd wr b a len cap q d ∧ p ≤ q ∧ (q ≤ zs.length ∨ q = p) ∧ ∀ k, p ≤ k → k < q → isSp (zs.getD k 0) = true

theorem SpaceRel.done {b : Nat} {a : Option Addr} {len cap p : Nat} {d : Int} {zs : List Int} {w : World} {q : Nat} {wr : World} (h : SpaceRel b a len cap p d zs w q wr) (hs : q < zs.length → isSp (zs.getD q 0) = false) (n : Nat) :
    Spaced b a len cap p d zs w (.returned (.tuple #[])) (wr.drewN n) := by
  obtain ⟨h1, h2, h3, h4, h5⟩ := h
  refine ⟨rfl, h1.drewN n, q, ?_, h2.drewN n⟩
  rcases Nat.lt_or_ge zs.length q with e | e
  · have : q = p := by omega
    subst this
    exact .inl ⟨by omega, rfl⟩
  · exact .inr ⟨h3, e, h5, hs⟩

theorem SpaceRel.step {b : Nat} {a : Option Addr} {len cap p : Nat} {d : Int} {zs : List Int} {w : World} {q : Nat} {wr : World} (h : SpaceRel b a len cap p d zs w q wr) (hq : q < zs.length) (hs : isSp (zs.getD q 0) = true) (n : Nat) :
    SpaceRel b a len cap p d zs w (q + 1) ((wr.drewN n).setCell ⟨b, 1, none⟩ (.int .i64 ((q : Int) + 1))) := by
  obtain ⟨h1, h2, h3, h4, h5⟩ := h
  refine ⟨(h1.drewN n).setCell _, (h2.drewN n).next, by omega, by omega, fun k hk hk' => ?_⟩
  by_cases e : k = q
  · rw [e]; exact hs
  · exact h5 k hk (by omega)

theorem isSp_cases {z : Int} (h : isSp z = true) : z = 32 ∨ z = 9 ∨ z = 10 ∨ z = 13 := by
  simp [isSp] at h
  omega

theorem notSp {z : Int} (h : isSp z = false) : (z == 32) = false ∧ (z == 9) = false ∧ (z == 10) = false ∧ (z == 13) = false := by
  simp [isSp] at h
  simp
  omega

set_option maxHeartbeats 800000 in
theorem space_any (b B : Nat) (a : Option Addr) (len cap p : Nat) (d : Int) (zs : List Int) (w : World) (hr : Rd w b a len cap p d) (hz : RowB B w a zs) (hB : B ≤ b) (hl : Hid (zs.length = len)) (hn : len ≤ 1048576) :
    Calls Try.prog 29 #[.pointer (some ⟨b, 0, none⟩)] w fun e w' => Spaced b a len cap p d zs w e w' := by
  have hstart : SpaceRel b a len cap p d zs w p w := ⟨Only.refl _ _, hr, Nat.le_refl _, .inr rfl, fun k hk hk' => by omega⟩
  clear hr
  go_enter Try.func29, Try.ntmps29
  go_wp2
  go_loopw [2] (fun _ wr => ∃ q : Nat, SpaceRel b a len cap p d zs w q wr) (fun _ wr => len - posAt wr b)
  case atStart => exact ⟨p, hstart⟩
  case round =>
    clear hstart
    obtain ⟨q, hrel⟩ := hrel
    have c0 := hrel.2.1.c0
    have c1 := hrel.2.1.c1
    have f1 := World.rowIs.frozen hrel.2.1 1
    have hpos : Hid (posAt wr b = q) := hrel.2.1.posAt
    have hrH : Hid (SpaceRel b a len cap p d zs w q wr) := hrel
    by_cases hlt : q < len
    · obtain ⟨b', off, rfl, _, hc⟩ := (hz.below (hrel.1.below hB) (Nat.le_refl _)).at (k := q) (by have := hl.out; omega)
      have hcp := hc q (by have := hl.out; omega)
      have hlt' : (q : Int) < (len : Int) := by omega
      by_cases hs : isSp (zs.getD q 0) = true
      · have hst : Hid (∀ n, _) := fun n => hrel.step (by have := hl.out; omega) hs n
        have hpn : Hid (∀ n, posAt ((wr.drewN n).setCell ⟨b, 1, none⟩ (.int .i64 ((q : Int) + 1))) b = q + 1) := fun n => (hst.out n).2.1.posAt
        have hz4 := isSp_cases hs
        clear hc hz hrel hs
        generalize zs.getD q 0 = z at hcp hz4
        rcases hz4 with rfl | rfl | rfl | rfl
        all_goals
          go_wp2
          go_quiet (fail)
          go_wp2
          go_quiet (fail)
          go_wp2
          go_roundw
          case rel => exact ⟨q + 1, hst.out _⟩
          case measure => rw [hpn.out, hpos.out]; omega
      · have hs' : isSp (zs.getD q 0) = false := by simpa using hs
        have hfin : Hid (∀ n, _) := fun n => hrel.done (fun _ => hs') n
        have g : (zs.getD q 0 == 32) = false ∧ (zs.getD q 0 == 9) = false ∧ (zs.getD q 0 == 10) = false ∧ (zs.getD q 0 == 13) = false := notSp hs'
        clear hc hz hrel hs hs'
        generalize zs.getD q 0 = z at hcp g
        obtain ⟨g1, g2, g3, g4⟩ := g
        go_wp2
        go_quiet (fail)
        go_wp2
        go_quiet (fail)
        go_wp2
        go_end0
        exact hfin.out _
    · have hlt' : decide ((q : Int) < (len : Int)) = false := decide_eq_false (by omega)
      have hfin : Hid (∀ n, _) := fun n => hrel.done (fun h => absurd h (by have := hl.out; omega)) n
      clear hz hrel
      go_wp2
      go_quiet (fail)
      go_wp2
      go_end0
      exact hfin.out _
set_option maxHeartbeats 400000 in
theorem zzspace_any (b B : Nat) (a : Option Addr) (len cap p : Nat) (d : Int) (zs : List Int) (w : World) (hr : Rd w b a len cap p d) (hz : RowB B w a zs) (hB : B ≤ b) (hl : Hid (zs.length = len)) (hn : len ≤ 1048576) :
    Calls Try.prog 18 #[.pointer (some ⟨b, 0, none⟩)] w fun e w' => Spaced b a len cap p d zs w e w' := by
  have hcall : Hid (Calls Try.prog 29 #[.pointer (some ⟨b, 0, none⟩)] w fun e w' => Spaced b a len cap p d zs w e w') := space_any b B a len cap p d zs w hr hz hB hl hn
  clear hr hz
  go_enter Try.func18, Try.ntmps18
  go_wp2_with fail
  refine hcall.out.mono ?_
  rintro e w1 ⟨rfl, h⟩
  have h' : Hid (Spaced b a len cap p d zs w (.returned (.tuple #[])) w1) := ⟨rfl, h⟩
  clear h hcall
  go_wp2
  go_end0
  exact h'.out

set_option maxHeartbeats 800000 in
/-- 'endsSpaceRun' says yes where the run ends there. -/
theorem ends_any (B : Nat) (a : Option Addr) (len cap p p' : Nat) (zs : List Int) (w : World) (hz : RowB B w a zs) (hl : Hid (zs.length = len)) (hn : len ≤ 1048576) (hR : Run zs p p') :
    Calls Try.prog 22 #[.slice a len cap, .int .i64 p, .int .i64 p'] w fun e w' => e = .returned (.bool true) ∧ w' = w := by
  by_cases hp : len ≤ p
  · obtain rfl : p' = p := by
      have := hl.out
      rcases hR with ⟨_, h⟩ | ⟨h1, h2, _⟩ <;> omega
    have hp' : decide ((len : Int) ≤ (p' : Int)) = true := decide_eq_true (by omega)
    clear hR hz
    go_enter Try.func22, Try.ntmps22
    go_wp2
    go_ret
    exact ⟨rfl, rfl⟩
  · obtain ⟨h1, h2, h3, h4⟩ : p ≤ p' ∧ p' ≤ zs.length ∧ (∀ k, p ≤ k → k < p' → isSp (zs.getD k 0) = true) ∧ (p' < zs.length → isSp (zs.getD p' 0) = false) := by
      have := hl.out
      rcases hR with ⟨h, _⟩ | h
      · omega
      · exact h
    have h2' : p' ≤ len := by have := hl.out; omega
    have hH : Hid ((∀ k, p ≤ k → k < p' → isSp (zs.getD k 0) = true) ∧ (p' < zs.length → isSp (zs.getD p' 0) = false)) := ⟨h3, h4⟩
    have hp' : decide ((len : Int) ≤ (p : Int)) = false := decide_eq_false (by omega)
    have g1 : decide (p' < p) = false := decide_eq_false (by omega)
    have g2 : decide (len < p') = false := decide_eq_false (by omega)
    clear hR h3 h4 h2
    go_enter Try.func22, Try.ntmps22
    go_wp2
    go_loopw [7] (fun i wr => ∃ k : Nat, p ≤ k ∧ k ≤ p' ∧ i = .int .i64 k ∧ wr = w) (fun i _ => p' - (intOf i).toNat)
    case atStart => exact ⟨p, Nat.le_refl _, h1, rfl, rfl⟩
    case round =>
      obtain ⟨k, hk1, hk2, rfl, hwr⟩ := hrel
      replace hwr := hwr.symm; subst hwr
      by_cases hlt : k < p'
      · obtain ⟨b', off, rfl, _, hc⟩ := hz.at (k := k) (by have := hl.out; omega)
        have hcp := hc k (by have := hl.out; omega)
        have hs : Hid (isSp (zs.getD k 0) = true) := hH.out.1 k hk1 hlt
        clear hc hz
        generalize zs.getD k 0 = z at hcp hs
        go_wp2_with fail
        refine (isSpace_any z w).mono ?_
        rintro e w1 ⟨rfl, hw⟩
        replace hw := hw.symm; subst hw
        rw [hs.out]
        go_wp2
        go_roundw
        case rel => exact ⟨k + 1, by omega, by omega, by go_num, trivial⟩
        case measure => simp [intOf]; omega
      · by_cases he : p' = len
        · have he' : ((p' : Int) == (len : Int)) = true := by simp [he]
          clear hz he
          go_wp2
          go_ret
          exact ⟨rfl, rfl⟩
        · have he' : ((p' : Int) == (len : Int)) = false := by simp; omega
          have hpl : (p' : Int) < (len : Int) := by omega
          obtain ⟨b', off, rfl, _, hc⟩ := hz.at (k := p') (by have := hl.out; omega)
          have hcp := hc p' (by have := hl.out; omega)
          have hs : Hid (isSp (zs.getD p' 0) = false) := hH.out.2 (by have := hl.out; omega)
          clear hc hz he
          generalize zs.getD p' 0 = z at hcp hs
          go_wp2_with fail
          refine (isSpace_any z w).mono ?_
          rintro e w1 ⟨rfl, hw⟩
          replace hw := hw.symm; subst hw
          rw [hs.out]
          go_wp2
          go_ret
          exact ⟨rfl, rfl⟩
end Go.Proofs.Qxb6605480a
