import Derived.Test.Qxb6605480aSizes
namespace Go.Proofs.Qxb6605480a
open Go.RowKit

/-- The names are bytes. -/
def BytesIn (xs : List Int) : Prop := ∀ z ∈ xs, 0 ≤ z ∧ z ≤ 255

/-- The set in block b holds just the names that meet P; nothing below b has turned since w2. -/
def Got (b : Nat) (w2 : World) (P : List Int → Prop) (n : Nat) (wr : World) : Prop := Below b w2 wr ∧ ∃ S, NSet wr b S ∧ S.length ≤ n ∧ ∀ xs, xs ∈ S ↔ P xs

theorem Got.congr {b n : Nat} {w2 wr : World} {P Q : List Int → Prop} (h : Got b w2 P n wr) (e : ∀ xs, P xs ↔ Q xs) : Got b w2 Q n wr := by
  obtain ⟨h1, S, h2, h3, h4⟩ := h
  exact ⟨h1, S, h2, h3, fun xs => (h4 xs).trans (e xs)⟩

theorem Got.mono {b n n' : Nat} {w2 wr : World} {P : List Int → Prop} (h : Got b w2 P n wr) (e : n ≤ n') : Got b w2 P n' wr := by
  obtain ⟨h1, S, h2, h3, h4⟩ := h
  exact ⟨h1, S, h2, by omega, h4⟩

theorem NSet.drewN {w : World} {b : Nat} {S : List (List Int)} (h : NSet w b S) (q : Nat) : NSet (w.drewN q) b S := by
  rcases h with ⟨f, hrow, h16, h17, hS16, hh⟩ | ⟨f, bm, n, D, hrow, h17, hbm, hown, hn, hM⟩
  · exact .inl ⟨f, hrow, h16, h17, hS16, fun i hi => (hh i hi).below (below_drewN (Below.refl _ _) _)⟩
  · exact .inr ⟨f, bm, n, D, hrow, h17, hbm, hown, hn, hM⟩

theorem Got.drewN {b n : Nat} {w2 wr : World} {P : List Int → Prop} (h : Got b w2 P n wr) (q : Nat) : Got b w2 P n (wr.drewN q) := by
  obtain ⟨h1, S, h2, h3, h4⟩ := h
  exact ⟨below_drewN h1 _, S, h2.drewN q, h3, h4⟩

theorem set_start (w : World) : NSet (w.alloc (.cells #[Value.slice none 0 0, Value.slice none 0 0, Value.slice none 0 0, Value.slice none 0 0, Value.slice none 0 0,
      Value.slice none 0 0, Value.slice none 0 0, Value.slice none 0 0, Value.slice none 0 0, Value.slice none 0 0,
      Value.slice none 0 0, Value.slice none 0 0, Value.slice none 0 0, Value.slice none 0 0, Value.slice none 0 0,
      Value.slice none 0 0, Value.int IntKind.i64 0, Value.map none] 30)) w.heap.size [] := by
  refine .inl ⟨fun i => if i = 16 then .int .i64 0 else if i = 17 then .map none else .slice none 0 0, World.rowIs_alloc w _ 30 _ ?_, rfl, rfl, by simp, fun i hi => by simp at hi⟩
  intro i hi
  simp at hi
  match i, hi with
  | 0, _ => rfl
  | 1, _ => rfl
  | 2, _ => rfl
  | 3, _ => rfl
  | 4, _ => rfl
  | 5, _ => rfl
  | 6, _ => rfl
  | 7, _ => rfl
  | 8, _ => rfl
  | 9, _ => rfl
  | 10, _ => rfl
  | 11, _ => rfl
  | 12, _ => rfl
  | 13, _ => rfl
  | 14, _ => rfl
  | 15, _ => rfl
  | 16, _ => rfl
  | 17, _ => rfl
  | j + 18, h => exact absurd h (by omega)

theorem got_start (w : World) : Got w.heap.size w (fun _ => False) 0 (w.alloc (.cells #[Value.slice none 0 0, Value.slice none 0 0, Value.slice none 0 0, Value.slice none 0 0, Value.slice none 0 0,
      Value.slice none 0 0, Value.slice none 0 0, Value.slice none 0 0, Value.slice none 0 0, Value.slice none 0 0,
      Value.slice none 0 0, Value.slice none 0 0, Value.slice none 0 0, Value.slice none 0 0, Value.slice none 0 0,
      Value.slice none 0 0, Value.int IntKind.i64 0, Value.map none] 30)) :=
  ⟨(Below.refl _ _).alloc (Nat.le_refl _) _, [], set_start w, by simp, fun xs => by simp⟩

/-- 'ZZNameSetAdd' on a set that holds just the names that meet P. -/
theorem add_got {b n : Nat} {w2 wr : World} {P : List Int → Prop} (h : Got b w2 P n wr) (hn : n ≤ 1048576) {a : Option Addr} {len cap : Nat} {xs : List Int} (hx : Holds1 b wr (.slice a len cap) xs) :
    Calls Try.prog 11 #[.pointer (some ⟨b, 0, none⟩), .slice a len cap] wr fun e w' => ∃ v, e = .returned (.bool v) ∧ (v = true ↔ P xs) ∧ Got b w2 (fun ys => P ys ∨ ys = xs) (n + 1) w' := by
  obtain ⟨h1, S, h2, h3, h4⟩ := h
  refine (zzadd_any b S a len cap xs wr h2 (by omega) hx).mono ?_
  rintro e w' ⟨rfl, hb, S', hN, hS', hl⟩
  exact ⟨_, rfl, by simp [h4], h1.trans hb, S', hN, by omega, fun ys => by rw [hS', h4]⟩

theorem names_at {b : Nat} {w2 wr : World} {a : Option Addr} {L : List (List Int)} (h : NamesB b w2 a L) (hb : Below b w2 wr) {k : Nat} (hk : k < L.length) (hall : ∀ j, j < L.length → (L.getD j []).length ≤ 1048576) (hB : ∀ xs ∈ L, BytesIn xs) :
    ∃ b' off a' m c', a = some ⟨b', off, none⟩ ∧ wr.cell? ⟨b', off + k, none⟩ = some (.slice a' m c') ∧ Holds1 b wr (.slice a' m c') (L.getD k []) := by
  obtain ⟨b', off, a', m, c', rfl, hbb, hcell, hrow, hm, _⟩ := (h.below hb (Nat.le_refl _)).at hk
  exact ⟨b', off, a', m, c', rfl, hcell, a', c', by rw [hm], hrow, hall k hk, hB _ (mem_getD hk)⟩

theorem take_mem {L : List (List Int)} {k : Nat} (hk : k < L.length) (xs : List Int) : (xs ∈ L.take k ∨ xs = L.getD k []) ↔ xs ∈ L.take (k + 1) := by
  have e : L.getD k [] = L[k] := by simp [List.getD, List.getElem?_eq_getElem hk]
  rw [List.take_succ_eq_append_getElem hk, e, List.mem_append, List.mem_singleton]

theorem mem_step {L : List (List Int)} {k : Nat} (hk : k < L.length) (ys : List Int) : decide (ys ∈ L.take (k + 1)) = (decide (ys ∈ L.take k) || decide (L.getD k [] = ys)) := by
  by_cases h1 : ys ∈ L.take k
  · rw [decide_eq_true h1, decide_eq_true ((take_mem hk ys).1 (.inl h1))]; rfl
  · by_cases h2 : L.getD k [] = ys
    · rw [decide_eq_true h2, decide_eq_true ((take_mem hk ys).1 (.inr h2.symm))]; simp
    · rw [decide_eq_false h1, decide_eq_false h2, decide_eq_false (fun h => ((take_mem hk ys).2 h).elim h1 (fun e => h2 e.symm))]; rfl

theorem Holds1.parts {B : Nat} {w : World} {a : Option Addr} {m c : Nat} {xs : List Int} (h : Holds1 B w (.slice a m c) xs) : RowB B w a xs ∧ xs.length = m ∧ Byt xs := by
  obtain ⟨a', c', e, h1, h2⟩ := h
  cases e
  exact ⟨h1, rfl, h2⟩

set_option maxHeartbeats 1600000 in
theorem law4 (a0 a1 : Option Addr) (n c0 m c1 : Nat) (L : List (List Int)) (ys : List Int) (w : World) (hL : NamesB w.heap.size w a0 L) (hn : Hid (L.length = n)) (h0 : a0 = none → L = [])
    (hB : ∀ xs ∈ L, BytesIn xs) (hY : RowB w.heap.size w a1 ys) (hm : Hid (ys.length = m)) (h1 : a1 = none → ys = []) (hBy : BytesIn ys) :
    Calls Try.prog 4 #[.slice a0 n c0, .slice a1 m c1] w fun e w' => e = .returned (.bool true) ∧ Below w.heap.size w w' := by
  go_enter Try.func4, Try.ntmps4
  go_wp2_with fail
  refine (zz13_any a0 a1 n c0 m c1 L w _ hL hn).mono ?_
  rintro e w' ⟨v, rfl, hw, hv⟩
  replace hw := hw.symm; subst hw
  cases v
  · go_wp2
    go_ret
    exact ⟨rfl, Below.refl _ _⟩
  obtain ⟨hall, hm1⟩ := hv rfl
  have hallH : Hid (∀ j, j < L.length → (L.getD j []).length ≤ 1048576) := hall
  clear hv hall
  by_cases hn1 : (4096 : Int) < (n : Int)
  · go_wp2_with fail
    go_ret
    exact ⟨rfl, Below.refl _ _⟩
  have hn2 : decide ((4096 : Int) < (n : Int)) = false := decide_eq_false hn1
  have hm2 : decide ((1048576 : Int) < (m : Int)) = false := decide_eq_false (by omega)
  go_wp2_with fail
  refine (nested_any a0 n c0 L w _ hL hn (by omega)).mono ?_
  rintro e w' ⟨z, rfl, hw, hz0, hz1⟩
  replace hw := hw.symm; subst hw
  by_cases hs : (1048576 : Int) < (m : Int) + z
  · go_wp2_with fail
    go_ret
    exact ⟨rfl, Below.refl _ _⟩
  have hs2 : decide ((1048576 : Int) < (m : Int) + z) = false := decide_eq_false hs
  go_wp2_with fail
  refine (cloneN_any a0 n c0 L w hL hn.out (by omega) (fun xs hx => by obtain ⟨j, hj, rfl⟩ := List.getElem_of_mem hx; have := hallH.out j hj; simpa [List.getD, List.getElem?_eq_getElem hj] using this) h0).mono ?_
  rintro e w1 ⟨a2, rfl, hN2, hb2⟩
  rw [hn.out]
  go_wp2_with fail
  refine (clone_any a1 m c1 ys w1 (hY.below hb2 hb2.size) hm.out hm1 h1).mono ?_
  rintro e w2 ⟨a3, rfl, hR3, hb3, _⟩
  rw [hm.out]
  have hN3 := hN2.below hb3 hb3.size
  have hbel : Hid (Below w.heap.size w w2) := hb2.trans (hb3.mono hb2.size)
  clear hN2 hb2 hb3 hL hY h0 h1 hs2 hs hz0 hz1
  have hstart := got_start w2
  go_wp2
  go_loopw [6] (fun i wr => ∃ k : Nat, k ≤ n ∧ i = .int .i64 k ∧ Got w2.heap.size w2 (· ∈ L.take k) k wr) (fun i _ => n - (intOf i).toNat)
  case atStart => exact ⟨0, Nat.zero_le _, rfl, hstart.congr (fun xs => by simp)⟩
  case round =>
    clear hstart
    obtain ⟨k, hk, rfl, hgot⟩ := hrel
    by_cases hlt : k < n
    · obtain ⟨b', off, a', m', c', rfl, hck, hold⟩ := names_at hN3 hgot.1 (k := k) (by rw [hn.out]; exact hlt) hallH.out hB
      have hgH : Hid (Got w2.heap.size w2 (· ∈ L.take k) k wr) := hgot
      clear hgot
      go_wp2_with fail
      refine (add_got hgH.out (by omega) hold).mono ?_
      rintro e w3 ⟨v, rfl, _, hgot3⟩
      have hfin : Hid (Got w2.heap.size w2 (· ∈ L.take (k + 1)) (k + 1) w3) := hgot3.congr (take_mem (by rw [hn.out]; exact hlt))
      clear hgot3 hold
      go_wp2
      go_roundw
      case rel => exact ⟨k + 1, by omega, by go_num, hfin.out⟩
      case measure => simp [intOf]; omega
    · have hgH : Hid (Got w2.heap.size w2 (· ∈ L) n wr) := (hgot.congr (fun xs => by rw [List.take_of_length_le (by have := hn.out; omega)])).mono (by omega)
      clear hgot
      have hB1 : Holds1 w2.heap.size w2 (.slice a3 m m) ys := ⟨a3, m, by rw [hm.out], hR3, by rw [hm.out]; exact hm1, hBy⟩
      go_wp2
      go_loopw [7, 8] (fun t i wq => ∃ k q : Nat, k ≤ n ∧ i = .int .i64 k ∧ t = .bool (decide (ys ∈ L.take k)) ∧ wq = wr.drewN q) (fun _ i _ => n - (intOf i).toNat)
      case atStart => exact ⟨0, 0, Nat.zero_le _, rfl, by simp, rfl⟩
      case round =>
        obtain ⟨k, q, hk, rfl, rfl, rfl⟩ := hrel
        have hg2 : Got w2.heap.size w2 (· ∈ L) n (wr.drewN q) := hgH.out.drewN q
        by_cases hlt : k < n
        · obtain ⟨b', off, a', m', c', rfl, hck, hold⟩ := names_at hN3 hg2.1 (k := k) (by rw [hn.out]; exact hlt) hallH.out hB
          obtain ⟨hR4, hm4, hB4⟩ := hold.parts
          have hR5 := hR3.below hg2.1 (Nat.le_refl _)
          have hst : Hid _ := mem_step (L := L) (k := k) (by rw [hn.out]; exact hlt) ys
          have hm4H : Hid ((L.getD k []).length = m') := hm4
          have hm4' : m' ≤ 1048576 := by have := hB4.1; omega
          clear hg2 hm4 hold hB4
          go_wp2_with fail
          refine (same_any a' a3 m' m c' m (L.getD k []) ys (wr.drewN q) w2.heap.size hR4 hR5 hm4H.out hm.out hm4' hm1).mono ?_
          rintro e w3 ⟨rfl, q2, rfl⟩
          by_cases hxy : L.getD k [] = ys
          · rw [decide_eq_true hxy] at hst
            rw [decide_eq_true hxy]
            clear hxy hR4 hR5
            go_wp2
            go_roundw
            case rel => exact ⟨k + 1, q + q2, by omega, by go_num, congrArg Value.bool (by rw [hst.out]; simp), rfl⟩
            case measure => simp [intOf]; omega
          · rw [decide_eq_false hxy] at hst
            rw [decide_eq_false hxy]
            clear hxy hR4 hR5
            go_wp2
            go_roundw
            case rel => exact ⟨k + 1, q + q2, by omega, by go_num, congrArg Value.bool (by rw [hst.out]; simp), rfl⟩
            case measure => simp [intOf]; omega
        · obtain rfl : k = n := by omega
          have hR5 := hB1.below hg2.1
          have hg3 : Hid (Got w2.heap.size w2 (· ∈ L) k (wr.drewN q)) := hg2
          have htk : L.take k = L := List.take_of_length_le (by have := hn.out; omega)
          rw [htk]
          have hv0 : Hid (decide (ys ∈ L) = true ↔ ys ∈ L) := by simp [Hid]
          generalize decide (ys ∈ L) = v0 at hv0 ⊢
          clear htk hg2
          go_wp2_with fail
          refine (add_got hg3.out (by omega) hR5).mono ?_
          rintro e w4 ⟨v, rfl, hv, hgot4⟩
          obtain rfl : v = v0 := by rw [Bool.eq_iff_iff, hv0.out, hv]
          have hg4 : Hid (Got w2.heap.size w2 (fun xs => xs ∈ L ∨ xs = ys) (k + 1) w4) := hgot4
          clear hgot4 hR5 hv
          go_wp2
          go_loopw [9] (fun i wq => ∃ j : Nat, j ≤ k ∧ i = .int .i64 j ∧ Got w2.heap.size w2 (fun xs => xs ∈ L ∨ xs = ys) (k + 1 + j) wq) (fun i _ => k - (intOf i).toNat)
          case atStart => exact ⟨0, Nat.zero_le _, rfl, hg4.out⟩
          case round =>
            clear hg4 hg3 hgH
            obtain ⟨j, hj, rfl, hgot⟩ := hrel
            by_cases hlt : j < k
            · obtain ⟨b', off, a', m', c', rfl, hck, hold⟩ := names_at hN3 hgot.1 (k := j) (by rw [hn.out]; exact hlt) hallH.out hB
              have hgJ : Hid (Got w2.heap.size w2 (fun xs => xs ∈ L ∨ xs = ys) (k + 1 + j) _) := hgot
              clear hgot
              go_wp2_with fail
              refine (add_got hgJ.out (by omega) hold).mono ?_
              rintro e w5 ⟨v5, rfl, hv5, hgot5⟩
              have hin : L.getD j [] ∈ L := mem_getD (by rw [hn.out]; exact hlt)
              obtain rfl : v5 = true := hv5.2 (.inl hin)
              have hfin : Hid (Got w2.heap.size w2 (fun xs => xs ∈ L ∨ xs = ys) (k + 1 + (j + 1)) w5) := (hgot5.congr (fun xs => ⟨fun h => h.elim id (fun e => e ▸ .inl hin), .inl⟩))
              clear hgot5 hold hv5 hin
              go_wp2
              go_roundw
              case rel => exact ⟨j + 1, by omega, by go_num, hfin.out⟩
              case measure => simp [intOf]; omega
            · have hR6 := hB1.below hgot.1
              have hgJ : Hid (Got w2.heap.size w2 (fun xs => xs ∈ L ∨ xs = ys) (k + 1 + j) _) := hgot
              clear hgot
              go_wp2_with fail
              refine (add_got hgJ.out (by omega) hR6).mono ?_
              rintro e w5 ⟨v5, rfl, hv5, hgot5⟩
              obtain rfl : v5 = true := hv5.2 (.inr rfl)
              have hfin : Hid (Below w.heap.size w w5) := hbel.out.trans (hgot5.1.mono hbel.out.size)
              clear hgot5 hv5 hR6
              go_wp2
              go_ret
              exact ⟨rfl, hfin.out⟩
end Go.Proofs.Qxb6605480a
