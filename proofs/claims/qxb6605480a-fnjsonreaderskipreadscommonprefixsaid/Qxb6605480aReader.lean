import Derived.Test.Qxb6605480aSame
namespace Go.Proofs.Qxb6605480a
open Go.RowKit

/-- Nothing has turned but block b. -/
structure Only (b : Nat) (w w' : World) : Prop where
  os : w'.os = w.os
  tape : w'.tape = w.tape
  output : w'.output = w.output
  size : w'.heap.size = w.heap.size
  block : ∀ k, k ≠ b → w'.heap[k]? = w.heap[k]?

theorem Only.refl (b : Nat) (w : World) : Only b w w := ⟨rfl, rfl, rfl, rfl, fun _ _ => rfl⟩
theorem Only.trans {b : Nat} {w w1 w2 : World} (h : Only b w w1) (k : Only b w1 w2) : Only b w w2 :=
  ⟨k.os.trans h.os, k.tape.trans h.tape, k.output.trans h.output, k.size.trans h.size, fun i hi => (k.block i hi).trans (h.block i hi)⟩
theorem Only.drewN {b : Nat} {w w1 : World} (h : Only b w w1) (n : Nat) : Only b w (w1.drewN n) := h.trans ⟨rfl, rfl, rfl, rfl, fun _ _ => rfl⟩
theorem Only.setCell {b o : Nat} {w w1 : World} (h : Only b w w1) (v : Value) : Only b w (w1.setCell ⟨b, o, none⟩ v) :=
  h.trans ⟨rfl, rfl, rfl, by simp [World.setCell], fun k hk => Below.heap_setCell _ _ _ _ hk⟩
theorem Only.below {b B : Nat} {w w1 : World} (h : Only b w w1) (hB : B ≤ b) : Below B w w1 := ⟨h.os, h.tape, h.output, by rw [h.size]; exact Nat.le_refl _, fun k hk => h.block k (by omega)⟩

/-- THE READER: block b holds its three fields. -/
def rdCell (a : Option Addr) (len cap : Nat) (p : Nat) (d : Int) (j : Nat) : Value := if j = 0 then .slice a len cap else if j = 1 then .int .i64 p else .int .i64 d
def Rd (w : World) (b : Nat) (a : Option Addr) (len cap p : Nat) (d : Int) : Prop := w.rowIs b 49 3 (rdCell a len cap p d)

theorem Rd.c0 {w : World} {b : Nat} {a : Option Addr} {len cap p : Nat} {d : Int} (h : Rd w b a len cap p d) : w.cell? ⟨b, 0, none⟩ = some (.slice a len cap) := h.cell (i := 0) (by omega)
theorem Rd.c1 {w : World} {b : Nat} {a : Option Addr} {len cap p : Nat} {d : Int} (h : Rd w b a len cap p d) : w.cell? ⟨b, 1, none⟩ = some (.int .i64 p) := h.cell (i := 1) (by omega)
theorem Rd.c2 {w : World} {b : Nat} {a : Option Addr} {len cap p : Nat} {d : Int} (h : Rd w b a len cap p d) : w.cell? ⟨b, 2, none⟩ = some (.int .i64 d) := h.cell (i := 2) (by omega)
theorem Rd.drewN {w : World} {b : Nat} {a : Option Addr} {len cap p : Nat} {d : Int} (h : Rd w b a len cap p d) (n : Nat) : Rd (w.drewN n) b a len cap p d := h
theorem Rd.of_block {w w' : World} {b : Nat} {a : Option Addr} {len cap p : Nat} {d : Int} (h : Rd w b a len cap p d) (e : w'.heap[b]? = w.heap[b]?) : Rd w' b a len cap p d := World.rowIs.of_block h e
theorem Rd.next {w : World} {b : Nat} {a : Option Addr} {len cap p : Nat} {d : Int} (h : Rd w b a len cap p d) : Rd (w.setCell ⟨b, 1, none⟩ (.int .i64 ((p : Int) + 1))) b a len cap (p + 1) d := by
  refine World.rowIs.congr (World.rowIs.set h 1 (.int .i64 ((p : Int) + 1))) (fun j _ => ?_)
  unfold rdCell
  by_cases e : j = 1
  · subst e; simp
  · simp [e]

/-- Where the reader stands, out of the world. -/
def posAt (w : World) (b : Nat) : Nat := match w.cell? ⟨b, 1, none⟩ with | some (.int _ n) => n.toNat | _ => 0
theorem Rd.posAt {w : World} {b : Nat} {a : Option Addr} {len cap p : Nat} {d : Int} (h : Rd w b a len cap p d) : posAt w b = p := by simp [Qxb6605480a.posAt, h.c1]

/-- JSON's whitespace. -/
def isSp (z : Int) : Bool := z == 32 || z == 9 || z == 10 || z == 13

set_option maxHeartbeats 400000 in
theorem isSpace_any (z : Int) (w : World) : Calls Try.prog 30 #[.int .u8 z] w fun e w' => e = .returned (.bool (isSp z)) ∧ w' = w := by
  by_cases h1 : z = 32
  · subst h1
    go_enter Try.func30, Try.ntmps30
    go_wp2
    go_ret
    exact ⟨rfl, rfl⟩
  by_cases h2 : z = 9
  · subst h2
    go_enter Try.func30, Try.ntmps30
    go_wp2
    go_ret
    exact ⟨rfl, rfl⟩
  by_cases h3 : z = 10
  · subst h3
    go_enter Try.func30, Try.ntmps30
    go_wp2
    go_ret
    exact ⟨rfl, rfl⟩
  have g1 : (z == 32) = false := by simpa using h1
  have g2 : (z == 9) = false := by simpa using h2
  have g3 : (z == 10) = false := by simpa using h3
  have hs : Hid (isSp z = (z == 13)) := by simp [Hid, isSp, g1, g2, g3]
  clear h1 h2 h3
  go_enter Try.func30, Try.ntmps30
  go_wp2
  go_ret
  exact ⟨ret_bool hs.out.symm, rfl⟩

/-- The byte at p, if it is there, is c. -/
def hit (zs : List Int) (p : Nat) (c : Int) : Bool := decide (p < zs.length) && (zs.getD p 0 == c)

set_option maxHeartbeats 400000 in
theorem at_any (b B : Nat) (a : Option Addr) (len cap p : Nat) (d c : Int) (zs : List Int) (w : World) (hr : Rd w b a len cap p d) (hz : RowB B w a zs) (hl : Hid (zs.length = len)) :
    Calls Try.prog 32 #[.pointer (some ⟨b, 0, none⟩), .int .u8 c] w fun e w' => e = .returned (.bool (hit zs p c)) ∧ ∃ n, w' = w.drewN n := by
  have c0 := hr.c0
  have c1 := hr.c1
  by_cases hlt : p < len
  · obtain ⟨b', off, rfl, _, hc⟩ := hz.at (k := p) (by have := hl.out; omega)
    have hcp := hc p (by have := hl.out; omega)
    have hlt' : (p : Int) < (len : Int) := by omega
    have hh : Hid (hit zs p c = (zs.getD p 0 == c)) := by
      have : p < zs.length := by have := hl.out; omega
      simp [Hid, hit, this]
    clear hc hz hr
    generalize zs.getD p 0 = z at hcp hh
    go_enter Try.func32, Try.ntmps32
    go_wp2
    go_quiet (fail)
    go_wp2
    go_ret
    exact ⟨ret_bool hh.out.symm, _, rfl⟩
  · have hlt' : decide ((p : Int) < (len : Int)) = false := decide_eq_false (by omega)
    have hh : Hid (hit zs p c = false) := by
      have : ¬ p < zs.length := by have := hl.out; omega
      simp [Hid, hit, this]
    clear hz hr
    go_enter Try.func32, Try.ntmps32
    go_wp2
    go_quiet (fail)
    go_wp2
    go_ret
    exact ⟨ret_bool hh.out.symm, _, rfl⟩
end Go.Proofs.Qxb6605480a
