/- The words of this seat's walks; sentTo (23). -/
import Derived.Test.Qxb6612755aRows
import Derived.WalkKit
import Derived.ProofKit
import Derived.Below
import Derived.OwnWalk
import Derived.BigQuiet
import Derived.BigRegion
import Derived.Deep.DeepFit
namespace Go.Proofs.Qxb6612755a
open Go.RowKit

theorem cell_lt {w : World} {a : Addr} {v : Value} (h : w.cell? a = some v) : a.block < w.heap.size := by
  apply Nat.lt_of_not_le
  intro hle
  rw [World.cell?, Array.getElem?_eq_none hle] at h
  cases h
theorem below_cell {w w' : World} {B : Nat} (hb : Below B w w') {a : Addr} {v : Value} (h : w.cell? a = some v) (hB : a.block < B) : w'.cell? a = some v := (hb.cell hB).trans h
theorem Below.al {w w' : World} (h : Below w.heap.size w w') (o : Obj) : Below w.heap.size w (w'.alloc o) := h.alloc h.size o

theorem Below.drewN {B : Nat} {a w : World} (h : Below B a w) (n : Nat) : Below B a (w.drewN n) := h.trans ⟨rfl, rfl, rfl, Nat.le_refl _, fun _ _ => rfl⟩

/-- n ints lie behind a -/
def IntsAt (w : World) (a : Option Addr) (n : Nat) (X : Nat → Int) : Prop := ∀ j, j < n → ∃ b o, a = some ⟨b, o, .none⟩ ∧ w.cell? ⟨b, o + j, .none⟩ = some (.int .i64 (X j))
theorem IntsAt.kept {w w' : World} {a : Option Addr} {n : Nat} {X : Nat → Int} (h : IntsAt w a n X) {B : Nat} (hb : Below B w w') (hB : w.heap.size ≤ B) : IntsAt w' a n X := fun i hi => by
  obtain ⟨b, o, e, h0⟩ := h i hi
  exact ⟨b, o, e, below_cell hb h0 (Nat.lt_of_lt_of_le (cell_lt h0) hB)⟩

/-- the tracker: its site, its number of sites, its matrix -/
def Track (w : World) (tb : Nat) (s n : Nat) (pa : Option Addr) (pn pc : Nat) : Prop := w.cell? ⟨tb, 0, .none⟩ = some (.int .i64 s) ∧ w.cell? ⟨tb, 1, .none⟩ = some (.int .i64 n) ∧ w.cell? ⟨tb, 2, .none⟩ = some (.slice pa pn pc)
theorem Track.kept {w w' : World} {tb s n : Nat} {pa : Option Addr} {pn pc : Nat} (h : Track w tb s n pa pn pc) (hb : Below w.heap.size w w') : Track w' tb s n pa pn pc := ⟨below_cell hb h.1 (cell_lt h.1), below_cell hb h.2.1 (cell_lt h.2.1), below_cell hb h.2.2 (cell_lt h.2.2)⟩

set_option maxRecDepth 100000 in
set_option maxHeartbeats 1000000 in
theorem sentTo_any (tb s n : Nat) (pa : Option Addr) (pn pc b o c p q N : Nat) (w : World) (ht : Track w tb s n pa pn pc) (hp : p < n) (hn : n ≤ 1024) (hq : (p : Int) * (n : Int) = (q : Int)) (hq2 : ((p : Int) + 1) * (n : Int) = (q : Int) + n) (hqN : q + n ≤ N) (hNc : N ≤ c) (hN : N ≤ 1048576) :
    Calls Try.prog 23 #[.pointer (some ⟨tb, 0, .none⟩), .slice (some ⟨b, o, .none⟩) N c, .int .i64 (p : Int)] w fun e w' => e = .returned (.slice (some ⟨b, o + q, .none⟩) n (c - q)) ∧ Below w.heap.size w w' := by
  obtain ⟨t0, t1, t2⟩ := ht
  have i1 : (q : Int) ≤ (q : Int) + n := by omega
  have i2 : (q : Int) + n ≤ c := by omega
  go_enter Try.func23, Try.ntmps23
  go_wp2
  go_quiet (fail)
  go_wp2
  go_ret
  exact ⟨by simp [Nat.add_sub_cancel_left], Below.drewN (Below.refl _ _) _⟩
end Go.Proofs.Qxb6612755a
