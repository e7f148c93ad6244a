/- How the arguments of this seat's rows are read. -/
import Derived.Test.Qxb6612755aL3
import Derived.ProofKit
import Derived.OpenShut
import Derived.ChangeOld
import Derived.Below
import Derived.Deep.Slices
import Derived.Deep.SlicePairs
namespace Go.Proofs.Qxb6612755a
open Go.ChangeShapes Go.WideShapes Go.ChangeAt Go.RowKit

theorem own : ownKnob Try.prog.godebug = .none := by kernel_rfl
theorem laidOut : laidOutB Try.prog = true := by kernel_rfl
theorem Try.cells3 : Try.prog.cellsOf 3 = 1 := by kernel_rfl
theorem Try.cells22 : Try.prog.cellsOf 22 = 1 := by kernel_rfl

theorem add_eq {a : Addr} {k : Nat} {v : Value} {w : World} (h : w.cell? (a.add 0) = some v) : ∃ b o, a = ⟨b, o, .none⟩ ∧ a.add k = ⟨b, o + k, .none⟩ := by
  obtain ⟨b, o, spot⟩ := a
  have hs : spot = .none := by simpa [Addr.add] using World.cell?_spot h
  subst hs
  exact ⟨b, o, rfl, add_plain b o k⟩
theorem IntCells.ints {w : World} {x : Addr} {n : Nat} {C : Nat → Int} (h : IntCells w x n C) : IntsAt w (some x) n C := fun j hj => by
  obtain ⟨b, o, rfl, e⟩ := add_eq (k := j) (h 0 (by omega))
  have := h j hj
  rw [e] at this
  exact ⟨b, o, rfl, this⟩

/-- a slice of ints -/
structure Sl where
  a : Option Addr
  n : Nat
  cap : Nat
  C : Nat → Int

section
variable {H : Type} {enc : TypeId × Value → H} {W : World} {base : Nat} {spare : Nat → Bool} {held : Bool}

/-- a []int -/
theorem ints_down {fuel : Nat} {v : Value} {y : DataW H × List MemPlace} (h : DataW.trod enc Try.prog W base spare held fuel 22 [v] = some y) :
    (v = .slice .none 0 0) ∨ ∃ (x : Addr) (n cap : Nat) (C : Nat → Int), v = .slice (some x) n cap ∧ n ≤ maxLen ∧ IntCells W x n C := by
  rcases Deep.open_slice1 Try.underlying22 Try.cells3 h with ⟨hcs, _⟩ | ⟨x, len, cap, m, k, V, D, Pl, hcs, _, hl, hm, hmm, _, hc⟩
  · exact Or.inl (by simpa using hcs)
  · right
    have hlm : len ≤ m := by rw [hmm]; split <;> omega
    obtain ⟨C, hC⟩ := Deep.choose_lt (α := Int) (n := m) (p := fun i q => W.cell? (x.add i) = some (.int .i64 q)) (fun i hi => by
      obtain ⟨h1, h2⟩ := hc i hi
      obtain ⟨q, e, _, _⟩ := DataW.trod_int Try.underlying3 h2
      simp at e
      exact ⟨q, by rw [h1, e]⟩)
    exact ⟨x, len, cap, C, by simpa using hcs, Nat.le_trans hl hm, fun j hj => hC j (by omega)⟩
theorem sl_down {fuel : Nat} {v : Value} {y : DataW H × List MemPlace} (h : DataW.trod enc Try.prog W base spare held fuel 22 [v] = some y) : ∃ x : Sl, v = .slice x.a x.n x.cap ∧ x.n ≤ maxLen ∧ IntsAt W x.a x.n x.C := by
  rcases ints_down h with rfl | ⟨x, n, cap, C, rfl, hn, hC⟩
  · exact ⟨⟨.none, 0, 0, fun _ => 0⟩, rfl, Nat.zero_le _, fun j hj => by simp at hj⟩
  · exact ⟨⟨some x, n, cap, C⟩, rfl, hn, hC.ints⟩
/-- a [][]int -/
theorem held_down {fuel : Nat} {v : Value} {y : DataW H × List MemPlace} (h : DataW.trod enc Try.prog W base spare held fuel 23 [v] = some y) :
    ∃ (a : Option Addr) (m hc : Nat) (A : Nat → Option Addr) (L cp : Nat → Nat) (X : Nat → Nat → Int), v = .slice a m hc ∧ m ≤ hc ∧ hc ≤ maxLen ∧ (∀ i, i < m → L i ≤ maxLen) ∧ HeldAt W a m A L cp X := by
  rcases Deep.open_slice1 Try.underlying23 Try.cells22 h with ⟨hcs, _⟩ | ⟨x, len, cap, m, k, V, D, Pl, hcs, _, hl, hm, hmm, _, hc⟩
  · exact ⟨.none, 0, 0, fun _ => .none, fun _ => 0, fun _ => 0, fun _ _ => 0, by simpa using hcs, Nat.le_refl _, Nat.zero_le _, fun i hi => by omega, fun i hi => by omega⟩
  · have hlm : len ≤ m := by rw [hmm]; split <;> omega
    have hin : Inhabited Sl := ⟨⟨.none, 0, 0, fun _ => 0⟩⟩
    obtain ⟨S, hS⟩ := Deep.choose_lt (α := Sl) (n := m) (p := fun i s => V i = .slice s.a s.n s.cap ∧ s.n ≤ maxLen ∧ IntsAt W s.a s.n s.C) (fun i hi => sl_down (hc i hi).2)
    refine ⟨some x, len, cap, fun i => (S i).a, fun i => (S i).n, fun i => (S i).cap, fun i => (S i).C, by simpa using hcs, hl, hm, fun i hi => (hS i (by omega)).2.1, fun i hi => ⟨?_, (hS i (by omega)).2.2⟩⟩
    obtain ⟨b, o, rfl, e⟩ := add_eq (k := i) (hc 0 (by omega)).1
    have := (hc i (by omega)).1
    rw [e, (hS i (by omega)).1] at this
    exact ⟨b, o, rfl, this⟩
end

/-- no empty matrix lies in the domain -/
theorem Dom.pos {site n peer : Int} {pn m fl : Nat} {L : Nat → Nat} {hf : Bool} (h : Dom site n pn peer m L hf fl) : 0 < pn ∧ (hf = true → 0 < fl) := by
  have h1 := h.n1
  have h2 := Int.mul_pos (show 0 < n by omega) (show 0 < n by omega)
  have h3 := h.past
  exact ⟨by omega, fun e => by have := h.first e; omega⟩
/-- the domain, in natural numbers -/
theorem Dom.nat {site n peer : Int} {pn m fl : Nat} {L : Nat → Nat} {hf : Bool} (h : Dom site n pn peer m L hf fl) :
    ∃ s k p : Nat, site = s ∧ n = k ∧ peer = p ∧ pn = k * k ∧ 1 ≤ k ∧ k ≤ 1024 ∧ s < k ∧ p < k ∧ (∀ i, i < m → L i = k ∨ L i = k * k) ∧ (hf = true → fl = k * k) := by
  obtain ⟨n1, n2, past, s1, s2, p1, p2, held, first⟩ := h
  obtain ⟨s, rfl⟩ : ∃ s : Nat, site = s := ⟨site.toNat, by omega⟩
  obtain ⟨k, rfl⟩ : ∃ k : Nat, n = k := ⟨n.toNat, by omega⟩
  obtain ⟨p, rfl⟩ : ∃ p : Nat, peer = p := ⟨peer.toNat, by omega⟩
  have e : (k : Int) * (k : Int) = ((k * k : Nat) : Int) := by simp
  rw [e] at past
  refine ⟨s, k, p, rfl, rfl, rfl, by omega, by omega, by omega, by omega, by omega, fun i hi => ?_, fun h => ?_⟩
  · have := held i hi
    rw [e] at this
    omega
  · have := first h
    rw [e] at this
    omega
end Go.Proofs.Qxb6612755a
