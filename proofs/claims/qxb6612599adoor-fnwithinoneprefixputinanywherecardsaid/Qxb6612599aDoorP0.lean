/- What the rows of this seat share: what the listed variables give the walks; how the arguments are read. -/
import Derived.Test.Qxb6612599aDoorL2
import Derived.Test.Qxb6612599aDoorTie
import Derived.ProofKit
import Derived.LaidMore
import Derived.Lay
import Derived.OpenShut
import Derived.Stop.Joined
import Derived.ChangeOld
import Derived.Below
import Derived.Deep.Slices
import Derived.ChangeSame
namespace Go.Proofs.Qxb6612599aDoor
open Go.ChangeShapes Go.WideShapes Go.ChangeAt Go.RowKit

theorem own : ownKnob Tryd.prog.godebug = .none := by kernel_rfl
theorem laidOut : laidOutB Tryd.prog = true := by kernel_rfl
def laid3 : List (String × DataW Unit) := [("net/netip.z4", Rows.laid_net_netip_z4), ("net/netip.z6noz", Rows.laid_net_netip_z6noz), ("net/netip.z0", Rows.laid_net_netip_z0)]
theorem g4 : Tryd.prog.globalNamed "net/netip.z4" = some 0 := by kernel_rfl
theorem g0 : Tryd.prog.globalNamed "net/netip.z0" = some 1 := by kernel_rfl
theorem t4 : (Tryd.prog.globals[0]?).map (·.type) = some 37 := by kernel_rfl
theorem t0 : (Tryd.prog.globals[1]?).map (·.type) = some 37 := by kernel_rfl
theorem Tryd.cells37 : Tryd.prog.cellsOf 37 = 1 := by kernel_rfl
theorem Tryd.cells35 : Tryd.prog.cellsOf 35 = 1 := by kernel_rfl
theorem Tryd.cells24 : Tryd.prog.cellsOf 24 = 4 := by kernel_rfl
theorem Tryd.cells5 : Tryd.prog.cellsOf 5 = 1 := by kernel_rfl
theorem Tryd.cells3 : Tryd.prog.cellsOf 3 = 1 := by kernel_rfl

/-- A start at which the listed variables read as listed. -/
theorem start_met (os : Os) (args : Array Value) : laidMetH Tryd.prog laid3 ((World.laidAll Tryd.prog os laid3).forCall (fun _ _ => 0) ⟨#[], args, []⟩).memory := by
  rw [MakeChecks.laidMetH_plain _ _ _ (by kernel_rfl)]
  exact laidMet_laidAll _ (by kernel_rfl) (by kernel_rfl)

/-- one cell of type 37: a pointer -/
theorem handle_cell {W : World} {fuel : Nat} {cs : Array Value} {x : DataW Unit × List MemPlace} (h : DataW.trod (fun _ => ()) Tryd.prog W 0 (fun _ => true) false fuel 37 cs.toList = some x) :
    ∃ p : Option Addr, cs = #[.pointer p] ∧ ((p = .none ∧ x.1 = .agg [.nil]) ∨ ∃ a y, p = some a ∧ x.1 = .agg [.ptr y]) := by
  obtain ⟨y0, n, rfl, hl, h0⟩ := trod_struct1 Tryd.underlying37 h
  rw [Tryd.cells37] at hl
  obtain ⟨l⟩ := cs
  match l, hl with
  | [v], _ =>
    simp only [List.drop_zero, Tryd.cells35] at h0
    rcases DataW.trod_pointer Tryd.underlying35 h0 with ⟨e, hy⟩ | ⟨a, cs', y, m, _, e, hy, _⟩
    · simp at e
      subst e
      exact ⟨.none, rfl, Or.inl ⟨rfl, by rw [hy]⟩⟩
    · simp at e
      subst e
      exact ⟨some a, rfl, Or.inr ⟨a, y.1, rfl, by rw [hy]⟩⟩

theorem of_laid {W : World} (h : laidMetH Tryd.prog laid3 W) : ∃ z, Laid W z := by
  rw [MakeChecks.laidMetH_plain _ _ _ (by kernel_rfl)] at h
  obtain ⟨ps, ⟨ga, ta, csa, fa, pa, qa, hga, hta, hva, hda, ⟨gb, tb, csb, fb, pb, qb, hgb, htb, hvb, hdb, ⟨gc, tc, csc, fc, pc, qc, hgc, htc, hvc, hdc, _, _⟩, _⟩, _⟩, _, _⟩ := h
  obtain rfl := Option.some.inj (g4.symm.trans hga)
  obtain rfl := Option.some.inj (g0.symm.trans hgc)
  obtain rfl := Option.some.inj (t4.symm.trans hta)
  obtain rfl := Option.some.inj (t0.symm.trans htc)
  obtain ⟨p, rfl, hp⟩ := handle_cell hda
  obtain ⟨r, rfl, hr⟩ := handle_cell hdc
  have ca := World.var?_cell hga hva 0
  have cc := World.var?_cell hgc hvc 0
  rcases hp with ⟨_, e⟩ | ⟨z, _, rfl, _⟩
  · simp [Rows.laid_net_netip_z4] at e
  rcases hr with ⟨rfl, _⟩ | ⟨_, _, _, e⟩
  · exact ⟨z, by simpa using ca, by simpa using cc⟩
  · simp [Rows.laid_net_netip_z0] at e

section
variable {H : Type} {enc : TypeId × Value → H} {W : World} {base : Nat} {spare : Nat → Bool} {held : Bool}

/-- four cells of bytes -/
theorem four_down {fuel : Nat} {cs : List Value} {y : DataW H × List MemPlace} (h : DataW.trod enc Tryd.prog W base spare held fuel 24 cs = some y) : ∃ x : Nat → Nat, Bytes x ∧ cs = [.int .u8 (x 0), .int .u8 (x 1), .int .u8 (x 2), .int .u8 (x 3)] := by
  obtain ⟨xs, m, _, _, hl, hx, he⟩ := DataW.trod_array Tryd.underlying24 h
  rw [Tryd.cells24] at hl
  match cs, hl with
  | [c0, c1, c2, c3], _ =>
    have one : ∀ i, i < 4 → ∃ k : Nat, k < 256 ∧ [c0, c1, c2, c3][i]? = some (.int .u8 (k : Int)) := fun i hi => by
      have hi' := he i hi
      rw [Tryd.cells5, Nat.mul_one] at hi'
      have hs : ∃ y, xs[i]? = some y := ⟨xs[i], List.getElem?_eq_getElem (by omega)⟩
      obtain ⟨y, hy⟩ := hs
      rw [hy] at hi'
      obtain ⟨q, e1, _, hw⟩ := DataW.trod_int Tryd.underlying5 hi'
      have hb := bounds_u8 hw
      refine ⟨q.toNat, by omega, ?_⟩
      have e2 : ([c0, c1, c2, c3].drop i).take 1 = [.int .u8 q] := e1
      have e3 : [c0, c1, c2, c3][i]? = (([c0, c1, c2, c3].drop i).take 1)[0]? := by
        match i, hi with
        | 0, _ => rfl
        | 1, _ => rfl
        | 2, _ => rfl
        | 3, _ => rfl
      rw [e3, e2, show ((q.toNat : Nat) : Int) = q by omega]
      rfl
    obtain ⟨k0, b0, e0⟩ := one 0 (by omega)
    obtain ⟨k1, b1, e1⟩ := one 1 (by omega)
    obtain ⟨k2, b2, e2⟩ := one 2 (by omega)
    obtain ⟨k3, b3, e3⟩ := one 3 (by omega)
    simp at e0 e1 e2 e3
    subst e0 e1 e2 e3
    refine ⟨fun j => match j with | 0 => k0 | 1 => k1 | 2 => k2 | 3 => k3 | _ => 0, fun j => ?_, rfl⟩
    match j with
    | 0 => exact b0
    | 1 => exact b1
    | 2 => exact b2
    | 3 => exact b3
    | _ + 4 => exact (by decide : 0 < 256)

/-- a [][4]byte -/
theorem addrs_down {fuel : Nat} {v : Value} {y : DataW H × List MemPlace} (h : DataW.trod enc Tryd.prog W base spare held fuel 22 [v] = some y) :
    (v = .slice .none 0 0) ∨ ∃ (x : Addr) (n cap : Nat) (X : Nat → Nat → Nat), v = .slice (some x) n cap ∧ n ≤ maxLen ∧ (∀ i, i < n → Bytes (X i)) ∧ AddrCells W x n X := by
  rcases Deep.open_slice Tryd.underlying22 h with ⟨hcs, _⟩ | ⟨x, len, cap, m, k, D, Pl, hcs, _, hl, hm, hmm, _, hc⟩
  · exact Or.inl (by simpa using hcs)
  · right
    have hlm : len ≤ m := by rw [hmm]; split <;> omega
    have hin : Inhabited (Nat → Nat) := ⟨fun _ => 0⟩
    obtain ⟨X, hX⟩ := Deep.choose_lt (α := Nat → Nat) (n := m) (p := fun i x' => Bytes x' ∧ ∀ j, j < 4 → W.cell? (x.add (i * 4 + j)) = some (.int .u8 (x' j))) (fun i hi => by
      obtain ⟨cs', h1, h2⟩ := hc i hi
      obtain ⟨x', hb, rfl⟩ := four_down h2
      rw [Tryd.cells24] at h1
      obtain ⟨_, _, hcell⟩ := World.cells?_some h1
      refine ⟨x', hb, fun j hj => ?_⟩
      have := hcell j hj
      rw [Deep.add_add] at this
      rw [this]
      match j, hj with
      | 0, _ => rfl
      | 1, _ => rfl
      | 2, _ => rfl
      | 3, _ => rfl)
    refine ⟨x, len, cap, X, by simpa using hcs, Nat.le_trans hl hm, fun i hi => (hX i (by omega)).1, fun j hj => ?_⟩
    have := (hX (j / 4) (by omega)).2 (j % 4) (by omega)
    rw [show j / 4 * 4 + j % 4 = j by omega] at this
    exact this

/-- a []int -/
theorem ints_down {fuel : Nat} {v : Value} {y : DataW H × List MemPlace} (h : DataW.trod enc Tryd.prog W base spare held fuel 23 [v] = some y) :
    (v = .slice .none 0 0) ∨ ∃ (x : Addr) (n cap : Nat) (C : Nat → Int), v = .slice (some x) n cap ∧ n ≤ maxLen ∧ IntCells W x n C := by
  rcases Deep.open_slice1 Tryd.underlying23 Tryd.cells3 h with ⟨hcs, _⟩ | ⟨x, len, cap, m, k, V, D, Pl, hcs, _, hl, hm, hmm, _, hc⟩
  · exact Or.inl (by simpa using hcs)
  · right
    have hlm : len ≤ m := by rw [hmm]; split <;> omega
    obtain ⟨C, hC⟩ := Deep.choose_lt (α := Int) (n := m) (p := fun i q => W.cell? (x.add i) = some (.int .i64 q)) (fun i hi => by
      obtain ⟨h1, h2⟩ := hc i hi
      obtain ⟨q, e, _, _⟩ := DataW.trod_int Tryd.underlying3 h2
      simp at e
      exact ⟨q, by rw [h1, e]⟩)
    exact ⟨x, len, cap, C, by simpa using hcs, Nat.le_trans hl hm, fun j hj => hC j (by omega)⟩

/-- a [4]byte by value -/
theorem four_value {r : Reach} {b0 : Nat} {v : Value} {d : DataW H} {p : List MemPlace} (hv : Value.okWide Tryd.prog W r b0 24 v) (h : DataW.Trod enc Tryd.prog W base spare held 24 v d p) : ∃ x : Nat → Nat, Bytes x ∧ v = .agg #[.int .u8 (x 0), .int .u8 (x 1), .int .u8 (x 2), .int .u8 (x 3)] := by
  simp only [Value.okWide, Tryd.underlying24] at hv
  obtain ⟨cs, rfl, _, _⟩ := hv
  obtain ⟨fuel, hf⟩ := h
  obtain ⟨x, hb, e⟩ := four_down hf
  refine ⟨x, hb, ?_⟩
  have e2 : cs.toList = [.int .u8 (x 0), .int .u8 (x 1), .int .u8 (x 2), .int .u8 (x 3)] := by simpa [Value.cells] using e
  congr 1
  rw [← Array.toList_inj]
  exact e2
end
end Go.Proofs.Qxb6612599aDoor
