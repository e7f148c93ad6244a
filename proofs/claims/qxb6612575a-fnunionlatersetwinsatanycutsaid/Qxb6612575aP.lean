/- THE STATEMENT: FnUnionLaterSetWinsAtAnyCut. -/
import Derived.Test.Qxb6612575aL1
import Derived.ProofKit
import Derived.OpenShut
import Derived.ShutString
import Derived.ChangeOld
import Derived.Below
import Derived.Deep.SlicePairs
namespace Go.Proofs.Qxb6612575a
open Go.ChangeShapes Go.WideShapes Go.ChangeAt Go.RowKit
open Go.ChangeMaps (open_string shut_string)

theorem own : ownKnob Try.prog.godebug = .none := by kernel_rfl
theorem laidOut : laidOutB Try.prog = true := by kernel_rfl
theorem Try.cells9 : Try.prog.cellsOf 9 = 1 := by kernel_rfl
theorem Try.cells30 : Try.prog.cellsOf 30 = 1 := by kernel_rfl
theorem Try.cells32 : Try.prog.cellsOf 32 = 2 := by kernel_rfl
theorem Try.cells34 : Try.prog.cellsOf 34 = 2 := by kernel_rfl

section
variable {H : Type} {enc : TypeId × Value → H} {W : World} {base : Nat} {spare : Nat → Bool} {held : Bool}

theorem add_eq {a : Addr} {k : Nat} {v : Value} {w : World} (h : w.cell? (a.add 0) = some v) : ∃ b o, a = ⟨b, o, .none⟩ ∧ a.add k = ⟨b, o + k, .none⟩ := by
  obtain ⟨b, o, spot⟩ := a
  have hs : spot = .none := by simpa [Addr.add] using World.cell?_spot h
  subst hs
  exact ⟨b, o, rfl, add_plain b o k⟩

theorem named_down {fuel : Nat} {v : Value} {y : DataW H × List MemPlace} (h : DataW.trod enc Try.prog W base spare held fuel 30 [v] = some y) : ∃ x : Nm, v = .slice x.a x.n x.cap ∧ x.n ≤ maxLen ∧ NamedAt W x.a x.n x.s x.t := by
  rcases Deep.open_slice_pairs Try.underlying30 Try.underlying34 Try.cells34 rfl rfl Try.cells9 Try.cells9 h with ⟨hcs, _⟩ | ⟨a, len, cap, m, n, V0, V1, D0, D1, P0, P1, hcs, _, hl, hm, hmm, _, hc⟩
  · exact ⟨⟨.none, 0, 0, fun _ => ByteArray.empty, fun _ => ByteArray.empty⟩, by simpa using hcs, Nat.zero_le _, fun j hj => by simp at hj⟩
  · have hlm : len ≤ m := by rw [hmm]; split <;> omega
    obtain ⟨st, hst⟩ := Deep.choose_lt (α := ByteArray × ByteArray) (n := m) (p := fun i q => W.cell? (a.add (i * 2)) = some (.string q.1) ∧ W.cell? (a.add (i * 2 + 1)) = some (.string q.2) ∧ q.1.size ≤ maxLen ∧ q.2.size ≤ maxLen) (fun i hi => by
      obtain ⟨c0, c1, t0, t1⟩ := hc i hi
      obtain ⟨s, e0, _, w0⟩ := DataW.trod_string Try.underlying9 t0
      obtain ⟨t, e1, _, w1⟩ := DataW.trod_string Try.underlying9 t1
      simp at e0 e1
      rw [e0] at c0
      rw [e1] at c1
      exact ⟨(s, t), c0, c1, w0, w1⟩)
    refine ⟨⟨some a, len, cap, fun i => (st i).1, fun i => (st i).2⟩, by simpa using hcs, by simp only; omega, fun j hj => ?_⟩
    have hj' : j < len := hj
    have g0 := (hst 0 (by omega)).1
    rw [Nat.zero_mul] at g0
    obtain ⟨c0, c1, w0, w1⟩ := hst j (by omega)
    obtain ⟨b, o, ea, e0⟩ := add_eq (k := j * 2) g0
    obtain ⟨b', o', ea', e1⟩ := add_eq (k := j * 2 + 1) g0
    rw [ea] at ea'
    cases ea'
    rw [e0] at c0
    rw [e1] at c1
    exact ⟨b, o, by rw [ea], c0, by simpa [Nat.add_assoc] using c1, w0, w1⟩

theorem sets_down {fuel : Nat} {v : Value} {y : DataW H × List MemPlace} (h : DataW.trod enc Try.prog W base spare held fuel 22 [v] = some y) :
    (v = .slice .none 0 0) ∨ ∃ (a : Addr) (n cap : Nat) (f m : Nat → Nm), v = .slice (some a) n cap ∧ n ≤ cap ∧ cap ≤ maxLen ∧ SetsAt W (some a) n f m := by
  rcases Deep.open_slice_pairs Try.underlying22 Try.underlying32 Try.cells32 rfl rfl Try.cells30 Try.cells30 h with ⟨hcs, _⟩ | ⟨a, len, cap, m, n, V0, V1, D0, D1, P0, P1, hcs, _, hl, hm, hmm, _, hc⟩
  · exact Or.inl (by simpa using hcs)
  · right
    have hlm : len ≤ m := by rw [hmm]; split <;> omega
    have hin : Inhabited Nm := ⟨⟨.none, 0, 0, fun _ => ByteArray.empty, fun _ => ByteArray.empty⟩⟩
    obtain ⟨f, hf⟩ := Deep.choose_lt (α := Nm) (n := m) (p := fun i x => V0 i = .slice x.a x.n x.cap ∧ x.n ≤ maxLen ∧ NamedAt W x.a x.n x.s x.t) (fun i hi => named_down (hc i hi).2.2.1)
    obtain ⟨g, hg⟩ := Deep.choose_lt (α := Nm) (n := m) (p := fun i x => V1 i = .slice x.a x.n x.cap ∧ x.n ≤ maxLen ∧ NamedAt W x.a x.n x.s x.t) (fun i hi => named_down (hc i hi).2.2.2)
    refine ⟨a, len, cap, f, g, by simpa using hcs, hl, hm, fun i hi => ?_⟩
    have g0 := (hc 0 (by omega)).1
    rw [Nat.zero_mul] at g0
    obtain ⟨c0, c1, _, _⟩ := hc i (by omega)
    obtain ⟨b, o, ea, e0⟩ := add_eq (k := i * 2) g0
    obtain ⟨b', o', ea', e1⟩ := add_eq (k := i * 2 + 1) g0
    rw [ea] at ea'
    cases ea'
    obtain ⟨p1, p2, p3⟩ := hf i (by omega)
    obtain ⟨q1, q2, q3⟩ := hg i (by omega)
    rw [e0, p1] at c0
    rw [e1, q1] at c1
    exact ⟨b, o, by rw [ea], c0, by simpa [Nat.add_assoc] using c1, p2, q2, p3, q3⟩
end

theorem walk {H : Type} {enc : TypeId × Value → H} {fuel : Nat} {v : Value} {y : DataW H × List MemPlace} (cut : Int) (W : World) (h : DataW.trod enc Try.prog W 0 (fun _ => true) true fuel 22 [v] = some y) (wc : (Lit.int .i64 cut).wf = true) :
    Calls Try.prog 3 #[v, .int .i64 cut] W fun e w' => e = .returned (.bool true) ∧ Below W.heap.size W w' := by
  rcases sets_down h with rfl | ⟨a, n, cap, f, m, rfl, hl, hm, hs⟩
  · exact law_walk_nil cut W
  · by_cases hn : n = 0
    · subst hn
      exact law_walk_zero a cap cut W
    · obtain ⟨b, o, e, _⟩ := hs 0 (by omega)
      cases e
      exact law_walk b o n cap f m cut W (Nat.le_trans hl hm) hl hm hs wc

set_option maxRecDepth 100000 in
theorem lifted (os : Os) (started : os.Started) (H : Type) (enc : TypeId × Value → H) :
    ReturnsInHanded {} Try.checked os 3 .any (Rows.fnUnionLaterSetWinsAtAnyCutSpec.pre6 enc Try.prog Try.f3 Rows.fnUnionLaterSetWinsAtAnyCutRow.domain false) (Rows.fnUnionLaterSetWinsAtAnyCutSpec.post enc Try.prog Try.f3 false true false false) := by
  refine returnsInHanded_of_change (C := Try.checked) own started (by kernel_rfl) Try.func3
    (ChangeSpec.witness6 (enc := enc) (C := Try.checked) false ⟨#[], #[.slice .none 0 0, .int .i64 0], []⟩ 8 (by kernel_rfl) (by kernel_rfl) (by kernel_rfl) (by kernel_rfl)) ?_
  intro W base args ds gs before hval0 hW hcnd _
  have hval : ∀ (j : Nat) t v, Try.f3.params[j]? = some t → args[j]? = some v → Value.okWide Try.prog W .any base t v := hval0
  have hW' := hW
  obtain ⟨p, q, hA0, hV, rfl, hfz, hnd⟩ := hW
  have hA : DataW.TrodAll enc Try.prog W 0 (fun _ => true) true Try.f3.params.toList args.toList ds p := hA0
  rw [Try.params3] at hA hval
  obtain ⟨v0, vs0, d0, ds0, p0, q0, hargs, rfl, rfl, h0, r0⟩ := trodAll_cons hA
  obtain ⟨v1, vs1, d1, ds1, p1, q1, rfl, rfl, rfl, h1, r1⟩ := trodAll_cons r0
  obtain ⟨rfl, rfl, rfl⟩ := trodAll_nil r1
  obtain rfl : args = #[v0, v1] := by cases args; simp_all
  obtain ⟨rfl, rfl⟩ := trodVars_none hV
  obtain ⟨a0, len0, cap0, rfl⟩ := okWide_slice Try.underlying22 (hval 0 22 v0 rfl rfl)
  have k0 := h0
  have lt0 : ∀ x ∈ p0, x.block < W.heap.size := by obtain ⟨m, hm⟩ := k0; exact DataW.trod_lt m _ _ _ hm
  obtain ⟨a1, rfl, rfl, rfl, w1⟩ := open_int Try.underlying3 (hval 1 3 v1 rfl rfl) h1
  clear hA0 hval0
  obtain ⟨fuel, hf⟩ := h0
  refine (walk a1 W (by simpa [Value.cells] using hf) w1).mono fun e W' ⟨he, bel⟩ => ?_
  subst he
  exact ⟨_, rfl, _, _, _, [], _, [], hW', trodAll_mk1 (shut_bool Try.underlying4 _), (trodAll_cons_mk (Below.trod laidOut (by kernel_rfl) (of_decide_eq_true (by kernel_rfl)) k0 bel lt0) (trodAll_cons_mk (shut_int Try.underlying3 w1) trodAll_mk0)), rfl, bel.frame _, fun h => by cases h⟩

theorem over : Rows.fnUnionLaterSetWinsAtAnyCutRow.holds Try.pinned (OpenSpec.ofChange Rows.fnUnionLaterSetWinsAtAnyCutSpec) :=
  OpenClaim.holds_of_wide 3 Try.f3 rfl rfl rfl rfl rfl rfl rfl ⟨rfl, rfl, rfl, rfl, rfl⟩ rfl rfl rfl rfl rfl (by kernel_rfl) Try.func3 (by kernel_rfl)
    (of_decide_eq_true (by kernel_rfl)) (by unfold Func.isWrapper; first | (rw [if_pos (by decide +kernel)]; kernel_rfl) | (rw [if_neg (by decide +kernel)]; exact ⟨rfl, rfl⟩))
    (fun os started H enc _ => lifted os started H enc)

theorem proved : Rows.FnUnionLaterSetWinsAtAnyCutSaid := over
#print axioms proved
end Go.Proofs.Qxb6612575a
