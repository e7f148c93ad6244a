/- A law: copy(d, s) where d is a whole row of the call's own, as long as s, elements of any number of cells. -/
import Derived.Laws.CopyRow
import Derived.Laws.CopyOwn
import Derived.Deep.OwnRows
import Derived.WalkKit
namespace Go.Proofs.Qxb6612755a
open Go Go.RowKit

theorem run_copy_all {P : Program} (w : World) (dT sT ty elem : TypeId) (size : Nat) (hu : P.underlying dT = some (.slice elem)) (hsz : (P.info? elem).map (·.size) = some size)
    (g n : Nat) (sp : Option Addr) (sCap : Nat) (t : TypeId) (f F : Nat → Value) (hrow : w.rowIs g t (n * size) f)
    (hsrc : 0 < n * size → ∃ ad, sp = some ad ∧ ∀ j, j < n * size → w.cell? (ad.add j) = some (F j)) (h1 : ∀ j, j < n * size → (F j).oneCell' = true) :
    ∃ w', (Builtin.copy_ #[dT, sT] ty #[.slice (some ⟨g, 0, .none⟩) n n, .slice sp n sCap]).run P w = .ok (goInt n) w' ∧ w'.rowIs g t (n * size) F ∧ w.grownBy w' (some g) := by
  cases hq : P.info? elem with
  | none => simp [hq] at hsz
  | some i =>
    have hi : i.size = size := by simpa [hq] using hsz
    have hmin : Nat.min n n = n := Nat.min_self n
    by_cases h0 : n * size = 0
    · refine ⟨w, ?_, hrow.congr (fun j hj => by omega), World.grownBy.refl _ _⟩
      have hl : ∀ (x : Addr), (loadCells x 0).run P w = .ok #[] w := fun x => by simpa using run_loadCells_list (P := P) w x [] (by simp)
      cases sp <;> simp [Builtin.copy_, run_underlying hu, Builtin.lenOf, Builtin.firstCells, sizeOf, typeInfo, hq, hi, hmin, h0, storeCells, hl]
    · obtain ⟨ad, rfl, hc⟩ := hsrc (by omega)
      obtain ⟨c, hg, hn, _⟩ := hrow
      have hlen : ((List.range (n * size)).map F).length = n * size := by simp
      have hl := run_loadCells_list (P := P) w ad ((List.range (n * size)).map F) (fun j v hv => by
        have hj : j < n * size := by
          have := (List.getElem?_eq_some_iff.1 hv).1
          simpa using this
        rw [hc j hj]
        simpa [hj] using hv)
      rw [hlen] at hl
      have hst := run_storeCells_at (P := P) g 0 t ((List.range (n * size)).map F) 0 c w hg (by simp [hn]) (fun v hv => by
        obtain ⟨j, hj, rfl⟩ := List.mem_map.1 hv
        exact h1 j (List.mem_range.1 hj))
      refine ⟨w.setRow g ((List.range (n * size)).map F).toArray, ?_, ?_, ?_⟩
      · have hd : List.drop (n * size) c.toList = [] := List.drop_eq_nil_of_le (by simp [hn])
        simp [Builtin.copy_, run_underlying hu, Builtin.lenOf, Builtin.firstCells, sizeOf, typeInfo, hq, hi, hl, hst, hd]
      · exact ⟨_, setRow_heap w g c _ t _ hg, by simp, fun j hj => by simp [hj]⟩
      · exact ⟨rfl, rfl, rfl, by simp [World.setRow], fun k _ hk => setRow_other w g k _ (fun e => hk (by rw [e]))⟩

/-- at the operation -/
theorem wpList_copy_all {P : Program} (w : World) {ops : Array Oper} {rest : List Oper} {o : Oper} {a : Act} {Q : Exit → Act → World → Prop} (hgd : o.guard = .none) (d s : Operand) (dT sT : TypeId)
    (ho : o.op = .call { callee := .builtin .copy, args := #[d, s], argTypes := #[dT, sT] }) (elem : TypeId) (size : Nat) (hu : P.underlying dT = some (.slice elem)) (hsz : (P.info? elem).map (·.size) = some size)
    (g n : Nat) (sp : Option Addr) (sCap : Nat) (hd : a.eval d = .slice (some ⟨g, 0, .none⟩) n n) (hs : a.eval s = .slice sp n sCap) (t : TypeId) (f F : Nat → Value) (hrow : w.rowIs g t (n * size) f)
    (hsrc : 0 < n * size → ∃ ad, sp = some ad ∧ ∀ j, j < n * size → w.cell? (ad.add j) = some (F j)) (h1 : ∀ j, j < n * size → (F j).oneCell' = true)
    (h : ∀ w', w'.rowIs g t (n * size) F → w.grownBy w' (some g) → wpList P ops Q rest (a.put o.dst (goInt n)) w') : wpList P ops Q (o :: rest) a w := by
  refine wpList_plain hgd fun K hK => ?_
  obtain ⟨w', hrun, r1, r2⟩ := run_copy_all (P := P) w dT sT o.type elem size hu hsz g n sp sCap t f F hrow hsrc h1
  unfold Oper.wp
  simp [execOp, ho, resolve, invoke, builtin, hd, hs, hrun, Result.andThen]
  exact hK _ _ (h w' r1 r2)

/-- .. elements of one cell -/
theorem wpList_copy_one {P : Program} (w : World) {ops : Array Oper} {rest : List Oper} {o : Oper} {a : Act} {Q : Exit → Act → World → Prop} (hgd : o.guard = .none) (d s : Operand) (dT sT : TypeId)
    (ho : o.op = .call { callee := .builtin .copy, args := #[d, s], argTypes := #[dT, sT] }) (elem : TypeId) (hu : P.underlying dT = some (.slice elem)) (hsz : (P.info? elem).map (·.size) = some 1)
    (g n : Nat) (sp : Option Addr) (sCap : Nat) (hd : a.eval d = .slice (some ⟨g, 0, .none⟩) n n) (hs : a.eval s = .slice sp n sCap) (t : TypeId) (f F : Nat → Value) (hrow : w.rowIs g t n f)
    (hsrc : 0 < n → ∃ ad, sp = some ad ∧ ∀ j, j < n → w.cell? (ad.add j) = some (F j)) (h1 : ∀ j, j < n → (F j).oneCell' = true)
    (h : ∀ w', w'.rowIs g t n F → w.grownBy w' (some g) → wpList P ops Q rest (a.put o.dst (goInt n)) w') : wpList P ops Q (o :: rest) a w :=
  wpList_copy_all w hgd d s dT sT ho elem 1 hu hsz g n sp sCap hd hs t f F (by rw [Nat.mul_one]; exact hrow) (by rw [Nat.mul_one]; exact hsrc) (by rw [Nat.mul_one]; exact h1) (fun w' r1 r2 => h w' (by rw [Nat.mul_one] at r1; exact r1) r2)
end Go.Proofs.Qxb6612755a
