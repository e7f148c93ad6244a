/- The plain law: the greatest of the candidates. -/
import Derived.Test.Qxb6612755aW2
namespace Go.Proofs.Qxb6612755a

theorem le_upd (v : Int) (c : Option Int) : v ≤ upd v c := by
  cases c with
  | none => exact Int.le_refl _
  | some x => rw [upd_some]; split <;> omega
theorem upd_ge {v x : Int} {c : Option Int} (h : c = some x) : x ≤ upd v c := by
  subst h; rw [upd_some]; split <;> omega
theorem best_mono (p : Int) (c : Nat → Option Int) (i : Nat) : ∀ d, best p c i ≤ best p c (i + d)
  | 0 => Int.le_refl _
  | d + 1 => Int.le_trans (best_mono p c i d) (le_upd _ _)
theorem best_ge (p : Int) (c : Nat → Option Int) (m : Nat) : p ≤ best p c m := by
  have := best_mono p c 0 m
  rw [Nat.zero_add] at this
  exact this
theorem best_cand (p : Int) (c : Nat → Option Int) {m i : Nat} {x : Int} (hi : i < m) (h : c i = some x) : x ≤ best p c m := by
  have := best_mono p c (i + 1) (m - (i + 1))
  rw [show i + 1 + (m - (i + 1)) = m by omega] at this
  exact Int.le_trans (by rw [best_succ]; exact upd_ge h) this
theorem best_at (p : Int) (c : Nat → Option Int) : ∀ m, best p c m = p ∨ ∃ i, i < m ∧ c i = some (best p c m)
  | 0 => .inl rfl
  | m + 1 => by
    rw [best_succ]
    cases h : c m with
    | none =>
      rw [upd_none]
      rcases best_at p c m with e | ⟨i, hi, e⟩
      · exact .inl e
      · exact .inr ⟨i, by omega, e⟩
    | some x =>
      rw [upd_some]
      by_cases hl : best p c m < x
      · rw [if_pos hl]
        exact .inr ⟨m, by omega, h⟩
      · rw [if_neg hl]
        rcases best_at p c m with e | ⟨i, hi, e⟩
        · exact .inl e
        · exact .inr ⟨i, by omega, e⟩
/-- the greatest over the whole is the greater of those over the parts -/
theorem best_join (p : Int) (c : Nat → Option Int) (a : Nat) : ∀ b, best p c (a + b) = if best p c a ≥ best p (fun i => c (a + i)) b then best p c a else best p (fun i => c (a + i)) b
  | 0 => by
    have h := best_ge p c a
    show best p c a = _
    rw [show best p (fun i => c (a + i)) 0 = p from rfl, if_pos h]
  | b + 1 => by
    have ih := best_join p c a b
    rw [← Nat.add_assoc, best_succ, best_succ, ih]
    cases h : c (a + b) with
    | none => rw [upd_none, upd_none]
    | some x =>
      rw [upd_some, upd_some]
      repeat' split
      all_goals omega
theorem best_congr {p : Int} {c d : Nat → Option Int} : ∀ {m : Nat}, (∀ i, i < m → c i = d i) → best p c m = best p d m
  | 0, _ => rfl
  | m + 1, h => by rw [best_succ, best_succ, best_congr (fun i hi => h i (by omega)), h m (by omega)]
end Go.Proofs.Qxb6612755a
