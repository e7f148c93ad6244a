import Derived.Test.Qxb6612575aW2
namespace Go.Proofs.Qxb6612575a
open Go.RowKit

/-- how many flags and metadata the first i sets hold -/
def tot (f m : Nat → Nm) : Nat → Nat
  | 0 => 0
  | i + 1 => tot f m i + (f i).n + (m i).n

/-- it returns a bool; if true, then p -/
def SaysIf (e : Ending) (p : Prop) : Prop := ∃ b, e = .returned (.bool b) ∧ (b = true → p)
theorem SaysIf.no {p : Prop} : SaysIf (.returned (.bool false)) p := ⟨false, rfl, fun h => by cases h⟩
theorem SaysIf.yes {p : Prop} (h : p) : SaysIf (.returned (.bool true)) p := ⟨true, rfl, fun _ => h⟩

theorem tot_step (f m : Nat → Nm) (k : Nat) (z : Int) (h : (tot f m k : Int) + (f k).n + (m k).n ≤ z) : (tot f m (k + 1) : Int) ≤ z := by
  simp only [tot]; omega

set_option maxRecDepth 100000 in
set_option maxHeartbeats 2000000 in
theorem zzBytes_any (a : Option Addr) (n cap : Nat) (cut : Int) (f m : Nat → Nm) (w : World) (hn : n ≤ maxLen) (h : SetsAt w a n f m) :
    Calls Try.prog 4 #[.slice a n cap, .int .i64 cut] w fun e w' => SaysIf e (tot f m n ≤ 1048576 ∧ n ≤ 1048576) ∧ w' = w := by
  unfold maxLen at hn
  go_enter Try.func4, Try.ntmps4
  go_wp2
  · go_ret; exact ⟨SaysIf.no, rfl⟩
  have hn' : n ≤ 1048576 := by omega
  go_loop [5, 6] (fun r i => ∃ k : Nat, k ≤ n ∧ i = .int .i64 k ∧ ∃ q : Int, r = .int .i64 q ∧ (tot f m k : Int) ≤ q ∧ q ≤ 1048576) (fun _ i => n - (intOf i).toNat)
  case atStart => exact ⟨0, Nat.zero_le _, rfl, _, rfl, by simp [tot], by omega⟩
  case round =>
    obtain ⟨k, hk, rfl, q, rfl, hq1, hq2⟩ := hrel
    by_cases hlt : k < n
    · obtain ⟨b, o, rfl, h1, h2, h3, h4, h5, h6⟩ := h k hlt
      unfold maxLen at h3 h4
      have hq0 : 0 ≤ q := by omega
      go_wp2
      · go_ret; exact ⟨SaysIf.no, rfl⟩
      · go_ret; exact ⟨SaysIf.no, rfl⟩
      go_loop [5, 7] (fun r i => ∃ j : Nat, j ≤ (f k).n ∧ i = .int .i64 j ∧ ∃ z : Int, r = .int .i64 z ∧ q + (f k).n ≤ z ∧ z ≤ 1048576) (fun _ i => (f k).n - (intOf i).toNat)
      case atStart => exact ⟨0, Nat.zero_le _, rfl, _, rfl, by omega, by omega⟩
      case round =>
        obtain ⟨j, hj, rfl, z, rfl, hz1, hz2⟩ := hrel
        by_cases hjt : j < (f k).n
        · obtain ⟨b', o', e1, g1, g2, g3, g4⟩ := h5 j hjt
          rw [e1] at h1
          unfold maxLen at g3 g4
          go_wp2
          · go_ret; exact ⟨SaysIf.no, rfl⟩
          · go_ret; exact ⟨SaysIf.no, rfl⟩
          · go_ret; exact ⟨SaysIf.no, rfl⟩
          · go_ret; exact ⟨SaysIf.no, rfl⟩
          go_round
          case rel => exact ⟨j + 1, by omega, by go_num, _, rfl, by omega, by omega⟩
          case measure => simp [intOf]; omega
        · go_wp2
          · go_ret; exact ⟨SaysIf.no, rfl⟩
          · go_ret; exact ⟨SaysIf.no, rfl⟩
          go_loop [5, 8] (fun r i => ∃ j : Nat, j ≤ (m k).n ∧ i = .int .i64 j ∧ ∃ z : Int, r = .int .i64 z ∧ q + (f k).n + (m k).n ≤ z ∧ z ≤ 1048576) (fun _ i => (m k).n - (intOf i).toNat)
          case atStart => exact ⟨0, Nat.zero_le _, rfl, _, rfl, by omega, by omega⟩
          case round =>
            obtain ⟨j, hj, rfl, z, rfl, hz1, hz2⟩ := hrel
            by_cases hjt : j < (m k).n
            · obtain ⟨b', o', e1, g1, g2, g3, g4⟩ := h6 j hjt
              rw [e1] at h2
              unfold maxLen at g3 g4
              go_wp2
              · go_ret; exact ⟨SaysIf.no, rfl⟩
              · go_ret; exact ⟨SaysIf.no, rfl⟩
              · go_ret; exact ⟨SaysIf.no, rfl⟩
              · go_ret; exact ⟨SaysIf.no, rfl⟩
              go_round
              case rel => exact ⟨j + 1, by omega, by go_num, _, rfl, by omega, by omega⟩
              case measure => simp [intOf]; omega
            · go_wp2
              go_round
              case rel => exact ⟨k + 1, by omega, by go_num, _, rfl, tot_step f m k _ (by omega), by omega⟩
              case measure => simp [intOf]; omega
    · go_wp2
      go_ret
      have : k = n := by omega
      subst this
      exact ⟨SaysIf.yes (by omega), rfl⟩
end Go.Proofs.Qxb6612575a
