import Derived.Test.Qxb6612575aW1
import Derived.Deep.DeepFit
namespace Go.Proofs.Qxb6612575a
open Go.RowKit

/-- a []ZZB1Named as it lies: its value's parts, and its names and texts by index -/
structure Nm where
  a : Option Addr
  n : Nat
  cap : Nat
  s : Nat → ByteArray
  t : Nat → ByteArray

/-- the names and texts of a []ZZB1Named, by index -/
def NamedAt (w : World) (a : Option Addr) (n : Nat) (s t : Nat → ByteArray) : Prop :=
  ∀ j, j < n → ∃ b o, a = some ⟨b, o, none⟩ ∧ w.cell? ⟨b, o + j * 2, none⟩ = some (.string (s j)) ∧ w.cell? ⟨b, o + j * 2 + 1, none⟩ = some (.string (t j)) ∧ (s j).size ≤ maxLen ∧ (t j).size ≤ maxLen

/-- a []ZZB1SetIn as it lies -/
def SetsAt (w : World) (a : Option Addr) (n : Nat) (f m : Nat → Nm) : Prop :=
  ∀ i, i < n → ∃ b o, a = some ⟨b, o, none⟩ ∧ w.cell? ⟨b, o + i * 2, none⟩ = some (.slice (f i).a (f i).n (f i).cap) ∧ w.cell? ⟨b, o + i * 2 + 1, none⟩ = some (.slice (m i).a (m i).n (m i).cap) ∧
    (f i).n ≤ maxLen ∧ (m i).n ≤ maxLen ∧ NamedAt w (f i).a (f i).n (f i).s (f i).t ∧ NamedAt w (m i).a (m i).n (m i).s (m i).t

set_option maxHeartbeats 400000 in
theorem namedBytes_any (acc : Int) (a : Option Addr) (n cap : Nat) (s t : Nat → ByteArray) (w : World) (hn : n ≤ maxLen) (h : NamedAt w a n s t) :
    Calls Try.prog 10 #[.int .i64 acc, .slice a n cap] w fun e w' => (∃ r, e = .returned (.int .i64 r)) ∧ w' = w := by
  unfold maxLen at hn
  go_enter Try.func10, Try.ntmps10
  go_wp2_with (first | (go_at_call 9; refine (words_any _ _ _ (by omega) (by omega) _).mono ?_; rintro e w' ⟨⟨r, rfl⟩, rfl⟩))
  go_loop [0, 5] (fun r i => ∃ k : Nat, k ≤ n ∧ i = .int .i64 k ∧ ∃ q : Int, r = .int .i64 q) (fun _ i => n - (intOf i).toNat)
  case atStart => exact ⟨0, Nat.zero_le _, rfl, _, rfl⟩
  case round =>
    obtain ⟨k, hk, rfl, q, rfl⟩ := hrel
    by_cases hlt : k < n
    · obtain ⟨b, o, rfl, h1, h2, h3, h4⟩ := h k hlt
      go_wp2_with (first | (go_at_call 20; refine (add_any _ _ _).mono ?_; rintro e w' ⟨⟨r, rfl⟩, rfl⟩))
      · go_round
        case rel => exact ⟨k + 1, by omega, by go_num, _, rfl⟩
        case measure => simp [intOf]; omega
      · go_ret
        exact ⟨⟨_, rfl⟩, rfl⟩
    · go_wp2
      go_ret
      exact ⟨⟨_, rfl⟩, rfl⟩

set_option maxHeartbeats 400000 in
theorem setsBytes_any (acc : Int) (a : Option Addr) (n cap : Nat) (f m : Nat → Nm) (w : World) (hn : n ≤ maxLen) (h : SetsAt w a n f m) :
    Calls Try.prog 5 #[.int .i64 acc, .slice a n cap] w fun e w' => (∃ r, e = .returned (.int .i64 r)) ∧ w' = w := by
  unfold maxLen at hn
  go_enter Try.func5, Try.ntmps5
  go_wp2_with (first | (go_at_call 9; refine (words_any _ _ _ (by omega) (by omega) _).mono ?_; rintro e w' ⟨⟨r, rfl⟩, rfl⟩))
  go_loop [0, 5] (fun r i => ∃ k : Nat, k ≤ n ∧ i = .int .i64 k ∧ ∃ q : Int, r = .int .i64 q) (fun _ i => n - (intOf i).toNat)
  case atStart => exact ⟨0, Nat.zero_le _, rfl, _, rfl⟩
  case round =>
    obtain ⟨k, hk, rfl, q, rfl⟩ := hrel
    by_cases hlt : k < n
    · obtain ⟨b, o, rfl, h1, h2, h3, h4, h5, h6⟩ := h k hlt
      have c1 := fun acc => namedBytes_any acc _ _ (f k).cap _ _ _ h3 h5
      have c2 := fun acc => namedBytes_any acc _ _ (m k).cap _ _ _ h4 h6
      go_wp2_with (first | (go_at_call 10; go_fit (c1 _); rintro e w' ⟨⟨r, rfl⟩, rfl⟩) | (go_at_call 10; go_fit (c2 _); rintro e w' ⟨⟨r, rfl⟩, rfl⟩))
      · go_round
        case rel => exact ⟨k + 1, by omega, by go_num, _, rfl⟩
        case measure => simp [intOf]; omega
      · go_ret
        exact ⟨⟨_, rfl⟩, rfl⟩
    · go_wp2
      go_ret
      exact ⟨⟨_, rfl⟩, rfl⟩
end Go.Proofs.Qxb6612575a
