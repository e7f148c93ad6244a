/- zzPrefixHolds (7), the size guards (5, 8). -/
import Derived.Test.Qxb6612599aDoorW4
namespace Go.Proofs.Qxb6612599aDoor
open Go.RowKit
attribute [local go_sem ↓] Go.wp_at_zero Go.wp_at_succ

set_option maxRecDepth 100000 in
set_option maxHeartbeats 400000 in
theorem be32_ex (x : Nat → Nat) (hx : Bytes x) (w : World) :
    Calls Tryd.prog 14 #[.agg #[.int .u8 (x 0), .int .u8 (x 1), .int .u8 (x 2), .int .u8 (x 3)]] w fun e w' => e = .returned (.int .u32 (val x : Int)) ∧ w' = w.alloc (.cells #[.int .u8 (x 0), .int .u8 (x 1), .int .u8 (x 2), .int .u8 (x 3)] 24) := by
  have h0 := hx 0; have h1 := hx 1; have h2 := hx 2; have h3 := hx 3
  have HE : Hid _ := be_eq hx
  go_enter Tryd.func14, Tryd.ntmps14
  go_wp2
  go_ret
  exact ⟨by rw [← HE.out]; rfl, rfl⟩

set_option maxRecDepth 100000 in
set_option maxHeartbeats 1000000 in
theorem prefHolds_some (x a : Nat → Nat) (hx : Bytes x) (ha : Bytes a) (k : Nat) (hk : k ≤ 32) (hk0 : 0 < k) (w : World) :
    Calls Tryd.prog 7 #[.agg #[.int .u8 (x 0), .int .u8 (x 1), .int .u8 (x 2), .int .u8 (x 3)], .int .i64 (k : Int), .agg #[.int .u8 (a 0), .int .u8 (a 1), .int .u8 (a 2), .int .u8 (a 3)]] w fun e w' => e = .returned (.bool (((((val x ^^^ val a : Nat) : Int) / 2 ^ (32 - k)) == 0) : Bool)) ∧ Below w.heap.size w w' := by
  have hxor : bits .xor .u32 (val x : Int) (val a : Int) = ((val x ^^^ val a : Nat) : Int) := u32_xor_nat _ _ (val_lt hx) (val_lt ha)
  have d1 : decide ((k : Int) < 0) = false := by simp
  have d2 : decide (32 < (k : Int)) = false := by simp; omega
  have d3 : ((k : Int) == 0) = false := by simp; omega
  go_enter Tryd.func7, Tryd.ntmps7
  go_wp2
  go_region_held3 (fun w' => w'.cell? ⟨w.heap.size, 0, .none⟩ = some (.int .u8 (x 0)) ∧ w'.cell? ⟨w.heap.size, 1, .none⟩ = some (.int .u8 (x 1)) ∧ w'.cell? ⟨w.heap.size, 2, .none⟩ = some (.int .u8 (x 2)) ∧ w'.cell? ⟨w.heap.size, 3, .none⟩ = some (.int .u8 (x 3)) ∧ w'.cell? ⟨w.heap.size + 1, 0, .none⟩ = some (.int .u8 (a 0)) ∧ w'.cell? ⟨w.heap.size + 1, 1, .none⟩ = some (.int .u8 (a 1)) ∧ w'.cell? ⟨w.heap.size + 1, 2, .none⟩ = some (.int .u8 (a 2)) ∧ w'.cell? ⟨w.heap.size + 1, 3, .none⟩ = some (.int .u8 (a 3))) (go_keep)
    (first | (go_at_call 14; go_fit (be32_ex x hx _); rintro e w' ⟨rfl, rfl⟩) | (go_at_call 14; go_fit (be32_ex a ha _); rintro e w' ⟨rfl, rfl⟩))
  go_wp2
  go_ret
  exact ⟨rfl, (Below.al (Below.al (Below.al (Below.al (Below.refl _ _) _) _) _) _).drew⟩

set_option maxRecDepth 100000 in
set_option maxHeartbeats 400000 in
theorem prefHolds_zero (x a : Nat → Nat) (w : World) :
    Calls Tryd.prog 7 #[.agg #[.int .u8 (x 0), .int .u8 (x 1), .int .u8 (x 2), .int .u8 (x 3)], .int .i64 0, .agg #[.int .u8 (a 0), .int .u8 (a 1), .int .u8 (a 2), .int .u8 (a 3)]] w fun e w' => e = .returned (.bool true) ∧ Below w.heap.size w w' := by
  go_enter Tryd.func7, Tryd.ntmps7
  go_wp2
  go_ret
  exact ⟨rfl, Below.al (Below.al (Below.refl _ _) _) _⟩

set_option maxRecDepth 100000 in
set_option maxHeartbeats 400000 in
theorem prefHolds_out (x a : Nat → Nat) (c : Int) (hc : c < 0 ∨ 32 < c) (w : World) :
    Calls Tryd.prog 7 #[.agg #[.int .u8 (x 0), .int .u8 (x 1), .int .u8 (x 2), .int .u8 (x 3)], .int .i64 c, .agg #[.int .u8 (a 0), .int .u8 (a 1), .int .u8 (a 2), .int .u8 (a 3)]] w fun e w' => e = .returned (.bool false) ∧ Below w.heap.size w w' := by
  rcases hc with hc | hc
  · have d1 : decide (c < 0) = true := by simp; omega
    go_enter Tryd.func7, Tryd.ntmps7
    go_wp2
    go_ret
    exact ⟨rfl, Below.al (Below.al (Below.refl _ _) _) _⟩
  · have d1 : decide (c < 0) = false := by simp; omega
    have d2 : decide (32 < c) = true := by simp; omega
    go_enter Tryd.func7, Tryd.ntmps7
    go_wp2
    go_ret
    exact ⟨rfl, Below.al (Below.al (Below.refl _ _) _) _⟩

theorem prefHolds_any (x a : Nat → Nat) (hx : Bytes x) (ha : Bytes a) (c : Int) (w : World) :
    Calls Tryd.prog 7 #[.agg #[.int .u8 (x 0), .int .u8 (x 1), .int .u8 (x 2), .int .u8 (x 3)], .int .i64 c, .agg #[.int .u8 (a 0), .int .u8 (a 1), .int .u8 (a 2), .int .u8 (a 3)]] w fun e w' => e = .returned (.bool (holds x c a)) ∧ Below w.heap.size w w' := by
  by_cases h : 0 ≤ c ∧ c ≤ 32
  · obtain ⟨k, rfl⟩ : ∃ k : Nat, c = k := ⟨c.toNat, by omega⟩
    by_cases h0 : k = 0
    · subst h0
      rw [show ((0 : Nat) : Int) = 0 from rfl, holds_zero hx ha]
      exact prefHolds_zero x a w
    · rw [← holds_law x a k (by omega)]
      exact prefHolds_some x a hx ha k (by omega) (by omega) w
  · rw [holds_out x c a h]
    exact prefHolds_out x a c (by omega) w

/-- it returns a bool -/
def SaysBool (e : Ending) : Prop := ∃ b, e = .returned (.bool b)

set_option maxRecDepth 100000 in
set_option maxHeartbeats 400000 in
theorem zzBytes3_any (a0 b0 : Option Addr) (n c0 m c1 : Nat) (cut : Int) (v : Nat → Nat) (w : World) (hn : n ≤ maxLen) (hm : m ≤ maxLen) :
    Calls Tryd.prog 5 #[.slice a0 n c0, .slice b0 m c1, .int .i64 cut, .agg #[.int .u8 (v 0), .int .u8 (v 1), .int .u8 (v 2), .int .u8 (v 3)]] w fun e w' => SaysBool e ∧ Below w.heap.size w w' := by
  unfold maxLen at hn hm
  go_enter Tryd.func5, Tryd.ntmps5
  go_wp2
  · go_ret; exact ⟨⟨_, rfl⟩, Below.al (Below.refl _ _) _⟩
  have hn' : n ≤ 1048576 := by omega
  go_loop [9, 10] (fun r i => ∃ k : Nat, k ≤ n ∧ i = .int .i64 k ∧ ∃ q : Int, r = .int .i64 q ∧ 0 ≤ q ∧ q ≤ 1048576) (fun _ i => n - (intOf i).toNat)
  case atStart => exact ⟨0, Nat.zero_le _, rfl, _, rfl, by omega, by omega⟩
  case round =>
    obtain ⟨k, hk, rfl, q, rfl, hq1, hq2⟩ := hrel
    by_cases hlt : k < n
    · go_wp2
      · go_ret; exact ⟨⟨_, rfl⟩, Below.al (Below.refl _ _) _⟩
      go_round
      case rel => exact ⟨k + 1, by omega, by go_num, _, rfl, by omega, by omega⟩
      case measure => simp [intOf]; omega
    · go_wp2
      all_goals (go_ret; exact ⟨⟨_, rfl⟩, Below.al (Below.refl _ _) _⟩)
end Go.Proofs.Qxb6612599aDoor
