/- The law FnWithinOnePrefixPutInAnywhere (4): the size guard (8), the inputs that are turned away. -/
import Derived.Test.Qxb6612599aDoorI
import Derived.Deep.RegionHeld3
namespace Go.Proofs.Qxb6612599aDoor
open Go.RowKit
attribute [local go_sem ↓] Go.wp_at_zero Go.wp_at_succ

set_option maxRecDepth 100000 in
set_option maxHeartbeats 1000000 in
theorem zzBytes8_any (a0 b0 : Option Addr) (n c0 m c1 : Nat) (pos d : Int) (x a : Nat → Nat) (w : World) (hn : n ≤ maxLen) (hm : m ≤ maxLen) :
    Calls Tryd.prog 8 #[.slice a0 n c0, .slice b0 m c1, .int .i64 pos, .agg #[.int .u8 (x 0), .int .u8 (x 1), .int .u8 (x 2), .int .u8 (x 3)], .int .i64 d, .agg #[.int .u8 (a 0), .int .u8 (a 1), .int .u8 (a 2), .int .u8 (a 3)]] w fun e w' => SaysBool e ∧ Below w.heap.size w w' := by
  unfold maxLen at hn hm
  go_enter Tryd.func8, Tryd.ntmps8
  go_wp2
  · go_ret; exact ⟨⟨_, rfl⟩, Below.al (Below.al (Below.refl _ _) _) _⟩
  have hn' : n ≤ 1048576 := by omega
  go_loop [13, 14] (fun r i => ∃ k : Nat, k ≤ n ∧ i = .int .i64 k ∧ ∃ q : Int, r = .int .i64 q ∧ 0 ≤ q ∧ q ≤ 1048576) (fun _ i => n - (intOf i).toNat)
  case atStart => exact ⟨0, Nat.zero_le _, rfl, _, rfl, by omega, by omega⟩
  case round =>
    obtain ⟨k, hk, rfl, q, rfl, hq1, hq2⟩ := hrel
    by_cases hlt : k < n
    · go_wp2
      · go_ret; exact ⟨⟨_, rfl⟩, Below.al (Below.al (Below.refl _ _) _) _⟩
      go_round
      case rel => exact ⟨k + 1, by omega, by go_num, _, rfl, by omega, by omega⟩
      case measure => simp [intOf]; omega
    · go_wp2
      all_goals (go_ret; exact ⟨⟨_, rfl⟩, Below.al (Below.al (Below.refl _ _) _) _⟩)

set_option maxRecDepth 100000 in
set_option maxHeartbeats 1000000 in
theorem law4_out (a0 b0 : Option Addr) (n m c0 c1 : Nat) (pos d : Int) (x a : Nat → Nat) (w : World) (hn : n ≤ maxLen) (hm : m ≤ maxLen) (ho : 65536 < n ∨ 65536 < m ∨ n ≠ m ∨ pos < 0 ∨ (n : Int) < pos) :
    Calls Tryd.prog 4 #[.slice a0 n c0, .slice b0 m c1, .int .i64 pos, .agg #[.int .u8 (x 0), .int .u8 (x 1), .int .u8 (x 2), .int .u8 (x 3)], .int .i64 d, .agg #[.int .u8 (a 0), .int .u8 (a 1), .int .u8 (a 2), .int .u8 (a 3)]] w fun e w' => e = .returned (.bool true) ∧ Below w.heap.size w w' := by
  have cZ := zzBytes8_any a0 b0 n c0 m c1 pos d x a ((w.alloc (.cells #[.int .u8 (x 0), .int .u8 (x 1), .int .u8 (x 2), .int .u8 (x 3)] 24)).alloc (.cells #[.int .u8 (a 0), .int .u8 (a 1), .int .u8 (a 2), .int .u8 (a 3)] 24)) hn hm
  have ba : Below w.heap.size w ((w.alloc (.cells #[.int .u8 (x 0), .int .u8 (x 1), .int .u8 (x 2), .int .u8 (x 3)] 24)).alloc (.cells #[.int .u8 (a 0), .int .u8 (a 1), .int .u8 (a 2), .int .u8 (a 3)] 24)) := Below.al (Below.al (Below.refl _ _) _) _
  unfold maxLen at hn hm
  by_cases h1 : 65536 < n
  · go_enter Tryd.func4, Tryd.ntmps4
    go_wp2_with (first | (go_at_call 8; go_fit cZ; rintro e w1 ⟨⟨q, rfl⟩, hb1⟩))
    all_goals (go_ret; exact ⟨rfl, ba.trans (hb1.mono ba.size)⟩)
  by_cases h2 : 65536 < m
  · go_enter Tryd.func4, Tryd.ntmps4
    go_wp2_with (first | (go_at_call 8; go_fit cZ; rintro e w1 ⟨⟨q, rfl⟩, hb1⟩))
    all_goals (go_ret; exact ⟨rfl, ba.trans (hb1.mono ba.size)⟩)
  by_cases h3 : n = m
  · subst h3
    have h4 : pos < 0 ∨ (n : Int) < pos := by omega
    clear ho
    rcases h4 with h4 | h4
    · have d1 : decide (pos < 0) = true := by simp; omega
      go_enter Tryd.func4, Tryd.ntmps4
      go_wp2_with (first | (go_at_call 8; go_fit cZ; rintro e w1 ⟨⟨q, rfl⟩, hb1⟩))
      all_goals (go_ret; exact ⟨rfl, ba.trans (hb1.mono ba.size)⟩)
    · have d1 : decide (pos < 0) = false := by simp; omega
      have d2 : decide ((n : Int) < pos) = true := by simp; omega
      go_enter Tryd.func4, Tryd.ntmps4
      go_wp2_with (first | (go_at_call 8; go_fit cZ; rintro e w1 ⟨⟨q, rfl⟩, hb1⟩))
      all_goals (go_ret; exact ⟨rfl, ba.trans (hb1.mono ba.size)⟩)
  · have d1 : ((n : Int) != (m : Int)) = true := by simp; omega
    clear ho
    go_enter Tryd.func4, Tryd.ntmps4
    go_wp2_with (first | (go_at_call 8; go_fit cZ; rintro e w1 ⟨⟨q, rfl⟩, hb1⟩))
    all_goals (go_ret; exact ⟨rfl, ba.trans (hb1.mono ba.size)⟩)

/-- one of the row with x put in -/
theorem any_ins {α β : Type} (h : α → β → Bool) (X : Nat → α) (C : Nat → β) (pos n : Nat) (x : α) (c : β) (hp : pos ≤ n) : ((List.range (n + 1)).any fun i => h (insF X pos x i) (insF C pos c i)) = (((List.range n).any fun i => h (X i) (C i)) || h x c) := by
  rw [Bool.eq_iff_iff]
  simp only [List.any_eq_true, List.mem_range, Bool.or_eq_true]
  constructor
  · rintro ⟨i, hi, e⟩
    rcases Nat.lt_trichotomy i pos with l | l | l
    · rw [insF_lt X x l, insF_lt C c l] at e
      exact .inl ⟨i, by omega, e⟩
    · subst l
      rw [insF_at, insF_at] at e
      exact .inr e
    · obtain ⟨j, rfl⟩ : ∃ j, i = j + 1 := ⟨i - 1, by omega⟩
      rw [insF_gt X x (by omega), insF_gt C c (by omega)] at e
      exact .inl ⟨j, by omega, e⟩
  · rintro (⟨i, hi, e⟩ | e)
    · by_cases l : i < pos
      · exact ⟨i, by omega, by rw [insF_lt X x l, insF_lt C c l]; exact e⟩
      · exact ⟨i + 1, by omega, by rw [insF_gt X x (by omega), insF_gt C c (by omega)]; exact e⟩
    · exact ⟨pos, by omega, by rw [insF_at, insF_at]; exact e⟩
theorem bytes_ins {X : Nat → Nat → Nat} {n pos : Nat} {x : Nat → Nat} (hX : ∀ i, i < n → Bytes (X i)) (hx : Bytes x) (hp : pos ≤ n) : ∀ i, i < n + 1 → Bytes (insF X pos x i) := fun i hi => by
  unfold insF
  split
  · exact hX i (by omega)
  · split
    · exact hx
    · exact hX _ (by omega)
end Go.Proofs.Qxb6612599aDoor
