/- (net/netip.Prefix).Contains (20). -/
import Derived.Test.Qxb6612599aDoorW1
import Derived.Deep.RegionHeld3
import Derived.Deep.DrawnRows
namespace Go.Proofs.Qxb6612599aDoor
open Go.RowKit
attribute [local go_sem ↓] Go.wp_at_zero Go.wp_at_succ

set_option maxRecDepth 100000 in
set_option maxHeartbeats 400000 in
theorem isValid_any (n b : Nat) (z : Addr) (w : World) : Calls Tryd.prog 23 #[.agg #[.int .u64 0, .int .u64 (n : Int), .pointer (some z), .int .u8 (b : Int)]] w fun e w' => e = .returned (.bool (decide (0 < b))) ∧ w' = w.alloc (.cells #[.int .u64 0, .int .u64 (n : Int), .pointer (some z), .int .u8 (b : Int)] 41) := by
  go_enter Tryd.func23, Tryd.ntmps23
  go_wp2
  go_ret
  exact ⟨by simp, rfl⟩

set_option maxRecDepth 100000 in
set_option maxHeartbeats 400000 in
theorem bits_any (n k : Nat) (hk : k ≤ 32) (z : Addr) (w : World) : Calls Tryd.prog 26 #[.agg #[.int .u64 0, .int .u64 (n : Int), .pointer (some z), .int .u8 ((k : Int) + 1)]] w fun e w' => e = .returned (.int .i64 (k : Int)) ∧ Below w.heap.size w w' := by
  go_enter Tryd.func26, Tryd.ntmps26
  go_wp2
  go_ret
  exact ⟨by simp, Below.al (Below.refl _ _) _⟩

theorem bitLen_below (n : Nat) (z : Addr) (w : World) (hz : Laid w z) : Calls Tryd.prog 16 #[.agg #[.int .u64 0, .int .u64 (n : Int), .pointer (some z)]] w fun e w' => e = .returned (.int .i64 32) ∧ Below w.heap.size w w' :=
  (bitLen_any n z w hz).mono fun _ _ ⟨h1, h2⟩ => ⟨h1, by subst h2; exact Below.al (Below.refl _ _) _⟩

set_option maxRecDepth 100000 in
set_option maxHeartbeats 1000000 in
theorem contains_zero (p a : Nat) (z : Addr) (w : World) : Calls Tryd.prog 20 #[.agg #[.int .u64 0, .int .u64 (p : Int), .pointer (some z), .int .u8 0], .agg #[.int .u64 0, .int .u64 (a : Int), .pointer (some z)]] w fun e w' => e = .returned (.bool false) ∧ Below w.heap.size w w' := by
  have cV := fun w => isValid_any p 0 z w
  go_enter Tryd.func20, Tryd.ntmps20
  go_wp2_with (first | (go_at_call 23; refine (cV _).mono ?_; rintro e w' ⟨rfl, rfl⟩))
  go_ret
  exact ⟨rfl, Below.al (Below.al (Below.al (Below.refl _ _) _) _) _⟩

set_option maxRecDepth 100000 in
set_option maxHeartbeats 1000000 in
theorem contains_some (p a k : Nat) (ha : a < 18446744073709551616) (hp : p < 18446744073709551616) (hk : k ≤ 32) (z : Addr) (w : World) (hz : Laid w z) : Calls Tryd.prog 20 #[.agg #[.int .u64 0, .int .u64 (p : Int), .pointer (some z), .int .u8 ((k : Int) + 1)], .agg #[.int .u64 0, .int .u64 (a : Int), .pointer (some z)]] w fun e w' => e = .returned (.bool (IntKind.u32.wrap (((a ^^^ p : Nat) : Int) / 2 ^ (32 - k)) == 0)) ∧ Below w.heap.size w w' := by
  have cV : ∀ w, Calls Tryd.prog 23 #[.agg #[.int .u64 0, .int .u64 (p : Int), .pointer (some z), .int .u8 ((k : Int) + 1)]] w fun e w' => e = .returned (.bool true) ∧ w' = w.alloc (.cells #[.int .u64 0, .int .u64 (p : Int), .pointer (some z), .int .u8 ((k : Int) + 1)] 41) := fun w => by
    have := isValid_any p (k + 1) z w
    simpa using this
  go_enter Tryd.func20, Tryd.ntmps20
  go_wp2_with (first | (go_at_call 23; refine (cV _).mono ?_; rintro e w' ⟨rfl, rfl⟩) | (go_at_call 24; refine (hasZone_any a z _ (((hz.alloc _).alloc _).alloc _)).mono ?_; rintro e w' ⟨rfl, rfl⟩))
  obtain ⟨W1, hW1⟩ : ∃ W, W = (((w.alloc (.cells #[.int .u64 0, .int .u64 (p : Int), .pointer (some z), .int .u8 ((k : Int) + 1)] 41)).alloc (.cells #[.int .u64 0, .int .u64 (a : Int), .pointer (some z)] 39)).alloc (.cells #[.int .u64 0, .int .u64 (p : Int), .pointer (some z), .int .u8 ((k : Int) + 1)] 41)).alloc (.cells #[.int .u64 0, .int .u64 (a : Int), .pointer (some z)] 39) := ⟨_, rfl⟩
  have hz1 : Laid W1 z := by rw [hW1]; exact (((hz.alloc _).alloc _).alloc _).alloc _
  have hB1 : Below w.heap.size w W1 := by rw [hW1]; exact Below.al (Below.al (Below.al (Below.al (Below.refl _ _) _) _) _) _
  have hs1 : w.heap.size + 4 = W1.heap.size := by rw [hW1]; simp
  have p0 : W1.cell? ⟨w.heap.size, 0, .none⟩ = some (.int .u64 0) := by rw [hW1]; go_simp
  have p1 : W1.cell? ⟨w.heap.size, 1, .none⟩ = some (.int .u64 (p : Int)) := by rw [hW1]; go_simp
  have p2 : W1.cell? ⟨w.heap.size, 2, .none⟩ = some (.pointer (some z)) := by rw [hW1]; go_simp
  have p3 : W1.cell? ⟨w.heap.size, 3, .none⟩ = some (.int .u8 ((k : Int) + 1)) := by rw [hW1]; go_simp
  have a0 : W1.cell? ⟨w.heap.size + 1, 0, .none⟩ = some (.int .u64 0) := by rw [hW1]; go_simp
  have a1 : W1.cell? ⟨w.heap.size + 1, 1, .none⟩ = some (.int .u64 (a : Int)) := by rw [hW1]; go_simp
  have a2 : W1.cell? ⟨w.heap.size + 1, 2, .none⟩ = some (.pointer (some z)) := by rw [hW1]; go_simp
  rw [← hW1]
  clear hW1
  have hzD : Laid W1.drew z := ⟨hz1.z4, hz1.z0⟩
  have hzA := fun o => hzD.alloc o
  have n1 : w.heap.size < W1.heap.size := by omega
  have n2 : w.heap.size + 1 < W1.heap.size := by omega
  go_region_held3 (fun w' => w'.cell? ⟨w.heap.size, 0, .none⟩ = some (.int .u64 0) ∧ w'.cell? ⟨w.heap.size, 1, .none⟩ = some (.int .u64 (p : Int)) ∧ w'.cell? ⟨w.heap.size, 2, .none⟩ = some (.pointer (some z)) ∧ w'.cell? ⟨w.heap.size + 1, 0, .none⟩ = some (.int .u64 0) ∧ w'.cell? ⟨w.heap.size + 1, 1, .none⟩ = some (.int .u64 (a : Int)) ∧ w'.cell? ⟨w.heap.size + 1, 2, .none⟩ = some (.pointer (some z))) (go_keep)
    (first | (go_at_call 16; go_fit (bitLen_any _ z _ hzD); rintro e w' ⟨rfl, rfl⟩) | (go_at_call 16; go_fit (bitLen_any _ z _ (hzA _)); rintro e w' ⟨rfl, rfl⟩))
  go_wp2_with (first | (go_at_call 25; go_fit (is4_any a z _ ((hzA _).alloc _)); rintro e w' ⟨rfl, rfl⟩))
  obtain ⟨W2, hW2⟩ : ∃ W, W = (((W1.alloc (.cells #[.int .u64 0, .int .u64 (p : Int), .pointer (some z)] 39)).alloc (.cells #[.int .u64 0, .int .u64 (a : Int), .pointer (some z)] 39)).alloc (.cells #[.int .u64 0, .int .u64 (a : Int), .pointer (some z)] 39)).drew := ⟨_, rfl⟩
  have hB12 : Below W1.heap.size W1 W2 := by rw [hW2]; exact (Below.al (Below.al (Below.al (Below.refl _ _) _) _) _).drew
  have hB2 : Below w.heap.size w W2 := hB1.trans (hB12.mono hB1.size)
  have hs2 : W1.heap.size + 3 = W2.heap.size := by rw [hW2]; simp
  have p0' : W2.cell? ⟨w.heap.size, 0, .none⟩ = some (.int .u64 0) := below_cell hB12 p0 n1
  have p1' : W2.cell? ⟨w.heap.size, 1, .none⟩ = some (.int .u64 (p : Int)) := below_cell hB12 p1 n1
  have p2' : W2.cell? ⟨w.heap.size, 2, .none⟩ = some (.pointer (some z)) := below_cell hB12 p2 n1
  have p3' : W2.cell? ⟨w.heap.size, 3, .none⟩ = some (.int .u8 ((k : Int) + 1)) := below_cell hB12 p3 n1
  have a1' : W2.cell? ⟨w.heap.size + 1, 1, .none⟩ = some (.int .u64 (a : Int)) := below_cell hB12 a1 n2
  rw [← hW2]
  clear hW2 p0 p1 p2 p3 a0 a1 a2
  obtain ⟨j, hj⟩ : ∃ j : Nat, j + k = 32 := ⟨32 - k, by omega⟩
  have hm : bits .and .i64 (IntKind.i64.wrap (32 - (k : Int))) 63 = (j : Int) := by rw [i64_and63, IntKind.wrap_i64]; omega
  have hj1 : j + k ≤ 32 := by omega
  have hj2 : 32 ≤ j + k := by omega
  clear hj
  have hx : bits .xor .u64 (a : Int) (p : Int) = ((a ^^^ p : Nat) : Int) := u64_xor_nat a p ha hp
  have hk' : (k : Int) ≤ 32 := by omega
  have n3 : w.heap.size < W2.heap.size := by omega
  have n4 : w.heap.size + 1 < W2.heap.size := by omega
  have cB := bits_any p k hk z W2.drew
  have keep : ∀ w3, Below W2.drew.heap.size W2.drew w3 → w3.cell? ⟨w.heap.size, 0, .none⟩ = some (.int .u64 0) ∧ w3.cell? ⟨w.heap.size, 1, .none⟩ = some (.int .u64 (p : Int)) ∧ w3.cell? ⟨w.heap.size, 2, .none⟩ = some (.pointer (some z)) ∧ w3.cell? ⟨w.heap.size, 3, .none⟩ = some (.int .u8 ((k : Int) + 1)) ∧ w3.cell? ⟨w.heap.size + 1, 1, .none⟩ = some (.int .u64 (a : Int)) := fun w3 hb =>
    ⟨below_cell hb p0' n3, below_cell hb p1' n3, below_cell hb p2' n3, below_cell hb p3' n3, below_cell hb a1' n4⟩
  go_region_held3 (fun w' => w'.cell? ⟨w.heap.size, 0, .none⟩ = some (.int .u64 0) ∧ w'.cell? ⟨w.heap.size, 1, .none⟩ = some (.int .u64 (p : Int)) ∧ w'.cell? ⟨w.heap.size, 2, .none⟩ = some (.pointer (some z)) ∧ w'.cell? ⟨w.heap.size, 3, .none⟩ = some (.int .u8 ((k : Int) + 1)) ∧ w'.cell? ⟨w.heap.size + 1, 1, .none⟩ = some (.int .u64 (a : Int))) (go_keep)
    (first | (go_at_call 26; go_fit cB; rintro e w3 ⟨rfl, hb3⟩; obtain ⟨r0, r1, r2, r3, r4⟩ := keep _ hb3))
  go_wp2
  go_ret
  have e : 32 - k = j := by omega
  refine ⟨by rw [e]; rfl, (hB2.drew).trans ((hb3.mono hB2.size))⟩

/-- Contains says what 'holds' says -/
theorem contains_any (x a : Nat → Nat) (hx : Bytes x) (ha : Bytes a) (c : Int) (z : Addr) (w : World) (hz : Laid w z) : Calls Tryd.prog 20 #[.agg #[.int .u64 0, .int .u64 (lo x : Int), .pointer (some z), .int .u8 (bp c : Int)], .agg #[.int .u64 0, .int .u64 (lo a : Int), .pointer (some z)]] w fun e w' => e = .returned (.bool (holds x c a)) ∧ Below w.heap.size w w' := by
  have h1 := lo_lt hx
  have h2 := lo_lt ha
  by_cases h : 0 ≤ c ∧ c ≤ 32
  · obtain ⟨k, rfl⟩ : ∃ k : Nat, c = k := ⟨c.toNat, by omega⟩
    have e : bp (k : Int) = k + 1 := by unfold bp; rw [if_pos h]; simp
    rw [e, ← holds_eq hx ha k (by omega)]
    exact contains_some _ _ k (by omega) (by omega) (by omega) z w hz
  · have e : bp c = 0 := by unfold bp; rw [if_neg h]
    rw [e, holds_out x c a h]
    exact contains_zero _ _ z w
end Go.Proofs.Qxb6612599aDoor
