/- Walks over net/netip as this seat's roads come to it. -/
import Derived.Test.Qxb6612599aDoorRows
import Derived.Test.Qxb6612599aDoorB
import Derived.WalkKit
import Derived.WalkSpells
import Derived.WalkLawsBesides
import Derived.Deep.DeepFit
import Derived.LaidEql
namespace Go.Proofs.Qxb6612599aDoor
open Go.RowKit

theorem cell_lt {w : World} {a : Addr} {v : Value} (h : w.cell? a = some v) : a.block < w.heap.size := by
  unfold World.cell? at h
  rcases Nat.lt_or_ge a.block w.heap.size with h1 | h1
  · exact h1
  · rw [Array.getElem?_eq_none h1] at h; simp at h
theorem below_cell {w w' : World} {B : Nat} (hb : Below B w w') {a : Addr} {v : Value} (h : w.cell? a = some v) (hB : a.block < B) : w'.cell? a = some v := (hb.cell hB).trans h

theorem Below.al {w w' : World} (h : Below w.heap.size w w') (o : Obj) : Below w.heap.size w (w'.alloc o) := h.alloc h.size o

/-- what the walks ask of the variables: z4 leads somewhere, z0 is nil -/
structure Laid (w : World) (z : Addr) : Prop where
  z4 : w.cell? ⟨0, 0, .none⟩ = some (.pointer (some z))
  z0 : w.cell? ⟨1, 0, .none⟩ = some (.pointer .none)
theorem Laid.lt {w : World} {z : Addr} (h : Laid w z) : 1 < w.heap.size := cell_lt h.z0
theorem Laid.kept {w w' : World} {z : Addr} (h : Laid w z) {B : Nat} (hb : Below B w w') (hB : 1 < B) : Laid w' z := ⟨below_cell hb h.z4 (by dsimp only; omega), below_cell hb h.z0 hB⟩

set_option maxRecDepth 100000 in
set_option maxHeartbeats 400000 in
theorem from4_any (x : Nat → Nat) (hx : Bytes x) (z : Addr) (w : World) (hz : Laid w z) :
    Calls Tryd.prog 12 #[.agg #[.int .u8 (x 0), .int .u8 (x 1), .int .u8 (x 2), .int .u8 (x 3)]] w fun e w' => e = .returned (.agg #[.int .u64 0, .int .u64 (lo x : Int), .pointer (some z)]) ∧ Below w.heap.size w w' := by
  have h0 := hx 0; have h1 := hx 1; have h2 := hx 2; have h3 := hx 3
  have hb := hz.lt
  have hb0 : 0 < w.heap.size := by omega
  have c0 := hz.z4
  have HE : Hid _ := lo_eq hx
  go_enter Tryd.func12, Tryd.ntmps12
  go_wp2
  refine bodyPost_ret (v := .agg #[.int .u64 0, .int .u64 (lo x : Int), .pointer (some z)]) ?_ rfl ⟨rfl, ((Below.refl _ _).alloc (Nat.le_refl _) _).alloc (by simp) _⟩
  rw [← HE.out]
  simp [results, Tryd.results12, go_sem]

set_option maxRecDepth 100000 in
set_option maxHeartbeats 400000 in
theorem be32_any (x : Nat → Nat) (hx : Bytes x) (w : World) :
    Calls Tryd.prog 14 #[.agg #[.int .u8 (x 0), .int .u8 (x 1), .int .u8 (x 2), .int .u8 (x 3)]] w fun e w' => e = .returned (.int .u32 (val x : Int)) ∧ Below w.heap.size w w' := by
  have h0 := hx 0; have h1 := hx 1; have h2 := hx 2; have h3 := hx 3
  have HE : Hid _ := be_eq hx
  go_enter Tryd.func14, Tryd.ntmps14
  go_wp2
  go_ret
  exact ⟨by rw [← HE.out]; rfl, (Below.refl _ _).alloc (Nat.le_refl _) _⟩

theorem has72 : (Tryd.prog.info? 72).isSome = true := by kernel_rfl
theorem eqNil (z : Addr) (w : World) : (Op.equalIn 9999 35 (.pointer (some z)) (.pointer .none)).run Tryd.prog w = .ok false w := run_equalIn_pointer_nil w 9998 35 (some z) (by kernel_rfl)
theorem eqSame (z : Addr) (w : World) : (Op.equalIn 9999 35 (.pointer (some z)) (.pointer (some z))).run Tryd.prog w = .ok true w := by
  obtain ⟨j, hj⟩ := Option.isSome_iff_exists.1 has72
  have h : ∀ d : Nat, (Op.equalIn (d + 1) 35 (.pointer (some z)) (.pointer (some z))).run Tryd.prog w = .ok true w := fun d => by
    simp [Op.equalIn, run_underlying Tryd.underlying35, sizeOf, typeInfo, hj, run_sameAddr_same]
  exact h 9998

set_option maxRecDepth 100000 in
set_option maxHeartbeats 400000 in
theorem isZero_any (n : Nat) (z : Addr) (w : World) (hz : Laid w z) : Calls Tryd.prog 15 #[.agg #[.int .u64 0, .int .u64 (n : Int), .pointer (some z)]] w fun e w' => e = .returned (.bool false) ∧ w' = w.alloc (.cells #[.int .u64 0, .int .u64 (n : Int), .pointer (some z)] 39) := by
  have hb := hz.lt
  have hb0 : 0 < w.heap.size := by omega
  have c0 := hz.z4
  have c1 := hz.z0
  have q1 := eqNil z
  have q2 := eqSame z
  go_enter Tryd.func15, Tryd.ntmps15
  go_wp2
  go_ret
  exact ⟨rfl, rfl⟩

set_option maxRecDepth 100000 in
set_option maxHeartbeats 400000 in
theorem bitLen_any (n : Nat) (z : Addr) (w : World) (hz : Laid w z) : Calls Tryd.prog 16 #[.agg #[.int .u64 0, .int .u64 (n : Int), .pointer (some z)]] w fun e w' => e = .returned (.int .i64 32) ∧ w' = w.alloc (.cells #[.int .u64 0, .int .u64 (n : Int), .pointer (some z)] 39) := by
  have hb := hz.lt
  have hb0 : 0 < w.heap.size := by omega
  have c0 := hz.z4
  have c1 := hz.z0
  have q1 := eqNil z
  have q2 := eqSame z
  go_enter Tryd.func16, Tryd.ntmps16
  go_wp2
  go_ret
  exact ⟨rfl, rfl⟩

set_option maxRecDepth 100000 in
set_option maxHeartbeats 400000 in
theorem is6_any (n : Nat) (z : Addr) (w : World) (hz : Laid w z) : Calls Tryd.prog 21 #[.agg #[.int .u64 0, .int .u64 (n : Int), .pointer (some z)]] w fun e w' => e = .returned (.bool false) ∧ w' = w.alloc (.cells #[.int .u64 0, .int .u64 (n : Int), .pointer (some z)] 39) := by
  have hb := hz.lt
  have hb0 : 0 < w.heap.size := by omega
  have c0 := hz.z4
  have c1 := hz.z0
  have q1 := eqNil z
  have q2 := eqSame z
  go_enter Tryd.func21, Tryd.ntmps21
  go_wp2
  go_ret
  exact ⟨rfl, rfl⟩

set_option maxRecDepth 100000 in
set_option maxHeartbeats 400000 in
theorem hasZone_any (n : Nat) (z : Addr) (w : World) (hz : Laid w z) : Calls Tryd.prog 24 #[.agg #[.int .u64 0, .int .u64 (n : Int), .pointer (some z)]] w fun e w' => e = .returned (.bool false) ∧ w' = w.alloc (.cells #[.int .u64 0, .int .u64 (n : Int), .pointer (some z)] 39) := by
  have hb := hz.lt
  have hb0 : 0 < w.heap.size := by omega
  have c0 := hz.z4
  have c1 := hz.z0
  have q1 := eqNil z
  have q2 := eqSame z
  go_enter Tryd.func24, Tryd.ntmps24
  go_wp2
  go_ret
  exact ⟨rfl, rfl⟩

set_option maxRecDepth 100000 in
set_option maxHeartbeats 400000 in
theorem is4_any (n : Nat) (z : Addr) (w : World) (hz : Laid w z) : Calls Tryd.prog 25 #[.agg #[.int .u64 0, .int .u64 (n : Int), .pointer (some z)]] w fun e w' => e = .returned (.bool true) ∧ w' = w.alloc (.cells #[.int .u64 0, .int .u64 (n : Int), .pointer (some z)] 39) := by
  have hb := hz.lt
  have hb0 : 0 < w.heap.size := by omega
  have c0 := hz.z4
  have c1 := hz.z0
  have q1 := eqNil z
  have q2 := eqSame z
  go_enter Tryd.func25, Tryd.ntmps25
  go_wp2
  go_ret
  exact ⟨rfl, rfl⟩


theorem Laid.alloc {w : World} {z : Addr} (h : Laid w z) (o : Obj) : Laid (w.alloc o) z := h.kept ((Below.refl _ _).alloc (Nat.le_refl _) o) h.lt

set_option maxRecDepth 100000 in
set_option maxHeartbeats 400000 in
theorem withoutZone_any (n : Nat) (z : Addr) (w : World) (hz : Laid w z) : Calls Tryd.prog 17 #[.agg #[.int .u64 0, .int .u64 (n : Int), .pointer (some z)]] w fun e w' => e = .returned (.agg #[.int .u64 0, .int .u64 (n : Int), .pointer (some z)]) ∧ w' = ((w.alloc (.cells #[.int .u64 0, .int .u64 (n : Int), .pointer (some z)] 39)).alloc (.cells #[.int .u64 0, .int .u64 (n : Int), .pointer (some z)] 39)).alloc (.cells #[.int .u64 0, .int .u64 (n : Int), .pointer (some z)] 39) := by
  go_enter Tryd.func17, Tryd.ntmps17
  go_wp2_with (first | (go_at_call 21; refine (is6_any n z _ ((hz.alloc _).alloc _)).mono ?_; rintro e w' ⟨rfl, rfl⟩))
  refine bodyPost_ret (v := .agg #[.int .u64 0, .int .u64 (n : Int), .pointer (some z)]) (by simp [results, Tryd.results17, go_sem]) rfl ⟨rfl, rfl⟩

/-- what PrefixFrom keeps of the bits -/
def bp (c : Int) : Nat := if 0 ≤ c ∧ c ≤ 32 then c.toNat + 1 else 0

set_option maxRecDepth 100000 in
set_option maxHeartbeats 1000000 in
theorem prefixFrom_in (n : Nat) (z : Addr) (c : Nat) (hc : c ≤ 32) (w : World) (hz : Laid w z) : Calls Tryd.prog 11 #[.agg #[.int .u64 0, .int .u64 (n : Int), .pointer (some z)], .int .i64 (c : Int)] w fun e w' => e = .returned (.agg #[.int .u64 0, .int .u64 (n : Int), .pointer (some z), .int .u8 ((c + 1 : Nat) : Int)]) ∧ Below w.heap.size w w' := by
  go_enter Tryd.func11, Tryd.ntmps11
  go_wp2_with (first
    | (go_at_call 15; refine (isZero_any n z _ ((hz.alloc _).alloc _)).mono ?_; rintro e w' ⟨rfl, rfl⟩)
    | (go_at_call 16; refine (bitLen_any n z _ (((hz.alloc _).alloc _).alloc _)).mono ?_; rintro e w' ⟨rfl, rfl⟩)
    | (go_at_call 17; refine (withoutZone_any n z _ ((((hz.alloc _).alloc _).alloc _).alloc _)).mono ?_; rintro e w' ⟨rfl, rfl⟩))
  exact bodyPost_ret (v := .agg #[.int .u64 0, .int .u64 (n : Int), .pointer (some z), .int .u8 ((c + 1 : Nat) : Int)]) (by simp [results, Tryd.results11, go_sem]) rfl ⟨rfl, Below.al (Below.al (Below.al (Below.al (Below.al (Below.al (Below.al (Below.refl _ _) _) _) _) _) _) _) _⟩

set_option maxRecDepth 100000 in
set_option maxHeartbeats 1000000 in
theorem prefixFrom_out (n : Nat) (z : Addr) (c : Int) (hc : c < 0 ∨ 32 < c) (w : World) (hz : Laid w z) : Calls Tryd.prog 11 #[.agg #[.int .u64 0, .int .u64 (n : Int), .pointer (some z)], .int .i64 c] w fun e w' => e = .returned (.agg #[.int .u64 0, .int .u64 (n : Int), .pointer (some z), .int .u8 0]) ∧ Below w.heap.size w w' := by
  rcases hc with hc | hc
  · have hd : decide (0 ≤ c) = false := by simp; omega
    go_enter Tryd.func11, Tryd.ntmps11
    go_wp2_with (first
      | (go_at_call 15; refine (isZero_any n z _ ((hz.alloc _).alloc _)).mono ?_; rintro e w' ⟨rfl, rfl⟩)
      | (go_at_call 17; refine (withoutZone_any n z _ (((hz.alloc _).alloc _).alloc _)).mono ?_; rintro e w' ⟨rfl, rfl⟩))
    exact bodyPost_ret (v := .agg #[.int .u64 0, .int .u64 (n : Int), .pointer (some z), .int .u8 0]) (by simp [results, Tryd.results11, go_sem]) rfl ⟨rfl, Below.al (Below.al (Below.al (Below.al (Below.al (Below.al (Below.refl _ _) _) _) _) _) _) _⟩
  · have h0 : 0 ≤ c := by omega
    have hd : decide (c ≤ 32) = false := by simp; omega
    go_enter Tryd.func11, Tryd.ntmps11
    go_wp2_with (first
      | (go_at_call 15; refine (isZero_any n z _ ((hz.alloc _).alloc _)).mono ?_; rintro e w' ⟨rfl, rfl⟩)
      | (go_at_call 16; refine (bitLen_any n z _ (((hz.alloc _).alloc _).alloc _)).mono ?_; rintro e w' ⟨rfl, rfl⟩)
      | (go_at_call 17; refine (withoutZone_any n z _ ((((hz.alloc _).alloc _).alloc _).alloc _)).mono ?_; rintro e w' ⟨rfl, rfl⟩))
    exact bodyPost_ret (v := .agg #[.int .u64 0, .int .u64 (n : Int), .pointer (some z), .int .u8 0]) (by simp [results, Tryd.results11, go_sem]) rfl ⟨rfl, Below.al (Below.al (Below.al (Below.al (Below.al (Below.al (Below.al (Below.refl _ _) _) _) _) _) _) _) _⟩

theorem prefixFrom_any (n : Nat) (z : Addr) (c : Int) (w : World) (hz : Laid w z) : Calls Tryd.prog 11 #[.agg #[.int .u64 0, .int .u64 (n : Int), .pointer (some z)], .int .i64 c] w fun e w' => e = .returned (.agg #[.int .u64 0, .int .u64 (n : Int), .pointer (some z), .int .u8 (bp c : Int)]) ∧ Below w.heap.size w w' := by
  by_cases h : 0 ≤ c ∧ c ≤ 32
  · obtain ⟨k, rfl⟩ : ∃ k : Nat, c = k := ⟨c.toNat, by omega⟩
    have e : bp (k : Int) = k + 1 := by unfold bp; rw [if_pos h]; simp
    rw [e]
    exact prefixFrom_in n z k (by omega) w hz
  · have e : bp c = 0 := by unfold bp; rw [if_neg h]
    rw [e]
    exact prefixFrom_out n z c (by omega) w hz
end Go.Proofs.Qxb6612599aDoor
