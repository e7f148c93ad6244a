/- The law FnWithinAnyCutAndMaskModel (3), walked: a nil slice among the two (so both are empty). -/
import Derived.Test.Qxb6612599aDoorL1
namespace Go.Proofs.Qxb6612599aDoor
open Go.RowKit
attribute [local go_sem ↓] Go.wp_at_zero Go.wp_at_succ

theorem no_bytes : ∀ i, i < 0 → Bytes ((fun _ _ => 0 : Nat → Nat → Nat) i) := fun i hi => by omega
/-- within4 over nothing -/
theorem within4_none (a0 b0 : Option Addr) (c0 c1 : Nat) (a : Nat → Nat) (z : Addr) (w : World) (ha : Bytes a) (hz : Laid w z) :
    Calls Tryd.prog 6 #[.slice a0 0 c0, .slice b0 0 c1, .agg #[.int .u8 (a 0), .int .u8 (a 1), .int .u8 (a 2), .int .u8 (a 3)]] w fun e w' => e = .returned (.bool false) ∧ Below w.heap.size w w' := by
  have h := within4_any a0 b0 0 c0 c1 0 (fun _ _ => 0) (fun _ => 0) a z w (by omega) (Nat.le_refl _) (by omega) no_bytes ha hz (fun i hi => by omega) (fun i hi => by omega)
  rw [show ((List.range 0).any fun i => holds ((fun _ _ => 0 : Nat → Nat → Nat) i) ((fun _ => 0 : Nat → Int) i) a) = false from rfl] at h
  exact h

set_option maxRecDepth 100000 in
set_option maxHeartbeats 1000000 in
theorem law3_nn  (a : Nat → Nat) (z : Addr) (w : World) (ha : Bytes a) (hz : Laid w z) :
    Calls Tryd.prog 3 #[.slice .none 0 0, .slice .none 0 0, .int .i64 0, .agg #[.int .u8 (a 0), .int .u8 (a 1), .int .u8 (a 2), .int .u8 (a 3)]] w fun e w' => e = .returned (.bool true) ∧ Below w.heap.size w w' := by
  have cZ := zzBytes3_any .none .none 0 0 0 0 0 a (w.alloc (.cells #[.int .u8 (a 0), .int .u8 (a 1), .int .u8 (a 2), .int .u8 (a 3)] 24)) (by unfold maxLen; omega) (by unfold maxLen; omega)
  have ba : Below w.heap.size w (w.alloc (.cells #[.int .u8 (a 0), .int .u8 (a 1), .int .u8 (a 2), .int .u8 (a 3)] 24)) := Below.al (Below.refl _ _) _
  have hz' := hz.alloc (.cells #[.int .u8 (a 0), .int .u8 (a 1), .int .u8 (a 2), .int .u8 (a 3)] 24)
  have hbx : Box4 (w.alloc (.cells #[.int .u8 (a 0), .int .u8 (a 1), .int .u8 (a 2), .int .u8 (a 3)] 24)) w.heap.size a := ⟨by go_simp, by go_simp, by go_simp, by go_simp⟩
  have hmk1 : ∀ w : World, (Instr.makeSlice 22 (.int .i64 0) (.int .i64 0)).run Tryd.prog w = .ok (.slice (some ⟨w.heap.size, 0, .none⟩) 0 0) (w.alloc (.cells (madeCells #[.int .u8 0, .int .u8 0, .int .u8 0, .int .u8 0] (0 * 4)) 24)) := run_make24 0 (by omega)
  have hmk2 : ∀ w : World, (Instr.makeSlice 23 (.int .i64 0) (.int .i64 0)).run Tryd.prog w = .ok (.slice (some ⟨w.heap.size, 0, .none⟩) 0 0) (w.alloc (.cells (madeCells #[.int .i64 0] 0) 3)) := run_make3 0 (by omega)
  go_enter Tryd.func3, Tryd.ntmps3
  go_wp2_with (first
    | (go_at_call 5; go_fit cZ; rintro e w1 ⟨⟨q, rfl⟩, hb1⟩; obtain ⟨m0, m1, m2, m3⟩ := hbx.kept hb1))
  · go_ret; exact ⟨rfl, ba.trans (hb1.mono ba.size)⟩
  have hz3 := hz'.kept hb1 hz'.lt
  have hbW : Below w.heap.size w w1 := ba.trans (hb1.mono ba.size)
  have hbx3 : Box4 w1 w.heap.size a := ⟨m0, m1, m2, m3⟩
  clear m0 m1 m2 m3
  go_fit (within4_none _ _ _ _ a z w1 ha hz3)
  rintro e w4 ⟨rfl, hb4⟩
  obtain ⟨m0, m1, m2, m3⟩ := hbx3.kept hb4
  have hbx4 : Box4 w4.drew w.heap.size a := ⟨m0, m1, m2, m3⟩
  have hz4 := hz3.kept hb4 hz3.lt
  have hbW4 := hbW.trans (hb4.mono hbW.size)
  have hz4d : Laid w4.drew z := ⟨hz4.z4, hz4.z0⟩
  go_wp2_with fail
  go_region_held3 (fun w' => w'.cell? ⟨w.heap.size, 0, .none⟩ = some (.int .u8 (a 0)) ∧ w'.cell? ⟨w.heap.size, 1, .none⟩ = some (.int .u8 (a 1)) ∧ w'.cell? ⟨w.heap.size, 2, .none⟩ = some (.int .u8 (a 2)) ∧ w'.cell? ⟨w.heap.size, 3, .none⟩ = some (.int .u8 (a 3))) (go_keep) (first | (go_at_call 6; go_fit (within4_none _ _ _ _ a z _ ha hz4d); rintro e w5 ⟨rfl, hb5⟩; obtain ⟨k0, k1, k2, k3⟩ := hbx4.kept hb5))
  clear m0 m1 m2 m3
  have hbx5 : Box4 w5.drew w.heap.size a := ⟨k0, k1, k2, k3⟩
  have hz5 := hz4d.kept hb5 hz4d.lt
  have hz5d : Laid w5.drew z := ⟨hz5.z4, hz5.z0⟩
  have hbW5 : Below w.heap.size w w5 := hbW4.drew.trans (hb5.mono hbW4.size)
  go_wp2_with fail
  go_region_held3 (fun w' => w'.cell? ⟨w.heap.size, 0, .none⟩ = some (.int .u8 (a 0)) ∧ w'.cell? ⟨w.heap.size, 1, .none⟩ = some (.int .u8 (a 1)) ∧ w'.cell? ⟨w.heap.size, 2, .none⟩ = some (.int .u8 (a 2)) ∧ w'.cell? ⟨w.heap.size, 3, .none⟩ = some (.int .u8 (a 3))) (go_keep) (first | (go_at_call 6; go_fit (within4_none _ _ _ _ a z _ ha hz5d); rintro e w6 ⟨rfl, hb6⟩; obtain ⟨l0, l1, l2, l3⟩ := hbx5.kept hb6))
  have hbW6 : Below w.heap.size w w6 := hbW5.drew.trans (hb6.mono hbW5.size)
  clear k0 k1 k2 k3
  go_wp2
  refine wp_loop_rounds 1 ?_
  rw [rounds_succ]
  go_wp2
  go_ret
  exact ⟨rfl, hbW6⟩

set_option maxRecDepth 100000 in
set_option maxHeartbeats 1000000 in
theorem law3_ns (y : Addr) (c1 : Nat) (a : Nat → Nat) (z : Addr) (w : World) (ha : Bytes a) (hz : Laid w z) :
    Calls Tryd.prog 3 #[.slice .none 0 0, .slice (some y) 0 c1, .int .i64 0, .agg #[.int .u8 (a 0), .int .u8 (a 1), .int .u8 (a 2), .int .u8 (a 3)]] w fun e w' => e = .returned (.bool true) ∧ Below w.heap.size w w' := by
  have cZ := zzBytes3_any .none (some y) 0 0 0 c1 0 a (w.alloc (.cells #[.int .u8 (a 0), .int .u8 (a 1), .int .u8 (a 2), .int .u8 (a 3)] 24)) (by unfold maxLen; omega) (by unfold maxLen; omega)
  have ba : Below w.heap.size w (w.alloc (.cells #[.int .u8 (a 0), .int .u8 (a 1), .int .u8 (a 2), .int .u8 (a 3)] 24)) := Below.al (Below.refl _ _) _
  have hz' := hz.alloc (.cells #[.int .u8 (a 0), .int .u8 (a 1), .int .u8 (a 2), .int .u8 (a 3)] 24)
  have hbx : Box4 (w.alloc (.cells #[.int .u8 (a 0), .int .u8 (a 1), .int .u8 (a 2), .int .u8 (a 3)] 24)) w.heap.size a := ⟨by go_simp, by go_simp, by go_simp, by go_simp⟩
  have hmk1 : ∀ w : World, (Instr.makeSlice 22 (.int .i64 0) (.int .i64 0)).run Tryd.prog w = .ok (.slice (some ⟨w.heap.size, 0, .none⟩) 0 0) (w.alloc (.cells (madeCells #[.int .u8 0, .int .u8 0, .int .u8 0, .int .u8 0] (0 * 4)) 24)) := run_make24 0 (by omega)
  have hmk2 : ∀ w : World, (Instr.makeSlice 23 (.int .i64 0) (.int .i64 0)).run Tryd.prog w = .ok (.slice (some ⟨w.heap.size, 0, .none⟩) 0 0) (w.alloc (.cells (madeCells #[.int .i64 0] 0) 3)) := run_make3 0 (by omega)
  go_enter Tryd.func3, Tryd.ntmps3
  go_wp2_with (first
    | (go_at_call 5; go_fit cZ; rintro e w1 ⟨⟨q, rfl⟩, hb1⟩)
    | (refine wpList_copy_one _ rfl _ _ 23 23 rfl 3 Tryd.underlying23 Tryd.size3 w1.heap.size 0 (some y) c1 rfl rfl 3 _ (fun j => .int .i64 0) (World.rowIs_made _ _ 0 3) (fun h => absurd h (by omega)) (fun j _ => rfl) ?_; intro w2 hrow2 hg2; have hb2 := below_grown (Below.al hb1 _) hg2 hb1.size; obtain ⟨m0, m1, m2, m3⟩ := hbx.kept hb2))
  · go_ret; exact ⟨rfl, ba.trans (hb1.mono ba.size)⟩
  have hz3 := hz'.kept hb2 hz'.lt
  have hbW : Below w.heap.size w w2 := ba.trans (hb2.mono ba.size)
  have hbx3 : Box4 w2 w.heap.size a := ⟨m0, m1, m2, m3⟩
  clear m0 m1 m2 m3
  go_fit (within4_none _ _ _ _ a z w2 ha hz3)
  rintro e w4 ⟨rfl, hb4⟩
  obtain ⟨m0, m1, m2, m3⟩ := hbx3.kept hb4
  have hbx4 : Box4 w4.drew w.heap.size a := ⟨m0, m1, m2, m3⟩
  have hz4 := hz3.kept hb4 hz3.lt
  have hbW4 := hbW.trans (hb4.mono hbW.size)
  have hz4d : Laid w4.drew z := ⟨hz4.z4, hz4.z0⟩
  go_wp2_with fail
  go_region_held3 (fun w' => w'.cell? ⟨w.heap.size, 0, .none⟩ = some (.int .u8 (a 0)) ∧ w'.cell? ⟨w.heap.size, 1, .none⟩ = some (.int .u8 (a 1)) ∧ w'.cell? ⟨w.heap.size, 2, .none⟩ = some (.int .u8 (a 2)) ∧ w'.cell? ⟨w.heap.size, 3, .none⟩ = some (.int .u8 (a 3))) (go_keep) (first | (go_at_call 6; go_fit (within4_none _ _ _ _ a z _ ha hz4d); rintro e w5 ⟨rfl, hb5⟩; obtain ⟨k0, k1, k2, k3⟩ := hbx4.kept hb5))
  clear m0 m1 m2 m3
  have hbx5 : Box4 w5.drew w.heap.size a := ⟨k0, k1, k2, k3⟩
  have hz5 := hz4d.kept hb5 hz4d.lt
  have hz5d : Laid w5.drew z := ⟨hz5.z4, hz5.z0⟩
  have hbW5 : Below w.heap.size w w5 := hbW4.drew.trans (hb5.mono hbW4.size)
  go_wp2_with fail
  go_region_held3 (fun w' => w'.cell? ⟨w.heap.size, 0, .none⟩ = some (.int .u8 (a 0)) ∧ w'.cell? ⟨w.heap.size, 1, .none⟩ = some (.int .u8 (a 1)) ∧ w'.cell? ⟨w.heap.size, 2, .none⟩ = some (.int .u8 (a 2)) ∧ w'.cell? ⟨w.heap.size, 3, .none⟩ = some (.int .u8 (a 3))) (go_keep) (first | (go_at_call 6; go_fit (within4_none _ _ _ _ a z _ ha hz5d); rintro e w6 ⟨rfl, hb6⟩; obtain ⟨l0, l1, l2, l3⟩ := hbx5.kept hb6))
  have hbW6 : Below w.heap.size w w6 := hbW5.drew.trans (hb6.mono hbW5.size)
  clear k0 k1 k2 k3
  go_wp2
  refine wp_loop_rounds 1 ?_
  rw [rounds_succ]
  go_wp2
  go_ret
  exact ⟨rfl, hbW6⟩

set_option maxRecDepth 100000 in
set_option maxHeartbeats 1000000 in
theorem law3_sn (x : Addr) (c0 : Nat) (a : Nat → Nat) (z : Addr) (w : World) (ha : Bytes a) (hz : Laid w z) :
    Calls Tryd.prog 3 #[.slice (some x) 0 c0, .slice .none 0 0, .int .i64 0, .agg #[.int .u8 (a 0), .int .u8 (a 1), .int .u8 (a 2), .int .u8 (a 3)]] w fun e w' => e = .returned (.bool true) ∧ Below w.heap.size w w' := by
  have cZ := zzBytes3_any (some x) .none 0 c0 0 0 0 a (w.alloc (.cells #[.int .u8 (a 0), .int .u8 (a 1), .int .u8 (a 2), .int .u8 (a 3)] 24)) (by unfold maxLen; omega) (by unfold maxLen; omega)
  have ba : Below w.heap.size w (w.alloc (.cells #[.int .u8 (a 0), .int .u8 (a 1), .int .u8 (a 2), .int .u8 (a 3)] 24)) := Below.al (Below.refl _ _) _
  have hz' := hz.alloc (.cells #[.int .u8 (a 0), .int .u8 (a 1), .int .u8 (a 2), .int .u8 (a 3)] 24)
  have hbx : Box4 (w.alloc (.cells #[.int .u8 (a 0), .int .u8 (a 1), .int .u8 (a 2), .int .u8 (a 3)] 24)) w.heap.size a := ⟨by go_simp, by go_simp, by go_simp, by go_simp⟩
  have hmk1 : ∀ w : World, (Instr.makeSlice 22 (.int .i64 0) (.int .i64 0)).run Tryd.prog w = .ok (.slice (some ⟨w.heap.size, 0, .none⟩) 0 0) (w.alloc (.cells (madeCells #[.int .u8 0, .int .u8 0, .int .u8 0, .int .u8 0] (0 * 4)) 24)) := run_make24 0 (by omega)
  have hmk2 : ∀ w : World, (Instr.makeSlice 23 (.int .i64 0) (.int .i64 0)).run Tryd.prog w = .ok (.slice (some ⟨w.heap.size, 0, .none⟩) 0 0) (w.alloc (.cells (madeCells #[.int .i64 0] 0) 3)) := run_make3 0 (by omega)
  go_enter Tryd.func3, Tryd.ntmps3
  go_wp2_with (first
    | (go_at_call 5; go_fit cZ; rintro e w1 ⟨⟨q, rfl⟩, hb1⟩)
    | (refine wpList_copy_all _ rfl _ _ 22 22 rfl 24 4 Tryd.underlying22 Tryd.size24 w1.heap.size 0 (some x) c0 rfl rfl 24 _ (fun j => .int .u8 0) (rowIs_made4 _ 0 _ 24) (fun h => absurd h (by omega)) (fun j _ => rfl) ?_; intro w2 hrow2 hg2; have hb2 := below_grown (Below.al hb1 _) hg2 hb1.size; obtain ⟨m0, m1, m2, m3⟩ := hbx.kept hb2))
  · go_ret; exact ⟨rfl, ba.trans (hb1.mono ba.size)⟩
  have hz3 := hz'.kept hb2 hz'.lt
  have hbW : Below w.heap.size w w2 := ba.trans (hb2.mono ba.size)
  have hbx3 : Box4 w2 w.heap.size a := ⟨m0, m1, m2, m3⟩
  clear m0 m1 m2 m3
  go_fit (within4_none _ _ _ _ a z w2 ha hz3)
  rintro e w4 ⟨rfl, hb4⟩
  obtain ⟨m0, m1, m2, m3⟩ := hbx3.kept hb4
  have hbx4 : Box4 w4.drew w.heap.size a := ⟨m0, m1, m2, m3⟩
  have hz4 := hz3.kept hb4 hz3.lt
  have hbW4 := hbW.trans (hb4.mono hbW.size)
  have hz4d : Laid w4.drew z := ⟨hz4.z4, hz4.z0⟩
  go_wp2_with fail
  go_region_held3 (fun w' => w'.cell? ⟨w.heap.size, 0, .none⟩ = some (.int .u8 (a 0)) ∧ w'.cell? ⟨w.heap.size, 1, .none⟩ = some (.int .u8 (a 1)) ∧ w'.cell? ⟨w.heap.size, 2, .none⟩ = some (.int .u8 (a 2)) ∧ w'.cell? ⟨w.heap.size, 3, .none⟩ = some (.int .u8 (a 3))) (go_keep) (first | (go_at_call 6; go_fit (within4_none _ _ _ _ a z _ ha hz4d); rintro e w5 ⟨rfl, hb5⟩; obtain ⟨k0, k1, k2, k3⟩ := hbx4.kept hb5))
  clear m0 m1 m2 m3
  have hbx5 : Box4 w5.drew w.heap.size a := ⟨k0, k1, k2, k3⟩
  have hz5 := hz4d.kept hb5 hz4d.lt
  have hz5d : Laid w5.drew z := ⟨hz5.z4, hz5.z0⟩
  have hbW5 : Below w.heap.size w w5 := hbW4.drew.trans (hb5.mono hbW4.size)
  go_wp2_with fail
  go_region_held3 (fun w' => w'.cell? ⟨w.heap.size, 0, .none⟩ = some (.int .u8 (a 0)) ∧ w'.cell? ⟨w.heap.size, 1, .none⟩ = some (.int .u8 (a 1)) ∧ w'.cell? ⟨w.heap.size, 2, .none⟩ = some (.int .u8 (a 2)) ∧ w'.cell? ⟨w.heap.size, 3, .none⟩ = some (.int .u8 (a 3))) (go_keep) (first | (go_at_call 6; go_fit (within4_none _ _ _ _ a z _ ha hz5d); rintro e w6 ⟨rfl, hb6⟩; obtain ⟨l0, l1, l2, l3⟩ := hbx5.kept hb6))
  have hbW6 : Below w.heap.size w w6 := hbW5.drew.trans (hb6.mono hbW5.size)
  clear k0 k1 k2 k3
  go_wp2
  refine wp_loop_rounds 1 ?_
  rw [rounds_succ]
  go_wp2
  go_ret
  exact ⟨rfl, hbW6⟩
end Go.Proofs.Qxb6612599aDoor
