/- The law FnWithinOnePrefixPutInAnywhere (4), walked. -/
import Derived.Test.Qxb6612599aDoorJ
namespace Go.Proofs.Qxb6612599aDoor
open Go.RowKit
attribute [local go_sem ↓] Go.wp_at_zero Go.wp_at_succ

set_option maxRecDepth 100000 in
set_option maxHeartbeats 2000000 in
theorem law4_nn (n pos : Nat) (X : Nat → Nat → Nat) (C : Nat → Int) (d : Int) (x a : Nat → Nat) (z : Addr) (w : World) (hn : n ≤ 65536) (hp : pos ≤ n) (hX : ∀ i, i < n → Bytes (X i)) (hx : Bytes x) (ha : Bytes a) (hz : Laid w z) (h0 : Hid (n = 0)) :
    Calls Tryd.prog 4 #[.slice .none n 0, .slice .none n 0, .int .i64 (pos : Int), .agg #[.int .u8 (x 0), .int .u8 (x 1), .int .u8 (x 2), .int .u8 (x 3)], .int .i64 d, .agg #[.int .u8 (a 0), .int .u8 (a 1), .int .u8 (a 2), .int .u8 (a 3)]] w fun e w' => e = .returned (.bool true) ∧ Below w.heap.size w w' := by
  have cZ := zzBytes8_any none none n 0 n 0 pos d x a ((w.alloc (.cells #[.int .u8 (x 0), .int .u8 (x 1), .int .u8 (x 2), .int .u8 (x 3)] 24)).alloc (.cells #[.int .u8 (a 0), .int .u8 (a 1), .int .u8 (a 2), .int .u8 (a 3)] 24)) (by unfold maxLen; omega) (by unfold maxLen; omega)
  have ba : Below w.heap.size w ((w.alloc (.cells #[.int .u8 (x 0), .int .u8 (x 1), .int .u8 (x 2), .int .u8 (x 3)] 24)).alloc (.cells #[.int .u8 (a 0), .int .u8 (a 1), .int .u8 (a 2), .int .u8 (a 3)] 24)) := Below.al (Below.al (Below.refl _ _) _) _
  have hz' : Laid ((w.alloc (.cells #[.int .u8 (x 0), .int .u8 (x 1), .int .u8 (x 2), .int .u8 (x 3)] 24)).alloc (.cells #[.int .u8 (a 0), .int .u8 (a 1), .int .u8 (a 2), .int .u8 (a 3)] 24)) z := (hz.alloc _).alloc _
  have hbx : Box4 ((w.alloc (.cells #[.int .u8 (x 0), .int .u8 (x 1), .int .u8 (x 2), .int .u8 (x 3)] 24)).alloc (.cells #[.int .u8 (a 0), .int .u8 (a 1), .int .u8 (a 2), .int .u8 (a 3)] 24)) w.heap.size x := ⟨by go_simp, by go_simp, by go_simp, by go_simp⟩
  have hba : Box4 ((w.alloc (.cells #[.int .u8 (x 0), .int .u8 (x 1), .int .u8 (x 2), .int .u8 (x 3)] 24)).alloc (.cells #[.int .u8 (a 0), .int .u8 (a 1), .int .u8 (a 2), .int .u8 (a 3)] 24)) (w.heap.size + 1) a := ⟨by go_simp, by go_simp, by go_simp, by go_simp⟩
  have d1 : decide ((pos : Int) < 0) = false := by simp
  have d2 : decide ((n : Int) < (pos : Int)) = false := by simp; omega
  go_enter Tryd.func4, Tryd.ntmps4
  go_wp2_with (first
    | (go_at_call 8; go_fit cZ; rintro e w1 ⟨⟨q, rfl⟩, hb1⟩; obtain ⟨m0, m1, m2, m3⟩ := hbx.kept hb1; obtain ⟨n0, n1, n2, n3⟩ := hba.kept hb1))
  · go_ret; exact ⟨rfl, ba.trans (hb1.mono ba.size)⟩
  clear cZ d1 d2
  have gA : AddrsAt w1 none n X := fun i hi => by have := h0.out; omega
  have gB : BitsAt w1 none n C := fun i hi => by have := h0.out; omega
  have hz3 := hz'.kept hb1 hz'.lt
  have hbW : Below w.heap.size w w1 := ba.trans (hb1.mono ba.size)
  have hbx3 : Box4 w1 w.heap.size x := ⟨m0, m1, m2, m3⟩
  have hba3 : Box4 w1 (w.heap.size + 1) a := ⟨n0, n1, n2, n3⟩
  clear m0 m1 m2 m3 n0 n1 n2 n3
  go_fit (within4_any none none n 0 0 n X C a z w1 (by omega) (Nat.le_refl _) (by omega) hX ha hz3 gA gB)
  rintro e w4 ⟨rfl, hb4⟩
  have hbx4 := hbx3.kept hb4
  have hba4 := hba3.kept hb4
  have gA4 := gA.kept hb4
  have gB4 := gB.kept hb4
  have hz4 := hz3.kept hb4 hz3.lt
  have hbW4 := hbW.trans (hb4.mono hbW.size)
  go_wp2_with fail
  go_fit (insInt_any none n 0 pos C d w4 hn hp gB4)
  rintro e w5 ⟨gi, rfl, gB5, hb5⟩
  have hbx5 := hbx4.kept hb5
  have hba5 := hba4.kept hb5
  have gA5 := gA4.kept hb5
  have hz5 := hz4.kept hb5 hz4.lt
  have hbW5 := hbW4.trans (hb5.mono hbW4.size)
  have hz5d : Laid w5.drew z := ⟨hz5.z4, hz5.z0⟩
  have hbx5d : Box4 w5.drew w.heap.size x := hbx5
  have hba5d : Box4 w5.drew (w.heap.size + 1) a := hba5
  have gA5d : AddrsAt w5.drew none n X := gA5
  have gB5d : BitsAt w5.drew (some ⟨gi, 0, .none⟩) (n + 1) (insF C pos d) := gB5
  have HE1 : Hid _ := any_ins (fun u v => holds u v a) X C pos n x d hp
  have HE2 : Hid _ := any_ins (fun u v => holds u v a) X C pos n a d hp
  have HS : Hid _ := holds_self (a := a) d
  obtain ⟨m0, m1, m2, m3⟩ := hbx5
  obtain ⟨n0, n1, n2, n3⟩ := hba5
  go_wp2_with fail
  go_region_held3 (fun w' => w'.cell? ⟨w.heap.size, 0, .none⟩ = some (.int .u8 (x 0)) ∧ w'.cell? ⟨w.heap.size, 1, .none⟩ = some (.int .u8 (x 1)) ∧ w'.cell? ⟨w.heap.size, 2, .none⟩ = some (.int .u8 (x 2)) ∧ w'.cell? ⟨w.heap.size, 3, .none⟩ = some (.int .u8 (x 3)) ∧ w'.cell? ⟨w.heap.size + 1, 0, .none⟩ = some (.int .u8 (a 0)) ∧ w'.cell? ⟨w.heap.size + 1, 1, .none⟩ = some (.int .u8 (a 1)) ∧ w'.cell? ⟨w.heap.size + 1, 2, .none⟩ = some (.int .u8 (a 2)) ∧ w'.cell? ⟨w.heap.size + 1, 3, .none⟩ = some (.int .u8 (a 3))) (go_keep) (first
    | (go_at_call 10; go_fit (insAddr_any none n 0 pos X x w5.drew hn hp gA5d); rintro e w6 ⟨ga, rfl, gX6, hb6⟩; obtain ⟨k0, k1, k2, k3⟩ := hbx5d.kept hb6; obtain ⟨l0, l1, l2, l3⟩ := hba5d.kept hb6)
    | (go_at_call 6; have c6 := (within4_any (some ⟨ga, 0, .none⟩) (some ⟨gi, 0, .none⟩) (n + 1) (n + 1) (n + 1) (n + 1) (insF X pos x) (insF C pos d) a z w6 (by omega) (Nat.le_refl _) (by omega) (bytes_ins hX hx hp) ha (hz5d.kept hb6 hz5d.lt) gX6 (gB5d.kept hb6)); rw [HE1.out] at c6; go_fit c6; clear c6; rintro e w7 ⟨rfl, hb7⟩; obtain ⟨q0, q1, q2, q3⟩ := Box4.kept (w := w6) ⟨k0, k1, k2, k3⟩ hb7; obtain ⟨r0, r1, r2, r3⟩ := Box4.kept (w := w6) ⟨l0, l1, l2, l3⟩ hb7))
  have hz6 := hz5d.kept hb6 hz5d.lt
  have hz7 := hz6.kept hb7 hz6.lt
  have gA7 := (gA5d.kept hb6).kept hb7
  have gB7 := (gB5d.kept hb6).kept hb7
  have hbW6 : Below w.heap.size w w6 := hbW5.drew.trans (hb6.mono hbW5.size)
  have hbW7 : Below w.heap.size w w7 := hbW6.trans (hb7.mono hbW6.size)
  have hz7d : Laid w7.drew z := ⟨hz7.z4, hz7.z0⟩
  have hbx7d : Box4 w7.drew w.heap.size x := ⟨q0, q1, q2, q3⟩
  have hba7d : Box4 w7.drew (w.heap.size + 1) a := ⟨r0, r1, r2, r3⟩
  have gA7d : AddrsAt w7.drew none n X := gA7
  have gB7d : BitsAt w7.drew (some ⟨gi, 0, .none⟩) (n + 1) (insF C pos d) := gB7
  clear m0 m1 m2 m3 n0 n1 n2 n3 k0 k1 k2 k3 l0 l1 l2 l3
  go_wp2_with fail
  go_region_held3 (fun w' => w'.cell? ⟨w.heap.size, 0, .none⟩ = some (.int .u8 (x 0)) ∧ w'.cell? ⟨w.heap.size, 1, .none⟩ = some (.int .u8 (x 1)) ∧ w'.cell? ⟨w.heap.size, 2, .none⟩ = some (.int .u8 (x 2)) ∧ w'.cell? ⟨w.heap.size, 3, .none⟩ = some (.int .u8 (x 3)) ∧ w'.cell? ⟨w.heap.size + 1, 0, .none⟩ = some (.int .u8 (a 0)) ∧ w'.cell? ⟨w.heap.size + 1, 1, .none⟩ = some (.int .u8 (a 1)) ∧ w'.cell? ⟨w.heap.size + 1, 2, .none⟩ = some (.int .u8 (a 2)) ∧ w'.cell? ⟨w.heap.size + 1, 3, .none⟩ = some (.int .u8 (a 3))) (go_keep) (first
    | (go_at_call 10; go_fit (insAddr_any none n 0 pos X a w7.drew hn hp gA7d); rintro e w8 ⟨gc, rfl, gX8, hb8⟩; obtain ⟨k0, k1, k2, k3⟩ := hbx7d.kept hb8; obtain ⟨l0, l1, l2, l3⟩ := hba7d.kept hb8)
    | (go_at_call 6; have c6 := (within4_any (some ⟨gc, 0, .none⟩) (some ⟨gi, 0, .none⟩) (n + 1) (n + 1) (n + 1) (n + 1) (insF X pos a) (insF C pos d) a z w8 (by omega) (Nat.le_refl _) (by omega) (bytes_ins hX ha hp) ha (hz7d.kept hb8 hz7d.lt) gX8 (gB7d.kept hb8)); rw [HE2.out, HS.out] at c6; go_fit c6; clear c6; rintro e w9 ⟨rfl, hb9⟩; obtain ⟨s0, s1, s2, s3⟩ := Box4.kept (w := w8) ⟨k0, k1, k2, k3⟩ hb9; obtain ⟨t0, t1, t2, t3⟩ := Box4.kept (w := w8) ⟨l0, l1, l2, l3⟩ hb9))
  have hbW8 : Below w.heap.size w w8 := hbW7.drew.trans (hb8.mono hbW7.size)
  have hbW9 : Below w.heap.size w w9 := hbW8.trans (hb9.mono hbW8.size)
  clear q0 q1 q2 q3 r0 r1 r2 r3 k0 k1 k2 k3 l0 l1 l2 l3
  have cP := prefHolds_any x a hx ha d w9
  clear HE1 HE2 HS
  generalize ((List.range n).any fun i => holds (X i) (C i) a) = P at *
  generalize holds x d a = Q at *
  by_cases j1 : 0 ≤ d
  · by_cases j2 : d ≤ 32
    · rw [decide_eq_true j1, decide_eq_true j2]
      (cases P <;> cases Q <;> (go_wp2_with (first | (go_at_call 7; go_fit cP; rintro e w10 ⟨rfl, hb10⟩)); go_ret; first | exact ⟨rfl, hbW9⟩ | exact ⟨rfl, hbW9.trans (hb10.mono hbW9.size)⟩))
    · rw [decide_eq_true j1, decide_eq_false j2]
      (cases P <;> cases Q <;> (go_wp2_with (first | (go_at_call 7; go_fit cP; rintro e w10 ⟨rfl, hb10⟩)); go_ret; first | exact ⟨rfl, hbW9⟩ | exact ⟨rfl, hbW9.trans (hb10.mono hbW9.size)⟩))
  · rw [decide_eq_false j1]
    (cases P <;> cases Q <;> (go_wp2_with (first | (go_at_call 7; go_fit cP; rintro e w10 ⟨rfl, hb10⟩)); go_ret; first | exact ⟨rfl, hbW9⟩ | exact ⟨rfl, hbW9.trans (hb10.mono hbW9.size)⟩))

set_option maxRecDepth 100000 in
set_option maxHeartbeats 2000000 in
theorem law4_ns (y : Addr) (c1 : Nat) (n pos : Nat) (X : Nat → Nat → Nat) (C : Nat → Int) (d : Int) (x a : Nat → Nat) (z : Addr) (w : World) (hn : n ≤ 65536) (hp : pos ≤ n) (hX : ∀ i, i < n → Bytes (X i)) (hx : Bytes x) (ha : Bytes a) (hz : Laid w z) (h0 : Hid (n = 0)) (hB : IntCells w y n C) :
    Calls Tryd.prog 4 #[.slice .none n 0, .slice (some y) n c1, .int .i64 (pos : Int), .agg #[.int .u8 (x 0), .int .u8 (x 1), .int .u8 (x 2), .int .u8 (x 3)], .int .i64 d, .agg #[.int .u8 (a 0), .int .u8 (a 1), .int .u8 (a 2), .int .u8 (a 3)]] w fun e w' => e = .returned (.bool true) ∧ Below w.heap.size w w' := by
  have cZ := zzBytes8_any none (some y) n 0 n c1 pos d x a ((w.alloc (.cells #[.int .u8 (x 0), .int .u8 (x 1), .int .u8 (x 2), .int .u8 (x 3)] 24)).alloc (.cells #[.int .u8 (a 0), .int .u8 (a 1), .int .u8 (a 2), .int .u8 (a 3)] 24)) (by unfold maxLen; omega) (by unfold maxLen; omega)
  have ba : Below w.heap.size w ((w.alloc (.cells #[.int .u8 (x 0), .int .u8 (x 1), .int .u8 (x 2), .int .u8 (x 3)] 24)).alloc (.cells #[.int .u8 (a 0), .int .u8 (a 1), .int .u8 (a 2), .int .u8 (a 3)] 24)) := Below.al (Below.al (Below.refl _ _) _) _
  have hz' : Laid ((w.alloc (.cells #[.int .u8 (x 0), .int .u8 (x 1), .int .u8 (x 2), .int .u8 (x 3)] 24)).alloc (.cells #[.int .u8 (a 0), .int .u8 (a 1), .int .u8 (a 2), .int .u8 (a 3)] 24)) z := (hz.alloc _).alloc _
  have hbx : Box4 ((w.alloc (.cells #[.int .u8 (x 0), .int .u8 (x 1), .int .u8 (x 2), .int .u8 (x 3)] 24)).alloc (.cells #[.int .u8 (a 0), .int .u8 (a 1), .int .u8 (a 2), .int .u8 (a 3)] 24)) w.heap.size x := ⟨by go_simp, by go_simp, by go_simp, by go_simp⟩
  have hba : Box4 ((w.alloc (.cells #[.int .u8 (x 0), .int .u8 (x 1), .int .u8 (x 2), .int .u8 (x 3)] 24)).alloc (.cells #[.int .u8 (a 0), .int .u8 (a 1), .int .u8 (a 2), .int .u8 (a 3)] 24)) (w.heap.size + 1) a := ⟨by go_simp, by go_simp, by go_simp, by go_simp⟩
  have hB' := (hB.kept (Below.al (Below.refl _ _) (.cells #[.int .u8 (x 0), .int .u8 (x 1), .int .u8 (x 2), .int .u8 (x 3)] 24))).kept (Below.al (Below.refl _ _) (.cells #[.int .u8 (a 0), .int .u8 (a 1), .int .u8 (a 2), .int .u8 (a 3)] 24))
  have hmk2 := run_make3 n (by omega)
  have d1 : decide ((pos : Int) < 0) = false := by simp
  have d2 : decide ((n : Int) < (pos : Int)) = false := by simp; omega
  go_enter Tryd.func4, Tryd.ntmps4
  go_wp2_with (first
    | (go_at_call 8; go_fit cZ; rintro e w1 ⟨⟨q, rfl⟩, hb1⟩)
    | (refine wpList_copy_one _ rfl _ _ 23 23 rfl 3 Tryd.underlying23 Tryd.size3 w1.heap.size n (some y) c1 rfl rfl 3 _ (fun j => .int .i64 (C j)) (World.rowIs_made _ _ n 3) (fun _ => ⟨y, rfl, (hB'.kept (Below.al hb1 _))⟩) (fun j _ => rfl) ?_; intro w2 hrow2 hg2; have hb2 := below_grown (Below.al hb1 _) hg2 hb1.size; obtain ⟨m0, m1, m2, m3⟩ := hbx.kept hb2; obtain ⟨n0, n1, n2, n3⟩ := hba.kept hb2))
  · go_ret; exact ⟨rfl, ba.trans (hb1.mono ba.size)⟩
  clear cZ hmk2 d1 d2
  have gA : AddrsAt w2 none n X := fun i hi => by have := h0.out; omega
  have gB : BitsAt w2 (some ⟨w1.heap.size, 0, .none⟩) n C := bitsAt_row hrow2
  have hz3 := hz'.kept hb2 hz'.lt
  have hbW : Below w.heap.size w w2 := ba.trans (hb2.mono ba.size)
  have hbx3 : Box4 w2 w.heap.size x := ⟨m0, m1, m2, m3⟩
  have hba3 : Box4 w2 (w.heap.size + 1) a := ⟨n0, n1, n2, n3⟩
  clear m0 m1 m2 m3 n0 n1 n2 n3
  go_fit (within4_any none (some ⟨w1.heap.size, 0, .none⟩) n 0 n n X C a z w2 (by omega) (Nat.le_refl _) (by omega) hX ha hz3 gA gB)
  rintro e w4 ⟨rfl, hb4⟩
  have hbx4 := hbx3.kept hb4
  have hba4 := hba3.kept hb4
  have gA4 := gA.kept hb4
  have gB4 := gB.kept hb4
  have hz4 := hz3.kept hb4 hz3.lt
  have hbW4 := hbW.trans (hb4.mono hbW.size)
  go_wp2_with fail
  go_fit (insInt_any (some ⟨w1.heap.size, 0, .none⟩) n n pos C d w4 hn hp gB4)
  rintro e w5 ⟨gi, rfl, gB5, hb5⟩
  have hbx5 := hbx4.kept hb5
  have hba5 := hba4.kept hb5
  have gA5 := gA4.kept hb5
  have hz5 := hz4.kept hb5 hz4.lt
  have hbW5 := hbW4.trans (hb5.mono hbW4.size)
  have hz5d : Laid w5.drew z := ⟨hz5.z4, hz5.z0⟩
  have hbx5d : Box4 w5.drew w.heap.size x := hbx5
  have hba5d : Box4 w5.drew (w.heap.size + 1) a := hba5
  have gA5d : AddrsAt w5.drew none n X := gA5
  have gB5d : BitsAt w5.drew (some ⟨gi, 0, .none⟩) (n + 1) (insF C pos d) := gB5
  have HE1 : Hid _ := any_ins (fun u v => holds u v a) X C pos n x d hp
  have HE2 : Hid _ := any_ins (fun u v => holds u v a) X C pos n a d hp
  have HS : Hid _ := holds_self (a := a) d
  obtain ⟨m0, m1, m2, m3⟩ := hbx5
  obtain ⟨n0, n1, n2, n3⟩ := hba5
  go_wp2_with fail
  go_region_held3 (fun w' => w'.cell? ⟨w.heap.size, 0, .none⟩ = some (.int .u8 (x 0)) ∧ w'.cell? ⟨w.heap.size, 1, .none⟩ = some (.int .u8 (x 1)) ∧ w'.cell? ⟨w.heap.size, 2, .none⟩ = some (.int .u8 (x 2)) ∧ w'.cell? ⟨w.heap.size, 3, .none⟩ = some (.int .u8 (x 3)) ∧ w'.cell? ⟨w.heap.size + 1, 0, .none⟩ = some (.int .u8 (a 0)) ∧ w'.cell? ⟨w.heap.size + 1, 1, .none⟩ = some (.int .u8 (a 1)) ∧ w'.cell? ⟨w.heap.size + 1, 2, .none⟩ = some (.int .u8 (a 2)) ∧ w'.cell? ⟨w.heap.size + 1, 3, .none⟩ = some (.int .u8 (a 3))) (go_keep) (first
    | (go_at_call 10; go_fit (insAddr_any none n 0 pos X x w5.drew hn hp gA5d); rintro e w6 ⟨ga, rfl, gX6, hb6⟩; obtain ⟨k0, k1, k2, k3⟩ := hbx5d.kept hb6; obtain ⟨l0, l1, l2, l3⟩ := hba5d.kept hb6)
    | (go_at_call 6; have c6 := (within4_any (some ⟨ga, 0, .none⟩) (some ⟨gi, 0, .none⟩) (n + 1) (n + 1) (n + 1) (n + 1) (insF X pos x) (insF C pos d) a z w6 (by omega) (Nat.le_refl _) (by omega) (bytes_ins hX hx hp) ha (hz5d.kept hb6 hz5d.lt) gX6 (gB5d.kept hb6)); rw [HE1.out] at c6; go_fit c6; clear c6; rintro e w7 ⟨rfl, hb7⟩; obtain ⟨q0, q1, q2, q3⟩ := Box4.kept (w := w6) ⟨k0, k1, k2, k3⟩ hb7; obtain ⟨r0, r1, r2, r3⟩ := Box4.kept (w := w6) ⟨l0, l1, l2, l3⟩ hb7))
  have hz6 := hz5d.kept hb6 hz5d.lt
  have hz7 := hz6.kept hb7 hz6.lt
  have gA7 := (gA5d.kept hb6).kept hb7
  have gB7 := (gB5d.kept hb6).kept hb7
  have hbW6 : Below w.heap.size w w6 := hbW5.drew.trans (hb6.mono hbW5.size)
  have hbW7 : Below w.heap.size w w7 := hbW6.trans (hb7.mono hbW6.size)
  have hz7d : Laid w7.drew z := ⟨hz7.z4, hz7.z0⟩
  have hbx7d : Box4 w7.drew w.heap.size x := ⟨q0, q1, q2, q3⟩
  have hba7d : Box4 w7.drew (w.heap.size + 1) a := ⟨r0, r1, r2, r3⟩
  have gA7d : AddrsAt w7.drew none n X := gA7
  have gB7d : BitsAt w7.drew (some ⟨gi, 0, .none⟩) (n + 1) (insF C pos d) := gB7
  clear m0 m1 m2 m3 n0 n1 n2 n3 k0 k1 k2 k3 l0 l1 l2 l3
  go_wp2_with fail
  go_region_held3 (fun w' => w'.cell? ⟨w.heap.size, 0, .none⟩ = some (.int .u8 (x 0)) ∧ w'.cell? ⟨w.heap.size, 1, .none⟩ = some (.int .u8 (x 1)) ∧ w'.cell? ⟨w.heap.size, 2, .none⟩ = some (.int .u8 (x 2)) ∧ w'.cell? ⟨w.heap.size, 3, .none⟩ = some (.int .u8 (x 3)) ∧ w'.cell? ⟨w.heap.size + 1, 0, .none⟩ = some (.int .u8 (a 0)) ∧ w'.cell? ⟨w.heap.size + 1, 1, .none⟩ = some (.int .u8 (a 1)) ∧ w'.cell? ⟨w.heap.size + 1, 2, .none⟩ = some (.int .u8 (a 2)) ∧ w'.cell? ⟨w.heap.size + 1, 3, .none⟩ = some (.int .u8 (a 3))) (go_keep) (first
    | (go_at_call 10; go_fit (insAddr_any none n 0 pos X a w7.drew hn hp gA7d); rintro e w8 ⟨gc, rfl, gX8, hb8⟩; obtain ⟨k0, k1, k2, k3⟩ := hbx7d.kept hb8; obtain ⟨l0, l1, l2, l3⟩ := hba7d.kept hb8)
    | (go_at_call 6; have c6 := (within4_any (some ⟨gc, 0, .none⟩) (some ⟨gi, 0, .none⟩) (n + 1) (n + 1) (n + 1) (n + 1) (insF X pos a) (insF C pos d) a z w8 (by omega) (Nat.le_refl _) (by omega) (bytes_ins hX ha hp) ha (hz7d.kept hb8 hz7d.lt) gX8 (gB7d.kept hb8)); rw [HE2.out, HS.out] at c6; go_fit c6; clear c6; rintro e w9 ⟨rfl, hb9⟩; obtain ⟨s0, s1, s2, s3⟩ := Box4.kept (w := w8) ⟨k0, k1, k2, k3⟩ hb9; obtain ⟨t0, t1, t2, t3⟩ := Box4.kept (w := w8) ⟨l0, l1, l2, l3⟩ hb9))
  have hbW8 : Below w.heap.size w w8 := hbW7.drew.trans (hb8.mono hbW7.size)
  have hbW9 : Below w.heap.size w w9 := hbW8.trans (hb9.mono hbW8.size)
  clear q0 q1 q2 q3 r0 r1 r2 r3 k0 k1 k2 k3 l0 l1 l2 l3
  have cP := prefHolds_any x a hx ha d w9
  clear HE1 HE2 HS
  generalize ((List.range n).any fun i => holds (X i) (C i) a) = P at *
  generalize holds x d a = Q at *
  by_cases j1 : 0 ≤ d
  · by_cases j2 : d ≤ 32
    · rw [decide_eq_true j1, decide_eq_true j2]
      (cases P <;> cases Q <;> (go_wp2_with (first | (go_at_call 7; go_fit cP; rintro e w10 ⟨rfl, hb10⟩)); go_ret; first | exact ⟨rfl, hbW9⟩ | exact ⟨rfl, hbW9.trans (hb10.mono hbW9.size)⟩))
    · rw [decide_eq_true j1, decide_eq_false j2]
      (cases P <;> cases Q <;> (go_wp2_with (first | (go_at_call 7; go_fit cP; rintro e w10 ⟨rfl, hb10⟩)); go_ret; first | exact ⟨rfl, hbW9⟩ | exact ⟨rfl, hbW9.trans (hb10.mono hbW9.size)⟩))
  · rw [decide_eq_false j1]
    (cases P <;> cases Q <;> (go_wp2_with (first | (go_at_call 7; go_fit cP; rintro e w10 ⟨rfl, hb10⟩)); go_ret; first | exact ⟨rfl, hbW9⟩ | exact ⟨rfl, hbW9.trans (hb10.mono hbW9.size)⟩))

set_option maxRecDepth 100000 in
set_option maxHeartbeats 2000000 in
theorem law4_sn (p : Addr) (c0 : Nat) (n pos : Nat) (X : Nat → Nat → Nat) (C : Nat → Int) (d : Int) (x a : Nat → Nat) (z : Addr) (w : World) (hn : n ≤ 65536) (hp : pos ≤ n) (hX : ∀ i, i < n → Bytes (X i)) (hx : Bytes x) (ha : Bytes a) (hz : Laid w z) (h0 : Hid (n = 0)) (hA : AddrCells w p n X) :
    Calls Tryd.prog 4 #[.slice (some p) n c0, .slice .none n 0, .int .i64 (pos : Int), .agg #[.int .u8 (x 0), .int .u8 (x 1), .int .u8 (x 2), .int .u8 (x 3)], .int .i64 d, .agg #[.int .u8 (a 0), .int .u8 (a 1), .int .u8 (a 2), .int .u8 (a 3)]] w fun e w' => e = .returned (.bool true) ∧ Below w.heap.size w w' := by
  have cZ := zzBytes8_any (some p) none n c0 n 0 pos d x a ((w.alloc (.cells #[.int .u8 (x 0), .int .u8 (x 1), .int .u8 (x 2), .int .u8 (x 3)] 24)).alloc (.cells #[.int .u8 (a 0), .int .u8 (a 1), .int .u8 (a 2), .int .u8 (a 3)] 24)) (by unfold maxLen; omega) (by unfold maxLen; omega)
  have ba : Below w.heap.size w ((w.alloc (.cells #[.int .u8 (x 0), .int .u8 (x 1), .int .u8 (x 2), .int .u8 (x 3)] 24)).alloc (.cells #[.int .u8 (a 0), .int .u8 (a 1), .int .u8 (a 2), .int .u8 (a 3)] 24)) := Below.al (Below.al (Below.refl _ _) _) _
  have hz' : Laid ((w.alloc (.cells #[.int .u8 (x 0), .int .u8 (x 1), .int .u8 (x 2), .int .u8 (x 3)] 24)).alloc (.cells #[.int .u8 (a 0), .int .u8 (a 1), .int .u8 (a 2), .int .u8 (a 3)] 24)) z := (hz.alloc _).alloc _
  have hbx : Box4 ((w.alloc (.cells #[.int .u8 (x 0), .int .u8 (x 1), .int .u8 (x 2), .int .u8 (x 3)] 24)).alloc (.cells #[.int .u8 (a 0), .int .u8 (a 1), .int .u8 (a 2), .int .u8 (a 3)] 24)) w.heap.size x := ⟨by go_simp, by go_simp, by go_simp, by go_simp⟩
  have hba : Box4 ((w.alloc (.cells #[.int .u8 (x 0), .int .u8 (x 1), .int .u8 (x 2), .int .u8 (x 3)] 24)).alloc (.cells #[.int .u8 (a 0), .int .u8 (a 1), .int .u8 (a 2), .int .u8 (a 3)] 24)) (w.heap.size + 1) a := ⟨by go_simp, by go_simp, by go_simp, by go_simp⟩
  have hA' := (hA.kept (Below.al (Below.refl _ _) (.cells #[.int .u8 (x 0), .int .u8 (x 1), .int .u8 (x 2), .int .u8 (x 3)] 24))).kept (Below.al (Below.refl _ _) (.cells #[.int .u8 (a 0), .int .u8 (a 1), .int .u8 (a 2), .int .u8 (a 3)] 24))
  have hmk1 := run_make24 n (by omega)
  have d1 : decide ((pos : Int) < 0) = false := by simp
  have d2 : decide ((n : Int) < (pos : Int)) = false := by simp; omega
  go_enter Tryd.func4, Tryd.ntmps4
  go_wp2_with (first
    | (go_at_call 8; go_fit cZ; rintro e w1 ⟨⟨q, rfl⟩, hb1⟩)
    | (refine wpList_copy_all _ rfl _ _ 22 22 rfl 24 4 Tryd.underlying22 Tryd.size24 w1.heap.size n (some p) c0 rfl rfl 24 _ (fun j => .int .u8 (X (j / 4) (j % 4))) (rowIs_made4 _ n _ 24) (fun _ => ⟨p, rfl, (hA'.kept (Below.al hb1 _))⟩) (fun j _ => rfl) ?_; intro w2 hrow2 hg2; have hb2 := below_grown (Below.al hb1 _) hg2 hb1.size; obtain ⟨m0, m1, m2, m3⟩ := hbx.kept hb2; obtain ⟨n0, n1, n2, n3⟩ := hba.kept hb2))
  · go_ret; exact ⟨rfl, ba.trans (hb1.mono ba.size)⟩
  clear cZ hmk1 d1 d2
  have gA : AddrsAt w2 (some ⟨w1.heap.size, 0, .none⟩) n X := addrsAt_row hrow2
  have gB : BitsAt w2 none n C := fun i hi => by have := h0.out; omega
  have hz3 := hz'.kept hb2 hz'.lt
  have hbW : Below w.heap.size w w2 := ba.trans (hb2.mono ba.size)
  have hbx3 : Box4 w2 w.heap.size x := ⟨m0, m1, m2, m3⟩
  have hba3 : Box4 w2 (w.heap.size + 1) a := ⟨n0, n1, n2, n3⟩
  clear m0 m1 m2 m3 n0 n1 n2 n3
  go_fit (within4_any (some ⟨w1.heap.size, 0, .none⟩) none n n 0 n X C a z w2 (by omega) (Nat.le_refl _) (by omega) hX ha hz3 gA gB)
  rintro e w4 ⟨rfl, hb4⟩
  have hbx4 := hbx3.kept hb4
  have hba4 := hba3.kept hb4
  have gA4 := gA.kept hb4
  have gB4 := gB.kept hb4
  have hz4 := hz3.kept hb4 hz3.lt
  have hbW4 := hbW.trans (hb4.mono hbW.size)
  go_wp2_with fail
  go_fit (insInt_any none n 0 pos C d w4 hn hp gB4)
  rintro e w5 ⟨gi, rfl, gB5, hb5⟩
  have hbx5 := hbx4.kept hb5
  have hba5 := hba4.kept hb5
  have gA5 := gA4.kept hb5
  have hz5 := hz4.kept hb5 hz4.lt
  have hbW5 := hbW4.trans (hb5.mono hbW4.size)
  have hz5d : Laid w5.drew z := ⟨hz5.z4, hz5.z0⟩
  have hbx5d : Box4 w5.drew w.heap.size x := hbx5
  have hba5d : Box4 w5.drew (w.heap.size + 1) a := hba5
  have gA5d : AddrsAt w5.drew (some ⟨w1.heap.size, 0, .none⟩) n X := gA5
  have gB5d : BitsAt w5.drew (some ⟨gi, 0, .none⟩) (n + 1) (insF C pos d) := gB5
  have HE1 : Hid _ := any_ins (fun u v => holds u v a) X C pos n x d hp
  have HE2 : Hid _ := any_ins (fun u v => holds u v a) X C pos n a d hp
  have HS : Hid _ := holds_self (a := a) d
  obtain ⟨m0, m1, m2, m3⟩ := hbx5
  obtain ⟨n0, n1, n2, n3⟩ := hba5
  go_wp2_with fail
  go_region_held3 (fun w' => w'.cell? ⟨w.heap.size, 0, .none⟩ = some (.int .u8 (x 0)) ∧ w'.cell? ⟨w.heap.size, 1, .none⟩ = some (.int .u8 (x 1)) ∧ w'.cell? ⟨w.heap.size, 2, .none⟩ = some (.int .u8 (x 2)) ∧ w'.cell? ⟨w.heap.size, 3, .none⟩ = some (.int .u8 (x 3)) ∧ w'.cell? ⟨w.heap.size + 1, 0, .none⟩ = some (.int .u8 (a 0)) ∧ w'.cell? ⟨w.heap.size + 1, 1, .none⟩ = some (.int .u8 (a 1)) ∧ w'.cell? ⟨w.heap.size + 1, 2, .none⟩ = some (.int .u8 (a 2)) ∧ w'.cell? ⟨w.heap.size + 1, 3, .none⟩ = some (.int .u8 (a 3))) (go_keep) (first
    | (go_at_call 10; go_fit (insAddr_any (some ⟨w1.heap.size, 0, .none⟩) n n pos X x w5.drew hn hp gA5d); rintro e w6 ⟨ga, rfl, gX6, hb6⟩; obtain ⟨k0, k1, k2, k3⟩ := hbx5d.kept hb6; obtain ⟨l0, l1, l2, l3⟩ := hba5d.kept hb6)
    | (go_at_call 6; have c6 := (within4_any (some ⟨ga, 0, .none⟩) (some ⟨gi, 0, .none⟩) (n + 1) (n + 1) (n + 1) (n + 1) (insF X pos x) (insF C pos d) a z w6 (by omega) (Nat.le_refl _) (by omega) (bytes_ins hX hx hp) ha (hz5d.kept hb6 hz5d.lt) gX6 (gB5d.kept hb6)); rw [HE1.out] at c6; go_fit c6; clear c6; rintro e w7 ⟨rfl, hb7⟩; obtain ⟨q0, q1, q2, q3⟩ := Box4.kept (w := w6) ⟨k0, k1, k2, k3⟩ hb7; obtain ⟨r0, r1, r2, r3⟩ := Box4.kept (w := w6) ⟨l0, l1, l2, l3⟩ hb7))
  have hz6 := hz5d.kept hb6 hz5d.lt
  have hz7 := hz6.kept hb7 hz6.lt
  have gA7 := (gA5d.kept hb6).kept hb7
  have gB7 := (gB5d.kept hb6).kept hb7
  have hbW6 : Below w.heap.size w w6 := hbW5.drew.trans (hb6.mono hbW5.size)
  have hbW7 : Below w.heap.size w w7 := hbW6.trans (hb7.mono hbW6.size)
  have hz7d : Laid w7.drew z := ⟨hz7.z4, hz7.z0⟩
  have hbx7d : Box4 w7.drew w.heap.size x := ⟨q0, q1, q2, q3⟩
  have hba7d : Box4 w7.drew (w.heap.size + 1) a := ⟨r0, r1, r2, r3⟩
  have gA7d : AddrsAt w7.drew (some ⟨w1.heap.size, 0, .none⟩) n X := gA7
  have gB7d : BitsAt w7.drew (some ⟨gi, 0, .none⟩) (n + 1) (insF C pos d) := gB7
  clear m0 m1 m2 m3 n0 n1 n2 n3 k0 k1 k2 k3 l0 l1 l2 l3
  go_wp2_with fail
  go_region_held3 (fun w' => w'.cell? ⟨w.heap.size, 0, .none⟩ = some (.int .u8 (x 0)) ∧ w'.cell? ⟨w.heap.size, 1, .none⟩ = some (.int .u8 (x 1)) ∧ w'.cell? ⟨w.heap.size, 2, .none⟩ = some (.int .u8 (x 2)) ∧ w'.cell? ⟨w.heap.size, 3, .none⟩ = some (.int .u8 (x 3)) ∧ w'.cell? ⟨w.heap.size + 1, 0, .none⟩ = some (.int .u8 (a 0)) ∧ w'.cell? ⟨w.heap.size + 1, 1, .none⟩ = some (.int .u8 (a 1)) ∧ w'.cell? ⟨w.heap.size + 1, 2, .none⟩ = some (.int .u8 (a 2)) ∧ w'.cell? ⟨w.heap.size + 1, 3, .none⟩ = some (.int .u8 (a 3))) (go_keep) (first
    | (go_at_call 10; go_fit (insAddr_any (some ⟨w1.heap.size, 0, .none⟩) n n pos X a w7.drew hn hp gA7d); rintro e w8 ⟨gc, rfl, gX8, hb8⟩; obtain ⟨k0, k1, k2, k3⟩ := hbx7d.kept hb8; obtain ⟨l0, l1, l2, l3⟩ := hba7d.kept hb8)
    | (go_at_call 6; have c6 := (within4_any (some ⟨gc, 0, .none⟩) (some ⟨gi, 0, .none⟩) (n + 1) (n + 1) (n + 1) (n + 1) (insF X pos a) (insF C pos d) a z w8 (by omega) (Nat.le_refl _) (by omega) (bytes_ins hX ha hp) ha (hz7d.kept hb8 hz7d.lt) gX8 (gB7d.kept hb8)); rw [HE2.out, HS.out] at c6; go_fit c6; clear c6; rintro e w9 ⟨rfl, hb9⟩; obtain ⟨s0, s1, s2, s3⟩ := Box4.kept (w := w8) ⟨k0, k1, k2, k3⟩ hb9; obtain ⟨t0, t1, t2, t3⟩ := Box4.kept (w := w8) ⟨l0, l1, l2, l3⟩ hb9))
  have hbW8 : Below w.heap.size w w8 := hbW7.drew.trans (hb8.mono hbW7.size)
  have hbW9 : Below w.heap.size w w9 := hbW8.trans (hb9.mono hbW8.size)
  clear q0 q1 q2 q3 r0 r1 r2 r3 k0 k1 k2 k3 l0 l1 l2 l3
  have cP := prefHolds_any x a hx ha d w9
  clear HE1 HE2 HS
  generalize ((List.range n).any fun i => holds (X i) (C i) a) = P at *
  generalize holds x d a = Q at *
  by_cases j1 : 0 ≤ d
  · by_cases j2 : d ≤ 32
    · rw [decide_eq_true j1, decide_eq_true j2]
      (cases P <;> cases Q <;> (go_wp2_with (first | (go_at_call 7; go_fit cP; rintro e w10 ⟨rfl, hb10⟩)); go_ret; first | exact ⟨rfl, hbW9⟩ | exact ⟨rfl, hbW9.trans (hb10.mono hbW9.size)⟩))
    · rw [decide_eq_true j1, decide_eq_false j2]
      (cases P <;> cases Q <;> (go_wp2_with (first | (go_at_call 7; go_fit cP; rintro e w10 ⟨rfl, hb10⟩)); go_ret; first | exact ⟨rfl, hbW9⟩ | exact ⟨rfl, hbW9.trans (hb10.mono hbW9.size)⟩))
  · rw [decide_eq_false j1]
    (cases P <;> cases Q <;> (go_wp2_with (first | (go_at_call 7; go_fit cP; rintro e w10 ⟨rfl, hb10⟩)); go_ret; first | exact ⟨rfl, hbW9⟩ | exact ⟨rfl, hbW9.trans (hb10.mono hbW9.size)⟩))

set_option maxRecDepth 100000 in
set_option maxHeartbeats 2000000 in
theorem law4_ss (p y : Addr) (c0 c1 : Nat) (n pos : Nat) (X : Nat → Nat → Nat) (C : Nat → Int) (d : Int) (x a : Nat → Nat) (z : Addr) (w : World) (hn : n ≤ 65536) (hp : pos ≤ n) (hX : ∀ i, i < n → Bytes (X i)) (hx : Bytes x) (ha : Bytes a) (hz : Laid w z) (hA : AddrCells w p n X) (hB : IntCells w y n C) :
    Calls Tryd.prog 4 #[.slice (some p) n c0, .slice (some y) n c1, .int .i64 (pos : Int), .agg #[.int .u8 (x 0), .int .u8 (x 1), .int .u8 (x 2), .int .u8 (x 3)], .int .i64 d, .agg #[.int .u8 (a 0), .int .u8 (a 1), .int .u8 (a 2), .int .u8 (a 3)]] w fun e w' => e = .returned (.bool true) ∧ Below w.heap.size w w' := by
  have cZ := zzBytes8_any (some p) (some y) n c0 n c1 pos d x a ((w.alloc (.cells #[.int .u8 (x 0), .int .u8 (x 1), .int .u8 (x 2), .int .u8 (x 3)] 24)).alloc (.cells #[.int .u8 (a 0), .int .u8 (a 1), .int .u8 (a 2), .int .u8 (a 3)] 24)) (by unfold maxLen; omega) (by unfold maxLen; omega)
  have ba : Below w.heap.size w ((w.alloc (.cells #[.int .u8 (x 0), .int .u8 (x 1), .int .u8 (x 2), .int .u8 (x 3)] 24)).alloc (.cells #[.int .u8 (a 0), .int .u8 (a 1), .int .u8 (a 2), .int .u8 (a 3)] 24)) := Below.al (Below.al (Below.refl _ _) _) _
  have hz' : Laid ((w.alloc (.cells #[.int .u8 (x 0), .int .u8 (x 1), .int .u8 (x 2), .int .u8 (x 3)] 24)).alloc (.cells #[.int .u8 (a 0), .int .u8 (a 1), .int .u8 (a 2), .int .u8 (a 3)] 24)) z := (hz.alloc _).alloc _
  have hbx : Box4 ((w.alloc (.cells #[.int .u8 (x 0), .int .u8 (x 1), .int .u8 (x 2), .int .u8 (x 3)] 24)).alloc (.cells #[.int .u8 (a 0), .int .u8 (a 1), .int .u8 (a 2), .int .u8 (a 3)] 24)) w.heap.size x := ⟨by go_simp, by go_simp, by go_simp, by go_simp⟩
  have hba : Box4 ((w.alloc (.cells #[.int .u8 (x 0), .int .u8 (x 1), .int .u8 (x 2), .int .u8 (x 3)] 24)).alloc (.cells #[.int .u8 (a 0), .int .u8 (a 1), .int .u8 (a 2), .int .u8 (a 3)] 24)) (w.heap.size + 1) a := ⟨by go_simp, by go_simp, by go_simp, by go_simp⟩
  have hA' := (hA.kept (Below.al (Below.refl _ _) (.cells #[.int .u8 (x 0), .int .u8 (x 1), .int .u8 (x 2), .int .u8 (x 3)] 24))).kept (Below.al (Below.refl _ _) (.cells #[.int .u8 (a 0), .int .u8 (a 1), .int .u8 (a 2), .int .u8 (a 3)] 24))
  have hB' := (hB.kept (Below.al (Below.refl _ _) (.cells #[.int .u8 (x 0), .int .u8 (x 1), .int .u8 (x 2), .int .u8 (x 3)] 24))).kept (Below.al (Below.refl _ _) (.cells #[.int .u8 (a 0), .int .u8 (a 1), .int .u8 (a 2), .int .u8 (a 3)] 24))
  have hmk1 := run_make24 n (by omega)
  have hmk2 := run_make3 n (by omega)
  have d1 : decide ((pos : Int) < 0) = false := by simp
  have d2 : decide ((n : Int) < (pos : Int)) = false := by simp; omega
  go_enter Tryd.func4, Tryd.ntmps4
  go_wp2_with (first
    | (go_at_call 8; go_fit cZ; rintro e w1 ⟨⟨q, rfl⟩, hb1⟩)
    | (refine wpList_copy_all _ rfl _ _ 22 22 rfl 24 4 Tryd.underlying22 Tryd.size24 w1.heap.size n (some p) c0 rfl rfl 24 _ (fun j => .int .u8 (X (j / 4) (j % 4))) (rowIs_made4 _ n _ 24) (fun _ => ⟨p, rfl, (hA'.kept (Below.al hb1 _))⟩) (fun j _ => rfl) ?_; intro w2 hrow2 hg2; have hb2 := below_grown (Below.al hb1 _) hg2 hb1.size)
    | (refine wpList_copy_one _ rfl _ _ 23 23 rfl 3 Tryd.underlying23 Tryd.size3 w2.heap.size n (some y) c1 rfl rfl 3 _ (fun j => .int .i64 (C j)) (World.rowIs_made _ _ n 3) (fun _ => ⟨y, rfl, (hB'.kept (Below.al hb2 _))⟩) (fun j _ => rfl) ?_; intro w3 hrow3 hg3; have hb3 := below_grown (Below.al hb2 _) hg3 hb2.size; obtain ⟨m0, m1, m2, m3⟩ := hbx.kept hb3; obtain ⟨n0, n1, n2, n3⟩ := hba.kept hb3))
  · go_ret; exact ⟨rfl, ba.trans (hb1.mono ba.size)⟩
  clear cZ hmk1 hmk2 d1 d2
  have hr2 : w3.rowIs w1.heap.size 24 (n * 4) (fun j => .int .u8 (X (j / 4) (j % 4))) := (hrow2.alloc _).of_block (hg3.block _ (by have := hrow2.lt; simp; omega) (fun e => by have := Option.some.inj e; have := hrow2.lt; omega))
  have gA : AddrsAt w3 (some ⟨w1.heap.size, 0, .none⟩) n X := addrsAt_row hr2
  have gB : BitsAt w3 (some ⟨w2.heap.size, 0, .none⟩) n C := bitsAt_row hrow3
  have hz3 := hz'.kept hb3 hz'.lt
  have hbW : Below w.heap.size w w3 := ba.trans (hb3.mono ba.size)
  have hbx3 : Box4 w3 w.heap.size x := ⟨m0, m1, m2, m3⟩
  have hba3 : Box4 w3 (w.heap.size + 1) a := ⟨n0, n1, n2, n3⟩
  clear m0 m1 m2 m3 n0 n1 n2 n3
  go_fit (within4_any (some ⟨w1.heap.size, 0, .none⟩) (some ⟨w2.heap.size, 0, .none⟩) n n n n X C a z w3 (by omega) (Nat.le_refl _) (by omega) hX ha hz3 gA gB)
  rintro e w4 ⟨rfl, hb4⟩
  have hbx4 := hbx3.kept hb4
  have hba4 := hba3.kept hb4
  have gA4 := gA.kept hb4
  have gB4 := gB.kept hb4
  have hz4 := hz3.kept hb4 hz3.lt
  have hbW4 := hbW.trans (hb4.mono hbW.size)
  go_wp2_with fail
  go_fit (insInt_any (some ⟨w2.heap.size, 0, .none⟩) n n pos C d w4 hn hp gB4)
  rintro e w5 ⟨gi, rfl, gB5, hb5⟩
  have hbx5 := hbx4.kept hb5
  have hba5 := hba4.kept hb5
  have gA5 := gA4.kept hb5
  have hz5 := hz4.kept hb5 hz4.lt
  have hbW5 := hbW4.trans (hb5.mono hbW4.size)
  have hz5d : Laid w5.drew z := ⟨hz5.z4, hz5.z0⟩
  have hbx5d : Box4 w5.drew w.heap.size x := hbx5
  have hba5d : Box4 w5.drew (w.heap.size + 1) a := hba5
  have gA5d : AddrsAt w5.drew (some ⟨w1.heap.size, 0, .none⟩) n X := gA5
  have gB5d : BitsAt w5.drew (some ⟨gi, 0, .none⟩) (n + 1) (insF C pos d) := gB5
  have HE1 : Hid _ := any_ins (fun u v => holds u v a) X C pos n x d hp
  have HE2 : Hid _ := any_ins (fun u v => holds u v a) X C pos n a d hp
  have HS : Hid _ := holds_self (a := a) d
  obtain ⟨m0, m1, m2, m3⟩ := hbx5
  obtain ⟨n0, n1, n2, n3⟩ := hba5
  go_wp2_with fail
  go_region_held3 (fun w' => w'.cell? ⟨w.heap.size, 0, .none⟩ = some (.int .u8 (x 0)) ∧ w'.cell? ⟨w.heap.size, 1, .none⟩ = some (.int .u8 (x 1)) ∧ w'.cell? ⟨w.heap.size, 2, .none⟩ = some (.int .u8 (x 2)) ∧ w'.cell? ⟨w.heap.size, 3, .none⟩ = some (.int .u8 (x 3)) ∧ w'.cell? ⟨w.heap.size + 1, 0, .none⟩ = some (.int .u8 (a 0)) ∧ w'.cell? ⟨w.heap.size + 1, 1, .none⟩ = some (.int .u8 (a 1)) ∧ w'.cell? ⟨w.heap.size + 1, 2, .none⟩ = some (.int .u8 (a 2)) ∧ w'.cell? ⟨w.heap.size + 1, 3, .none⟩ = some (.int .u8 (a 3))) (go_keep) (first
    | (go_at_call 10; go_fit (insAddr_any (some ⟨w1.heap.size, 0, .none⟩) n n pos X x w5.drew hn hp gA5d); rintro e w6 ⟨ga, rfl, gX6, hb6⟩; obtain ⟨k0, k1, k2, k3⟩ := hbx5d.kept hb6; obtain ⟨l0, l1, l2, l3⟩ := hba5d.kept hb6)
    | (go_at_call 6; have c6 := (within4_any (some ⟨ga, 0, .none⟩) (some ⟨gi, 0, .none⟩) (n + 1) (n + 1) (n + 1) (n + 1) (insF X pos x) (insF C pos d) a z w6 (by omega) (Nat.le_refl _) (by omega) (bytes_ins hX hx hp) ha (hz5d.kept hb6 hz5d.lt) gX6 (gB5d.kept hb6)); rw [HE1.out] at c6; go_fit c6; clear c6; rintro e w7 ⟨rfl, hb7⟩; obtain ⟨q0, q1, q2, q3⟩ := Box4.kept (w := w6) ⟨k0, k1, k2, k3⟩ hb7; obtain ⟨r0, r1, r2, r3⟩ := Box4.kept (w := w6) ⟨l0, l1, l2, l3⟩ hb7))
  have hz6 := hz5d.kept hb6 hz5d.lt
  have hz7 := hz6.kept hb7 hz6.lt
  have gA7 := (gA5d.kept hb6).kept hb7
  have gB7 := (gB5d.kept hb6).kept hb7
  have hbW6 : Below w.heap.size w w6 := hbW5.drew.trans (hb6.mono hbW5.size)
  have hbW7 : Below w.heap.size w w7 := hbW6.trans (hb7.mono hbW6.size)
  have hz7d : Laid w7.drew z := ⟨hz7.z4, hz7.z0⟩
  have hbx7d : Box4 w7.drew w.heap.size x := ⟨q0, q1, q2, q3⟩
  have hba7d : Box4 w7.drew (w.heap.size + 1) a := ⟨r0, r1, r2, r3⟩
  have gA7d : AddrsAt w7.drew (some ⟨w1.heap.size, 0, .none⟩) n X := gA7
  have gB7d : BitsAt w7.drew (some ⟨gi, 0, .none⟩) (n + 1) (insF C pos d) := gB7
  clear m0 m1 m2 m3 n0 n1 n2 n3 k0 k1 k2 k3 l0 l1 l2 l3
  go_wp2_with fail
  go_region_held3 (fun w' => w'.cell? ⟨w.heap.size, 0, .none⟩ = some (.int .u8 (x 0)) ∧ w'.cell? ⟨w.heap.size, 1, .none⟩ = some (.int .u8 (x 1)) ∧ w'.cell? ⟨w.heap.size, 2, .none⟩ = some (.int .u8 (x 2)) ∧ w'.cell? ⟨w.heap.size, 3, .none⟩ = some (.int .u8 (x 3)) ∧ w'.cell? ⟨w.heap.size + 1, 0, .none⟩ = some (.int .u8 (a 0)) ∧ w'.cell? ⟨w.heap.size + 1, 1, .none⟩ = some (.int .u8 (a 1)) ∧ w'.cell? ⟨w.heap.size + 1, 2, .none⟩ = some (.int .u8 (a 2)) ∧ w'.cell? ⟨w.heap.size + 1, 3, .none⟩ = some (.int .u8 (a 3))) (go_keep) (first
    | (go_at_call 10; go_fit (insAddr_any (some ⟨w1.heap.size, 0, .none⟩) n n pos X a w7.drew hn hp gA7d); rintro e w8 ⟨gc, rfl, gX8, hb8⟩; obtain ⟨k0, k1, k2, k3⟩ := hbx7d.kept hb8; obtain ⟨l0, l1, l2, l3⟩ := hba7d.kept hb8)
    | (go_at_call 6; have c6 := (within4_any (some ⟨gc, 0, .none⟩) (some ⟨gi, 0, .none⟩) (n + 1) (n + 1) (n + 1) (n + 1) (insF X pos a) (insF C pos d) a z w8 (by omega) (Nat.le_refl _) (by omega) (bytes_ins hX ha hp) ha (hz7d.kept hb8 hz7d.lt) gX8 (gB7d.kept hb8)); rw [HE2.out, HS.out] at c6; go_fit c6; clear c6; rintro e w9 ⟨rfl, hb9⟩; obtain ⟨s0, s1, s2, s3⟩ := Box4.kept (w := w8) ⟨k0, k1, k2, k3⟩ hb9; obtain ⟨t0, t1, t2, t3⟩ := Box4.kept (w := w8) ⟨l0, l1, l2, l3⟩ hb9))
  have hbW8 : Below w.heap.size w w8 := hbW7.drew.trans (hb8.mono hbW7.size)
  have hbW9 : Below w.heap.size w w9 := hbW8.trans (hb9.mono hbW8.size)
  clear q0 q1 q2 q3 r0 r1 r2 r3 k0 k1 k2 k3 l0 l1 l2 l3
  have cP := prefHolds_any x a hx ha d w9
  clear HE1 HE2 HS
  generalize ((List.range n).any fun i => holds (X i) (C i) a) = P at *
  generalize holds x d a = Q at *
  by_cases j1 : 0 ≤ d
  · by_cases j2 : d ≤ 32
    · rw [decide_eq_true j1, decide_eq_true j2]
      (cases P <;> cases Q <;> (go_wp2_with (first | (go_at_call 7; go_fit cP; rintro e w10 ⟨rfl, hb10⟩)); go_ret; first | exact ⟨rfl, hbW9⟩ | exact ⟨rfl, hbW9.trans (hb10.mono hbW9.size)⟩))
    · rw [decide_eq_true j1, decide_eq_false j2]
      (cases P <;> cases Q <;> (go_wp2_with (first | (go_at_call 7; go_fit cP; rintro e w10 ⟨rfl, hb10⟩)); go_ret; first | exact ⟨rfl, hbW9⟩ | exact ⟨rfl, hbW9.trans (hb10.mono hbW9.size)⟩))
  · rw [decide_eq_false j1]
    (cases P <;> cases Q <;> (go_wp2_with (first | (go_at_call 7; go_fit cP; rintro e w10 ⟨rfl, hb10⟩)); go_ret; first | exact ⟨rfl, hbW9⟩ | exact ⟨rfl, hbW9.trans (hb10.mono hbW9.size)⟩))
end Go.Proofs.Qxb6612599aDoor
