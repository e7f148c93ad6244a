/- The law FnWithinAnyCutAndMaskModel (3), walked: both slices not nil. -/
import Derived.Test.Qxb6612599aDoorW5
import Derived.Test.Qxb6612599aDoorC
import Derived.Deep.RegionHeld3
namespace Go.Proofs.Qxb6612599aDoor
open Go.RowKit
attribute [local go_sem ↓] Go.wp_at_zero Go.wp_at_succ

theorem Tryd.info24 : (Tryd.prog.info? 24).map (fun i => (i.zero, i.size, i.bytes)) = some (some (.agg #[.int .u8 0, .int .u8 0, .int .u8 0, .int .u8 0]), 4, 4) := by kernel_rfl
theorem Tryd.info3 : (Tryd.prog.info? 3).map (fun i => (i.zero, i.size, i.bytes)) = some (some (.int .i64 0), 1, 8) := by kernel_rfl
theorem Tryd.size24 : (Tryd.prog.info? 24).map (·.size) = some 4 := by kernel_rfl
theorem Tryd.size3 : (Tryd.prog.info? 3).map (·.size) = some 1 := by kernel_rfl

theorem run_make24 (n : Nat) (hn : n ≤ 1048576) (w : World) : (Instr.makeSlice 22 (.int .i64 (n : Int)) (.int .i64 (n : Int))).run Tryd.prog w = .ok (.slice (some ⟨w.heap.size, 0, .none⟩) n n) (w.alloc (.cells (madeCells #[.int .u8 0, .int .u8 0, .int .u8 0, .int .u8 0] (n * 4)) 24)) := by
  obtain ⟨i, hi, hz0, hz1, hz2⟩ := info_parts Tryd.info24
  have hr := run_make (P := Tryd.prog) w 22 24 i _ Tryd.underlying22 hi hz0 .i64 .i64 n n (by omega) (Int.le_refl _) (by rw [hz2]; omega) (by omega)
  simp only [Int.toNat_natCast, hz1, Value.cells] at hr
  exact hr
theorem run_make3 (n : Nat) (hn : n ≤ 1048576) (w : World) : (Instr.makeSlice 23 (.int .i64 (n : Int)) (.int .i64 (n : Int))).run Tryd.prog w = .ok (.slice (some ⟨w.heap.size, 0, .none⟩) n n) (w.alloc (.cells (madeCells #[.int .i64 0] n) 3)) :=
  run_make_row' (P := Tryd.prog) 23 3 (.int .i64 0) 8 Tryd.underlying23 Tryd.info3 rfl .i64 .i64 n (by omega) (by omega) w

/-- what make lays, elements of four cells -/
theorem rowIs_made4 (w : World) (n : Nat) (z : Array Value) (t : TypeId) : (w.alloc (.cells (madeCells z (n * 4)) t)).rowIs w.heap.size t (n * 4) (fun i => (madeCells z (n * 4)).getD i undef) := by
  have := World.rowIs_alloc w (madeCells z (n * 4)) t (fun i => (madeCells z (n * 4)).getD i undef) (fun i hi => by simp [Array.getD, hi])
  rw [size_madeCells] at this
  exact this

/-- the cells that lie behind an address: bytes by four -/
def AddrCells (w : World) (x : Addr) (n : Nat) (X : Nat → Nat → Nat) : Prop := ∀ j, j < n * 4 → w.cell? (x.add j) = some (.int .u8 (X (j / 4) (j % 4)))
def IntCells (w : World) (x : Addr) (n : Nat) (C : Nat → Int) : Prop := ∀ j, j < n → w.cell? (x.add j) = some (.int .i64 (C j))

theorem add_block (x : Addr) (j : Nat) : (x.add j).block = x.block := by unfold Addr.add; split <;> rfl

theorem AddrCells.kept {w w' : World} {x : Addr} {n : Nat} {X : Nat → Nat → Nat} (h : AddrCells w x n X) (hb : Below w.heap.size w w') : AddrCells w' x n X := fun j hj => below_cell hb (h j hj) (cell_lt (h j hj))
theorem IntCells.kept {w w' : World} {x : Addr} {n : Nat} {C : Nat → Int} (h : IntCells w x n C) (hb : Below w.heap.size w w') : IntCells w' x n C := fun j hj => below_cell hb (h j hj) (cell_lt (h j hj))
theorem below_grown {w w1 w2 : World} {g : Nat} (hb : Below w.heap.size w w1) (hg : w1.grownBy w2 (some g)) (hl : w.heap.size ≤ g) : Below w.heap.size w w2 := hb.grown hg hb.size (fun k hk => by cases hk; exact hl)

theorem addrsAt_row {w : World} {g n : Nat} {X : Nat → Nat → Nat} (h : w.rowIs g 24 (n * 4) (fun j => .int .u8 (X (j / 4) (j % 4)))) : AddrsAt w (some ⟨g, 0, .none⟩) n X := fun i hi => by
  have e0 := h.cell (i := i * 4) (by omega)
  have e1 := h.cell (i := i * 4 + 1) (by omega)
  have e2 := h.cell (i := i * 4 + 2) (by omega)
  have e3 := h.cell (i := i * 4 + 3) (by omega)
  rw [show i * 4 / 4 = i by omega, show i * 4 % 4 = 0 by omega] at e0
  rw [show (i * 4 + 1) / 4 = i by omega, show (i * 4 + 1) % 4 = 1 by omega] at e1
  rw [show (i * 4 + 2) / 4 = i by omega, show (i * 4 + 2) % 4 = 2 by omega] at e2
  rw [show (i * 4 + 3) / 4 = i by omega, show (i * 4 + 3) % 4 = 3 by omega] at e3
  exact ⟨g, 0, rfl, by rw [Nat.zero_add]; exact e0, by rw [Nat.zero_add]; exact e1, by rw [Nat.zero_add]; exact e2, by rw [Nat.zero_add]; exact e3⟩
theorem bitsAt_row {w : World} {g n : Nat} {C : Nat → Int} (h : w.rowIs g 3 n (fun j => .int .i64 (C j))) : BitsAt w (some ⟨g, 0, .none⟩) n C := fun i hi => ⟨g, 0, rfl, by rw [Nat.zero_add]; exact h.cell hi⟩

theorem AddrsAt.kept {w w' : World} {a : Option Addr} {n : Nat} {X : Nat → Nat → Nat} (h : AddrsAt w a n X) (hb : Below w.heap.size w w') : AddrsAt w' a n X := fun i hi => by
  obtain ⟨b, o, e, h0, h1, h2, h3⟩ := h i hi
  exact ⟨b, o, e, below_cell hb h0 (cell_lt h0), below_cell hb h1 (cell_lt h1), below_cell hb h2 (cell_lt h2), below_cell hb h3 (cell_lt h3)⟩
theorem BitsAt.kept {w w' : World} {a : Option Addr} {n : Nat} {C : Nat → Int} (h : BitsAt w a n C) (hb : Below w.heap.size w w') : BitsAt w' a n C := fun i hi => by
  obtain ⟨b, o, e, h0⟩ := h i hi
  exact ⟨b, o, e, below_cell hb h0 (cell_lt h0)⟩

set_option maxRecDepth 100000 in
set_option maxHeartbeats 1000000 in
theorem law3_out (a0 b0 : Option Addr) (n m c0 c1 : Nat) (cut : Int) (a : Nat → Nat) (w : World) (hn : n ≤ maxLen) (hm : m ≤ maxLen) (ho : 65536 < n ∨ 65536 < m ∨ n ≠ m ∨ cut < 0 ∨ (n : Int) < cut) :
    Calls Tryd.prog 3 #[.slice a0 n c0, .slice b0 m c1, .int .i64 cut, .agg #[.int .u8 (a 0), .int .u8 (a 1), .int .u8 (a 2), .int .u8 (a 3)]] w fun e w' => e = .returned (.bool true) ∧ Below w.heap.size w w' := by
  have cZ := zzBytes3_any a0 b0 n c0 m c1 cut a (w.alloc (.cells #[.int .u8 (a 0), .int .u8 (a 1), .int .u8 (a 2), .int .u8 (a 3)] 24)) hn hm
  have ba : Below w.heap.size w (w.alloc (.cells #[.int .u8 (a 0), .int .u8 (a 1), .int .u8 (a 2), .int .u8 (a 3)] 24)) := Below.al (Below.refl _ _) _
  unfold maxLen at hn hm
  by_cases h1 : 65536 < n
  · go_enter Tryd.func3, Tryd.ntmps3
    go_wp2_with (first | (go_at_call 5; go_fit cZ; rintro e w1 ⟨⟨q, rfl⟩, hb1⟩))
    all_goals (go_ret; exact ⟨rfl, ba.trans (hb1.mono ba.size)⟩)
  by_cases h2 : 65536 < m
  · go_enter Tryd.func3, Tryd.ntmps3
    go_wp2_with (first | (go_at_call 5; go_fit cZ; rintro e w1 ⟨⟨q, rfl⟩, hb1⟩))
    all_goals (go_ret; exact ⟨rfl, ba.trans (hb1.mono ba.size)⟩)
  by_cases h3 : n = m
  · subst h3
    have h4 : cut < 0 ∨ (n : Int) < cut := by omega
    clear ho
    rcases h4 with h4 | h4
    · have d1 : decide (cut < 0) = true := by simp; omega
      go_enter Tryd.func3, Tryd.ntmps3
      go_wp2_with (first | (go_at_call 5; go_fit cZ; rintro e w1 ⟨⟨q, rfl⟩, hb1⟩))
      all_goals (go_ret; exact ⟨rfl, ba.trans (hb1.mono ba.size)⟩)
    · have d1 : decide (cut < 0) = false := by simp; omega
      have d2 : decide ((n : Int) < cut) = true := by simp; omega
      go_enter Tryd.func3, Tryd.ntmps3
      go_wp2_with (first | (go_at_call 5; go_fit cZ; rintro e w1 ⟨⟨q, rfl⟩, hb1⟩))
      all_goals (go_ret; exact ⟨rfl, ba.trans (hb1.mono ba.size)⟩)
  · have d1 : ((n : Int) != (m : Int)) = true := by simp; omega
    clear ho
    go_enter Tryd.func3, Tryd.ntmps3
    go_wp2_with (first | (go_at_call 5; go_fit cZ; rintro e w1 ⟨⟨q, rfl⟩, hb1⟩))
    all_goals (go_ret; exact ⟨rfl, ba.trans (hb1.mono ba.size)⟩)

theorem AddrsAt.tail {w : World} {g n c : Nat} {X : Nat → Nat → Nat} (h : AddrsAt w (some ⟨g, 0, .none⟩) n X) {ao : Option Addr} {d : Nat} (hd : d = n - c) (hao : c < n → ao = some ⟨g, c * 4, .none⟩) : AddrsAt w ao d (fun i => X (c + i)) := fun i hi => by
  obtain ⟨b, o, e, h0, h1, h2, h3⟩ := h (c + i) (by omega)
  cases e
  rw [Nat.zero_add, show (c + i) * 4 = c * 4 + i * 4 by omega] at h0 h1 h2 h3
  exact ⟨g, c * 4, hao (by omega), h0, h1, h2, h3⟩
theorem BitsAt.tail {w : World} {g n c : Nat} {C : Nat → Int} (h : BitsAt w (some ⟨g, 0, .none⟩) n C) {ao : Option Addr} {d : Nat} (hd : d = n - c) (hao : c < n → ao = some ⟨g, c, .none⟩) : BitsAt w ao d (fun i => C (c + i)) := fun i hi => by
  obtain ⟨b, o, e, h0⟩ := h (c + i) (by omega)
  cases e
  rw [Nat.zero_add] at h0
  exact ⟨g, c, hao (by omega), h0⟩
theorem any_succ (h : Nat → Bool) (k : Nat) : (List.range (k + 1)).any h = ((List.range k).any h || h k) := by
  rw [List.range_succ, List.any_append]; simp
theorem any_split (h : Nat → Bool) (c n : Nat) (hc : c ≤ n) : (List.range n).any h = ((List.range c).any h || (List.range (n - c)).any fun i => h (c + i)) := by
  obtain ⟨d, rfl⟩ : ∃ d, n = c + d := ⟨n - c, by omega⟩
  rw [Nat.add_sub_cancel_left, List.range_add, List.any_append, List.any_map]
  rfl

set_option maxRecDepth 100000 in
set_option maxHeartbeats 2000000 in
theorem law3_some (x y : Addr) (n c0 c1 : Nat) (X : Nat → Nat → Nat) (C : Nat → Int) (c : Nat) (a : Nat → Nat) (z : Addr) (w : World) (hn : n ≤ 65536) (hc : c ≤ n) (hX : ∀ i, i < n → Bytes (X i)) (ha : Bytes a) (hz : Laid w z)
    (hA : AddrCells w x n X) (hB : IntCells w y n C) :
    Calls Tryd.prog 3 #[.slice (some x) n c0, .slice (some y) n c1, .int .i64 (c : Int), .agg #[.int .u8 (a 0), .int .u8 (a 1), .int .u8 (a 2), .int .u8 (a 3)]] w fun e w' => e = .returned (.bool true) ∧ Below w.heap.size w w' := by
  have cZ := zzBytes3_any (some x) (some y) n c0 n c1 c a (w.alloc (.cells #[.int .u8 (a 0), .int .u8 (a 1), .int .u8 (a 2), .int .u8 (a 3)] 24)) (by unfold maxLen; omega) (by unfold maxLen; omega)
  have ba : Below w.heap.size w (w.alloc (.cells #[.int .u8 (a 0), .int .u8 (a 1), .int .u8 (a 2), .int .u8 (a 3)] 24)) := Below.al (Below.refl _ _) _
  have hA' := hA.kept ba
  have hB' := hB.kept ba
  have hz' := hz.alloc (.cells #[.int .u8 (a 0), .int .u8 (a 1), .int .u8 (a 2), .int .u8 (a 3)] 24)
  have hbx : Box4 (w.alloc (.cells #[.int .u8 (a 0), .int .u8 (a 1), .int .u8 (a 2), .int .u8 (a 3)] 24)) w.heap.size a := ⟨by go_simp, by go_simp, by go_simp, by go_simp⟩
  have hmk1 := run_make24 n (by omega)
  have hmk2 := run_make3 n (by omega)
  have d1 : decide ((c : Int) < 0) = false := by simp
  have d2 : decide ((n : Int) < (c : Int)) = false := by simp; omega
  go_enter Tryd.func3, Tryd.ntmps3
  go_wp2_with (first
    | (go_at_call 5; go_fit cZ; rintro e w1 ⟨⟨q, rfl⟩, hb1⟩)
    | (refine wpList_copy_all _ rfl _ _ 22 22 rfl 24 4 Tryd.underlying22 Tryd.size24 w1.heap.size n (some x) c0 rfl rfl 24 _ (fun j => .int .u8 (X (j / 4) (j % 4))) (rowIs_made4 _ n _ 24) (fun _ => ⟨x, rfl, (hA'.kept (Below.al hb1 _))⟩) (fun j _ => rfl) ?_; intro w2 hrow2 hg2; have hb2 := below_grown (Below.al hb1 _) hg2 hb1.size)
    | (refine wpList_copy_one _ rfl _ _ 23 23 rfl 3 Tryd.underlying23 Tryd.size3 w2.heap.size n (some y) c1 rfl rfl 3 _ (fun j => .int .i64 (C j)) (World.rowIs_made _ _ n 3) (fun _ => ⟨y, rfl, (hB'.kept (Below.al hb2 _))⟩) (fun j _ => rfl) ?_; intro w3 hrow3 hg3; have hb3 := below_grown (Below.al hb2 _) hg3 hb2.size; obtain ⟨m0, m1, m2, m3⟩ := hbx.kept hb3))
  · go_ret; exact ⟨rfl, ba.trans (hb1.mono ba.size)⟩
  clear cZ hmk1 hmk2 d1 d2
  have hr2 : w3.rowIs w1.heap.size 24 (n * 4) (fun j => .int .u8 (X (j / 4) (j % 4))) := (hrow2.alloc _).of_block (hg3.block _ (by have := hrow2.lt; simp; omega) (fun e => by have := Option.some.inj e; have := hrow2.lt; omega))
  have gA := addrsAt_row hr2
  have gB := bitsAt_row hrow3
  have hz3 := hz'.kept hb3 hz'.lt
  have hbW : Below w.heap.size w w3 := ba.trans (hb3.mono ba.size)
  have hbx3 : Box4 w3 w.heap.size a := ⟨m0, m1, m2, m3⟩
  clear m0 m1 m2 m3 hrow2 hrow3 hg2 hg3 hr2
  go_fit (within4_any _ _ n n n n X C a z w3 (by omega) (Nat.le_refl _) (by omega) hX ha hz3 gA gB)
  rintro e w4 ⟨rfl, hb4⟩
  have i0 : (0 : Int) ≤ (c : Int) := by omega
  have i1 : (c : Int) ≤ (n : Int) := by omega
  obtain ⟨m0, m1, m2, m3⟩ := hbx3.kept hb4
  have hbx4 : Box4 w4.drew w.heap.size a := ⟨m0, m1, m2, m3⟩
  have gA4 := gA.kept hb4
  have gB4 := gB.kept hb4
  have hz4 := hz3.kept hb4 hz3.lt
  have hbW4 := hbW.trans (hb4.mono hbW.size)
  have cL := within4_any (some ⟨w1.heap.size, 0, .none⟩) (some ⟨w2.heap.size, 0, .none⟩) c n n c X C a z w4.drew (by omega) (Nat.le_refl _) (by omega) (fun i hi => hX i (by omega)) ha ⟨hz4.z4, hz4.z0⟩ (fun i hi => gA4 i (by omega)) (fun i hi => gB4 i (by omega))
  go_wp2_with fail
  go_region_held3 (fun w' => w'.cell? ⟨w.heap.size, 0, .none⟩ = some (.int .u8 (a 0)) ∧ w'.cell? ⟨w.heap.size, 1, .none⟩ = some (.int .u8 (a 1)) ∧ w'.cell? ⟨w.heap.size, 2, .none⟩ = some (.int .u8 (a 2)) ∧ w'.cell? ⟨w.heap.size, 3, .none⟩ = some (.int .u8 (a 3))) (go_keep) (first | (go_at_call 6; go_fit cL; rintro e w5 ⟨rfl, hb5⟩; obtain ⟨k0, k1, k2, k3⟩ := hbx4.kept hb5))
  clear cL m0 m1 m2 m3
  have hbx5 : Box4 w5.drew w.heap.size a := ⟨k0, k1, k2, k3⟩
  have gA5 := AddrsAt.kept (w := w4.drew) gA4 hb5
  have gB5 := BitsAt.kept (w := w4.drew) gB4 hb5
  have hz5 := Laid.kept (w := w4.drew) ⟨hz4.z4, hz4.z0⟩ hb5 hz4.lt
  have hbW5 : Below w.heap.size w w5 := hbW4.drew.trans (hb5.mono hbW4.size)
  have HSP : Hid _ := any_split (fun i => holds (X i) (C i) a) c n hc
  rcases Nat.lt_or_ge c n with hlt | hge
  · have cR := within4_any (some ⟨w1.heap.size, c * 4, .none⟩) (some ⟨w2.heap.size, c, .none⟩) (n - c) (n - c) (n - c) (n - c) (fun i => X (c + i)) (fun i => C (c + i)) a z w5.drew (by omega) (Nat.le_refl _) (by omega) (fun i hi => hX (c + i) (by omega)) ha ⟨hz5.z4, hz5.z0⟩ (gA5.tail rfl (fun _ => rfl)) (gB5.tail rfl (fun _ => rfl))
    have i2 : (c : Int) < (n : Int) := by omega
    have i3 : ¬ n = c := by omega
    go_wp2_with fail
    go_region_held3 (fun w' => w'.cell? ⟨w.heap.size, 0, .none⟩ = some (.int .u8 (a 0)) ∧ w'.cell? ⟨w.heap.size, 1, .none⟩ = some (.int .u8 (a 1)) ∧ w'.cell? ⟨w.heap.size, 2, .none⟩ = some (.int .u8 (a 2)) ∧ w'.cell? ⟨w.heap.size, 3, .none⟩ = some (.int .u8 (a 3))) (go_keep) (first | (go_at_call 6; go_fit cR; rintro e w6 ⟨rfl, hb6⟩; obtain ⟨l0, l1, l2, l3⟩ := hbx5.kept hb6))
    have hbx6 : Box4 w6 w.heap.size a := ⟨l0, l1, l2, l3⟩
    have gA6 := AddrsAt.kept (w := w5.drew) gA5 hb6
    have gB6 := BitsAt.kept (w := w5.drew) gB5 hb6
    have hbW6 : Below w.heap.size w w6 := hbW5.drew.trans (hb6.mono hbW5.size)
    clear l0 l1 l2 l3 cR
    go_wp2
    go_loopw [14, 15] (fun wv i wr => ∃ k : Nat, k ≤ n ∧ i = .int .i64 k ∧ wv = .bool ((List.range k).any fun i => holds (X i) (C i) a) ∧ Below w6.heap.size w6 wr) (fun _ i _ => n - (intOf i).toNat)
    case atStart => exact ⟨0, Nat.zero_le _, rfl, rfl, Below.refl _ _⟩
    case round =>
      obtain ⟨k, hk, rfl, rfl, hbl⟩ := hrel
      rename World => W7
      by_cases hkn : k < n
      · obtain ⟨b1, o1, e1, p0, p1, p2, p3⟩ := gA6.kept hbl k hkn
        cases e1
        obtain ⟨b2, o2, e2, q0⟩ := gB6.kept hbl k hkn
        cases e2
        rw [Nat.zero_add] at p0 p1 p2 p3 q0
        obtain ⟨t0, t1, t2, t3⟩ := hbx6.kept hbl
        have hcs : W7.drew.cell? ⟨w1.heap.size, k * 4, .none⟩ = some (.int .u8 (X k 0)) ∧ W7.drew.cell? ⟨w1.heap.size, k * 4 + 1, .none⟩ = some (.int .u8 (X k 1)) ∧ W7.drew.cell? ⟨w1.heap.size, k * 4 + 2, .none⟩ = some (.int .u8 (X k 2)) ∧ W7.drew.cell? ⟨w1.heap.size, k * 4 + 3, .none⟩ = some (.int .u8 (X k 3)) ∧ W7.drew.cell? ⟨w2.heap.size, k, .none⟩ = some (.int .i64 (C k)) ∧ W7.drew.cell? ⟨w.heap.size, 0, .none⟩ = some (.int .u8 (a 0)) ∧ W7.drew.cell? ⟨w.heap.size, 1, .none⟩ = some (.int .u8 (a 1)) ∧ W7.drew.cell? ⟨w.heap.size, 2, .none⟩ = some (.int .u8 (a 2)) ∧ W7.drew.cell? ⟨w.heap.size, 3, .none⟩ = some (.int .u8 (a 3)) := ⟨p0, p1, p2, p3, q0, t0, t1, t2, t3⟩
        have keep : ∀ w8, Below W7.drew.heap.size W7.drew w8 → w8.cell? ⟨w1.heap.size, k * 4, .none⟩ = some (.int .u8 (X k 0)) ∧ w8.cell? ⟨w1.heap.size, k * 4 + 1, .none⟩ = some (.int .u8 (X k 1)) ∧ w8.cell? ⟨w1.heap.size, k * 4 + 2, .none⟩ = some (.int .u8 (X k 2)) ∧ w8.cell? ⟨w1.heap.size, k * 4 + 3, .none⟩ = some (.int .u8 (X k 3)) ∧ w8.cell? ⟨w2.heap.size, k, .none⟩ = some (.int .i64 (C k)) ∧ w8.cell? ⟨w.heap.size, 0, .none⟩ = some (.int .u8 (a 0)) ∧ w8.cell? ⟨w.heap.size, 1, .none⟩ = some (.int .u8 (a 1)) ∧ w8.cell? ⟨w.heap.size, 2, .none⟩ = some (.int .u8 (a 2)) ∧ w8.cell? ⟨w.heap.size, 3, .none⟩ = some (.int .u8 (a 3)) := fun w8 hb => by
          obtain ⟨u0, u1, u2, u3, u4, u5, u6, u7, u8⟩ := hcs
          exact ⟨below_cell hb u0 (cell_lt u0), below_cell hb u1 (cell_lt u1), below_cell hb u2 (cell_lt u2), below_cell hb u3 (cell_lt u3), below_cell hb u4 (cell_lt u4), below_cell hb u5 (cell_lt u5), below_cell hb u6 (cell_lt u6), below_cell hb u7 (cell_lt u7), below_cell hb u8 (cell_lt u8)⟩
        have cH := prefHolds_any (X k) a (hX k hkn) ha (C k) W7.drew
        have HS : Hid _ := any_succ (fun i => holds (X i) (C i) a) k
        have j1 : (k : Int) < (n : Int) := by omega
        clear hcs
        cases hh : holds (X k) (C k) a
        · rw [hh] at cH
          go_wp2_with fail
          go_region_held3 (fun w' => w'.cell? ⟨w1.heap.size, k * 4, .none⟩ = some (.int .u8 (X k 0)) ∧ w'.cell? ⟨w1.heap.size, k * 4 + 1, .none⟩ = some (.int .u8 (X k 1)) ∧ w'.cell? ⟨w1.heap.size, k * 4 + 2, .none⟩ = some (.int .u8 (X k 2)) ∧ w'.cell? ⟨w1.heap.size, k * 4 + 3, .none⟩ = some (.int .u8 (X k 3)) ∧ w'.cell? ⟨w2.heap.size, k, .none⟩ = some (.int .i64 (C k)) ∧ w'.cell? ⟨w.heap.size, 0, .none⟩ = some (.int .u8 (a 0)) ∧ w'.cell? ⟨w.heap.size, 1, .none⟩ = some (.int .u8 (a 1)) ∧ w'.cell? ⟨w.heap.size, 2, .none⟩ = some (.int .u8 (a 2)) ∧ w'.cell? ⟨w.heap.size, 3, .none⟩ = some (.int .u8 (a 3))) (go_keep) (first | (go_at_call 7; go_fit cH; rintro e w8 ⟨rfl, hb8⟩; obtain ⟨v0, v1, v2, v3, v4, v5, v6, v7, v8⟩ := keep _ hb8))
          go_wp2
          go_roundw
          case rel => exact ⟨k + 1, by omega, by go_num, by rw [HS.out, hh, Bool.or_false], hbl.drew.trans (hb8.mono hbl.size)⟩
          case measure => simp [intOf]; omega
        · rw [hh] at cH
          go_wp2_with fail
          go_region_held3 (fun w' => w'.cell? ⟨w1.heap.size, k * 4, .none⟩ = some (.int .u8 (X k 0)) ∧ w'.cell? ⟨w1.heap.size, k * 4 + 1, .none⟩ = some (.int .u8 (X k 1)) ∧ w'.cell? ⟨w1.heap.size, k * 4 + 2, .none⟩ = some (.int .u8 (X k 2)) ∧ w'.cell? ⟨w1.heap.size, k * 4 + 3, .none⟩ = some (.int .u8 (X k 3)) ∧ w'.cell? ⟨w2.heap.size, k, .none⟩ = some (.int .i64 (C k)) ∧ w'.cell? ⟨w.heap.size, 0, .none⟩ = some (.int .u8 (a 0)) ∧ w'.cell? ⟨w.heap.size, 1, .none⟩ = some (.int .u8 (a 1)) ∧ w'.cell? ⟨w.heap.size, 2, .none⟩ = some (.int .u8 (a 2)) ∧ w'.cell? ⟨w.heap.size, 3, .none⟩ = some (.int .u8 (a 3))) (go_keep) (first | (go_at_call 7; go_fit cH; rintro e w8 ⟨rfl, hb8⟩; obtain ⟨v0, v1, v2, v3, v4, v5, v6, v7, v8⟩ := keep _ hb8))
          go_wp2
          go_roundw
          case rel => exact ⟨k + 1, by omega, by go_num, by rw [HS.out, hh, Bool.or_true], hbl.drew.trans (hb8.mono hbl.size)⟩
          case measure => simp [intOf]; omega
      · obtain rfl : k = n := by omega
        have hbF := hbW6.trans (hbl.mono hbW6.size)
        have E := HSP.out
        generalize ((List.range k).any fun i => holds (X i) (C i) a) = V at E ⊢
        generalize ((List.range c).any fun i => holds (X i) (C i) a) = L at E ⊢
        generalize ((List.range (k - c)).any fun i => holds (X (c + i)) (C (c + i)) a) = R at E ⊢
        subst E
        clear HSP
        cases L <;> cases R <;> (go_wp2; go_ret; exact ⟨rfl, hbF⟩)
  · have e : c = n := by omega
    subst e
    clear HSP
    have cR := within4_any (some ⟨w1.heap.size, 0, .none⟩) (some ⟨w2.heap.size, 0, .none⟩) 0 0 0 0 X C a z w5.drew (by omega) (Nat.le_refl _) (by omega) (fun i hi => by omega) ha ⟨hz5.z4, hz5.z0⟩ (fun i hi => by omega) (fun i hi => by omega)
    rw [show ((List.range 0).any fun i => holds (X i) (C i) a) = false from rfl] at cR
    go_wp2_with fail
    go_region_held3 (fun w' => w'.cell? ⟨w.heap.size, 0, .none⟩ = some (.int .u8 (a 0)) ∧ w'.cell? ⟨w.heap.size, 1, .none⟩ = some (.int .u8 (a 1)) ∧ w'.cell? ⟨w.heap.size, 2, .none⟩ = some (.int .u8 (a 2)) ∧ w'.cell? ⟨w.heap.size, 3, .none⟩ = some (.int .u8 (a 3))) (go_keep) (first | (go_at_call 6; go_fit cR; rintro e w6 ⟨rfl, hb6⟩; obtain ⟨l0, l1, l2, l3⟩ := hbx5.kept hb6))
    have hbx6 : Box4 w6 w.heap.size a := ⟨l0, l1, l2, l3⟩
    have gA6 := AddrsAt.kept (w := w5.drew) gA5 hb6
    have gB6 := BitsAt.kept (w := w5.drew) gB5 hb6
    have hbW6 : Below w.heap.size w w6 := hbW5.drew.trans (hb6.mono hbW5.size)
    clear l0 l1 l2 l3 cR
    go_wp2
    go_loopw [14, 15] (fun wv i wr => ∃ k : Nat, k ≤ c ∧ i = .int .i64 k ∧ wv = .bool ((List.range k).any fun i => holds (X i) (C i) a) ∧ Below w6.heap.size w6 wr) (fun _ i _ => c - (intOf i).toNat)
    case atStart => exact ⟨0, Nat.zero_le _, rfl, rfl, Below.refl _ _⟩
    case round =>
      obtain ⟨k, hk, rfl, rfl, hbl⟩ := hrel
      rename World => W7
      by_cases hkn : k < c
      · obtain ⟨b1, o1, e1, p0, p1, p2, p3⟩ := gA6.kept hbl k hkn
        cases e1
        obtain ⟨b2, o2, e2, q0⟩ := gB6.kept hbl k hkn
        cases e2
        rw [Nat.zero_add] at p0 p1 p2 p3 q0
        obtain ⟨t0, t1, t2, t3⟩ := hbx6.kept hbl
        have hcs : W7.drew.cell? ⟨w1.heap.size, k * 4, .none⟩ = some (.int .u8 (X k 0)) ∧ W7.drew.cell? ⟨w1.heap.size, k * 4 + 1, .none⟩ = some (.int .u8 (X k 1)) ∧ W7.drew.cell? ⟨w1.heap.size, k * 4 + 2, .none⟩ = some (.int .u8 (X k 2)) ∧ W7.drew.cell? ⟨w1.heap.size, k * 4 + 3, .none⟩ = some (.int .u8 (X k 3)) ∧ W7.drew.cell? ⟨w2.heap.size, k, .none⟩ = some (.int .i64 (C k)) ∧ W7.drew.cell? ⟨w.heap.size, 0, .none⟩ = some (.int .u8 (a 0)) ∧ W7.drew.cell? ⟨w.heap.size, 1, .none⟩ = some (.int .u8 (a 1)) ∧ W7.drew.cell? ⟨w.heap.size, 2, .none⟩ = some (.int .u8 (a 2)) ∧ W7.drew.cell? ⟨w.heap.size, 3, .none⟩ = some (.int .u8 (a 3)) := ⟨p0, p1, p2, p3, q0, t0, t1, t2, t3⟩
        have keep : ∀ w8, Below W7.drew.heap.size W7.drew w8 → w8.cell? ⟨w1.heap.size, k * 4, .none⟩ = some (.int .u8 (X k 0)) ∧ w8.cell? ⟨w1.heap.size, k * 4 + 1, .none⟩ = some (.int .u8 (X k 1)) ∧ w8.cell? ⟨w1.heap.size, k * 4 + 2, .none⟩ = some (.int .u8 (X k 2)) ∧ w8.cell? ⟨w1.heap.size, k * 4 + 3, .none⟩ = some (.int .u8 (X k 3)) ∧ w8.cell? ⟨w2.heap.size, k, .none⟩ = some (.int .i64 (C k)) ∧ w8.cell? ⟨w.heap.size, 0, .none⟩ = some (.int .u8 (a 0)) ∧ w8.cell? ⟨w.heap.size, 1, .none⟩ = some (.int .u8 (a 1)) ∧ w8.cell? ⟨w.heap.size, 2, .none⟩ = some (.int .u8 (a 2)) ∧ w8.cell? ⟨w.heap.size, 3, .none⟩ = some (.int .u8 (a 3)) := fun w8 hb => by
          obtain ⟨u0, u1, u2, u3, u4, u5, u6, u7, u8⟩ := hcs
          exact ⟨below_cell hb u0 (cell_lt u0), below_cell hb u1 (cell_lt u1), below_cell hb u2 (cell_lt u2), below_cell hb u3 (cell_lt u3), below_cell hb u4 (cell_lt u4), below_cell hb u5 (cell_lt u5), below_cell hb u6 (cell_lt u6), below_cell hb u7 (cell_lt u7), below_cell hb u8 (cell_lt u8)⟩
        have cH := prefHolds_any (X k) a (hX k hkn) ha (C k) W7.drew
        have HS : Hid _ := any_succ (fun i => holds (X i) (C i) a) k
        have j1 : (k : Int) < (c : Int) := by omega
        clear hcs
        cases hh : holds (X k) (C k) a
        · rw [hh] at cH
          go_wp2_with fail
          go_region_held3 (fun w' => w'.cell? ⟨w1.heap.size, k * 4, .none⟩ = some (.int .u8 (X k 0)) ∧ w'.cell? ⟨w1.heap.size, k * 4 + 1, .none⟩ = some (.int .u8 (X k 1)) ∧ w'.cell? ⟨w1.heap.size, k * 4 + 2, .none⟩ = some (.int .u8 (X k 2)) ∧ w'.cell? ⟨w1.heap.size, k * 4 + 3, .none⟩ = some (.int .u8 (X k 3)) ∧ w'.cell? ⟨w2.heap.size, k, .none⟩ = some (.int .i64 (C k)) ∧ w'.cell? ⟨w.heap.size, 0, .none⟩ = some (.int .u8 (a 0)) ∧ w'.cell? ⟨w.heap.size, 1, .none⟩ = some (.int .u8 (a 1)) ∧ w'.cell? ⟨w.heap.size, 2, .none⟩ = some (.int .u8 (a 2)) ∧ w'.cell? ⟨w.heap.size, 3, .none⟩ = some (.int .u8 (a 3))) (go_keep) (first | (go_at_call 7; go_fit cH; rintro e w8 ⟨rfl, hb8⟩; obtain ⟨v0, v1, v2, v3, v4, v5, v6, v7, v8⟩ := keep _ hb8))
          go_wp2
          go_roundw
          case rel => exact ⟨k + 1, by omega, by go_num, by rw [HS.out, hh, Bool.or_false], hbl.drew.trans (hb8.mono hbl.size)⟩
          case measure => simp [intOf]; omega
        · rw [hh] at cH
          go_wp2_with fail
          go_region_held3 (fun w' => w'.cell? ⟨w1.heap.size, k * 4, .none⟩ = some (.int .u8 (X k 0)) ∧ w'.cell? ⟨w1.heap.size, k * 4 + 1, .none⟩ = some (.int .u8 (X k 1)) ∧ w'.cell? ⟨w1.heap.size, k * 4 + 2, .none⟩ = some (.int .u8 (X k 2)) ∧ w'.cell? ⟨w1.heap.size, k * 4 + 3, .none⟩ = some (.int .u8 (X k 3)) ∧ w'.cell? ⟨w2.heap.size, k, .none⟩ = some (.int .i64 (C k)) ∧ w'.cell? ⟨w.heap.size, 0, .none⟩ = some (.int .u8 (a 0)) ∧ w'.cell? ⟨w.heap.size, 1, .none⟩ = some (.int .u8 (a 1)) ∧ w'.cell? ⟨w.heap.size, 2, .none⟩ = some (.int .u8 (a 2)) ∧ w'.cell? ⟨w.heap.size, 3, .none⟩ = some (.int .u8 (a 3))) (go_keep) (first | (go_at_call 7; go_fit cH; rintro e w8 ⟨rfl, hb8⟩; obtain ⟨v0, v1, v2, v3, v4, v5, v6, v7, v8⟩ := keep _ hb8))
          go_wp2
          go_roundw
          case rel => exact ⟨k + 1, by omega, by go_num, by rw [HS.out, hh, Bool.or_true], hbl.drew.trans (hb8.mono hbl.size)⟩
          case measure => simp [intOf]; omega
      · have hkc : k = c := by omega
        subst hkc
        have hbF := hbW6.trans (hbl.mono hbW6.size)
        generalize ((List.range k).any fun i => holds (X i) (C i) a) = V
        cases V <;> (go_wp2; go_ret; exact ⟨rfl, hbF⟩)
end Go.Proofs.Qxb6612599aDoor
