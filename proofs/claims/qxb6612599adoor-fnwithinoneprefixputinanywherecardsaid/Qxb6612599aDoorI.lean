/- zzInsertInt (9), zzInsertAddr (10), the size guard (8). -/
import Derived.Test.Qxb6612599aDoorL1
import Derived.Maps.AppendAt
namespace Go.Proofs.Qxb6612599aDoor
open Go.RowKit

/-- f with x put in at place pos -/
def insF {α : Type} (f : Nat → α) (pos : Nat) (x : α) (i : Nat) : α := if i < pos then f i else if i = pos then x else f (i - 1)
theorem insF_lt {α : Type} (f : Nat → α) {pos i : Nat} (x : α) (h : i < pos) : insF f pos x i = f i := by unfold insF; rw [if_pos h]
theorem insF_at {α : Type} (f : Nat → α) (pos : Nat) (x : α) : insF f pos x pos = x := by unfold insF; rw [if_neg (by omega), if_pos rfl]
theorem insF_gt {α : Type} (f : Nat → α) {pos i : Nat} (x : α) (h : pos ≤ i) : insF f pos x (i + 1) = f i := by unfold insF; rw [if_neg (by omega), if_neg (by omega)]; rfl

theorem map_snoc {β : Type} (F : Nat → β) (k : Nat) : (List.range k).map F ++ [F k] = (List.range (k + 1)).map F := by rw [List.range_succ, List.map_append]; rfl

/-- what an owned row reads as -/
theorem ownsRow_bits {w : World} {base g n cap : Nat} {F : Nat → Int} (h : w.ownsRow base 3 1 (.slice (some ⟨g, 0, .none⟩) n cap) n ((List.range n).map fun i => .int .i64 (F i))) : BitsAt w (some ⟨g, 0, .none⟩) n F := fun i hi =>
  ⟨g, 0, rfl, by rw [Nat.zero_add, h.cellAt i (by omega)]; simp [hi]⟩

def InsIntPost (n pos : Nat) (C : Nat → Int) (x : Int) (w : World) (e : Ending) (w' : World) : Prop := ∃ g, e = .returned (.slice (some ⟨g, 0, .none⟩) (n + 1) (n + 1)) ∧ BitsAt w' (some ⟨g, 0, .none⟩) (n + 1) (insF C pos x) ∧ Below w.heap.size w w'

set_option maxRecDepth 100000 in
set_option maxHeartbeats 1000000 in
theorem insInt_any (a : Option Addr) (n cp pos : Nat) (C : Nat → Int) (x : Int) (w : World) (hn : n ≤ 65536) (hp : pos ≤ n) (hB : BitsAt w a n C) :
    Calls Tryd.prog 9 #[.slice a n cp, .int .i64 (pos : Int), .int .i64 x] w fun e w' => InsIntPost n pos C x w e w' := by
  obtain ⟨i, hi, hz0, hz1, hz2⟩ := info_parts Tryd.info3
  go_enter Tryd.func9, Tryd.ntmps9
  go_wp2_with (first
    | (at_make; refine wpList_make_own _ rfl _ _ 23 rfl w.heap.size 3 i (.int .i64 0) 1 Tryd.underlying23 hi hz0 hz1 _ _ _ (n + 1) rfl rfl (by omega) (by rw [hz2]; omega) (by unfold maxLen; omega) (Nat.le_refl _) ?_; intro w1 hown1 hg1)
    | go_in)
  have hb1 : Below w.heap.size w w1 := (Below.refl _ _).grown hg1 (Nat.le_refl _) (fun k hk => by cases hk)
  go_loopw [7, 8] (fun s i wr => ∃ k : Nat, k ≤ pos ∧ i = .int .i64 k ∧ s = .slice (some ⟨w.heap.size, 0, .none⟩) k (n + 1) ∧ wr.ownsRow w.heap.size 3 1 (.slice (some ⟨w.heap.size, 0, .none⟩) k (n + 1)) k ((List.range k).map fun i => .int .i64 (insF C pos x i)) ∧ Below w.heap.size w wr) (fun _ i _ => pos - (intOf i).toNat)
  case atStart => exact ⟨0, Nat.zero_le _, rfl, rfl, hown1, hb1⟩
  case round =>
    obtain ⟨k, hk, rfl, rfl, hown, hbl⟩ := hrel
    rename World => W1
    by_cases hlt : k < pos
    · obtain ⟨b, o, rfl, c0⟩ := hB k (by omega)
      have q0 := below_cell hbl c0 (cell_lt c0)
      have HM : Hid _ := map_snoc (fun i => Value.int .i64 (insF C pos x i)) k
      have HK : Hid _ := insF_lt C x hlt
      go_wp2_with (first
        | (at_builtin; refine wpList_append_fits _ rfl _ _ 23 rfl w.heap.size 3 i 1 Tryd.underlying23 hi hz1 w.heap.size k (n + 1) _ rfl (hown.alloc _) ⟨W1.heap.size, 0, .none⟩ 1 1 [.int .i64 (C k)] rfl rfl (cell_one_new _ _ _) (ints_oneCell .i64 [C k]) (by omega) ?_; intro w2 hown2 hg2)
        | go_in)
      go_roundw
      case rel =>
        refine ⟨k + 1, by omega, by go_num, rfl, ?_, (Below.al hbl _).grown hg2 (by have := hbl.size; simp; omega) (fun j hj => by cases hj; exact Nat.le_refl _)⟩
        rw [← HM.out]
        rw [HK.out]
        exact hown2
      case measure => simp [intOf]; omega
    · obtain rfl : k = pos := by omega
      have HM : Hid _ := map_snoc (fun i => Value.int .i64 (insF C k x i)) k
      have HK : Hid _ := insF_at C k x
      go_wp2_with (first
        | (at_builtin; refine wpList_append_fits _ rfl _ _ 23 rfl w.heap.size 3 i 1 Tryd.underlying23 hi hz1 w.heap.size k (n + 1) _ rfl (hown.alloc _) ⟨W1.heap.size, 0, .none⟩ 1 1 [.int .i64 x] rfl rfl (cell_one_new _ _ _) (ints_oneCell .i64 [x]) (by omega) ?_; intro w2 hown2 hg2)
        | go_in)
      have hb2 : Below w.heap.size w w2 := (Below.al hbl _).grown hg2 (by have := hbl.size; simp; omega) (fun j hj => by cases hj; exact Nat.le_refl _)
      go_loopw [7, 9] (fun s i wr => ∃ j : Nat, k ≤ j ∧ j ≤ n ∧ i = .int .i64 j ∧ s = .slice (some ⟨w.heap.size, 0, .none⟩) (j + 1) (n + 1) ∧ wr.ownsRow w.heap.size 3 1 (.slice (some ⟨w.heap.size, 0, .none⟩) (j + 1) (n + 1)) (j + 1) ((List.range (j + 1)).map fun i => .int .i64 (insF C k x i)) ∧ Below w.heap.size w wr) (fun _ i _ => n - (intOf i).toNat)
      case atStart =>
        refine ⟨k, Nat.le_refl _, hp, rfl, rfl, ?_, hb2⟩
        rw [← HM.out]
        rw [HK.out]
        exact hown2
      case round =>
        obtain ⟨j, hkj, hj, rfl, rfl, hown3, hbl3⟩ := hrel
        rename World => W3
        by_cases hjt : j < n
        · obtain ⟨b, o, rfl, c0⟩ := hB j hjt
          have q0 := below_cell hbl3 c0 (cell_lt c0)
          have HM3 : Hid _ := map_snoc (fun i => Value.int .i64 (insF C k x i)) (j + 1)
          have HK3 : Hid _ := insF_gt C x hkj
          go_wp2_with (first
            | (at_builtin; refine wpList_append_fits _ rfl _ _ 23 rfl w.heap.size 3 i 1 Tryd.underlying23 hi hz1 w.heap.size (j + 1) (n + 1) _ rfl (hown3.alloc _) ⟨W3.heap.size, 0, .none⟩ 1 1 [.int .i64 (C j)] rfl rfl (cell_one_new _ _ _) (ints_oneCell .i64 [C j]) (by omega) ?_; intro w4 hown4 hg4)
            | go_in)
          go_roundw
          case rel =>
            refine ⟨j + 1, by omega, by omega, by go_num, rfl, ?_, (Below.al hbl3 _).grown hg4 (by have := hbl3.size; simp; omega) (fun j hj => by cases hj; exact Nat.le_refl _)⟩
            rw [← HM3.out]
            rw [HK3.out]
            exact hown4
          case measure => simp [intOf]; omega
        · obtain rfl : j = n := by omega
          go_wp2
          go_ret
          exact ⟨_, rfl, ownsRow_bits hown3, hbl3⟩

/-- what an owned row of fours reads as -/
theorem ownsRow_addrs {w : World} {base g n cap : Nat} {X : Nat → Nat → Nat} (h : w.ownsRow base 24 4 (.slice (some ⟨g, 0, .none⟩) n cap) n ((List.range (n * 4)).map fun j => .int .u8 (X (j / 4) (j % 4)))) : AddrsAt w (some ⟨g, 0, .none⟩) n X := fun i hi => by
  have one : ∀ t, t < 4 → w.cell? ⟨g, i * 4 + t, .none⟩ = some (.int .u8 (X i t)) := fun t ht => by
    rw [h.cellAt (i * 4 + t) (by omega)]
    have hl : i * 4 + t < n * 4 := by omega
    simp [hl, show (i * 4 + t) / 4 = i by omega, show (i * 4 + t) % 4 = t by omega]
  exact ⟨g, 0, rfl, by rw [Nat.zero_add]; exact one 0 (by omega), by rw [Nat.zero_add]; exact one 1 (by omega), by rw [Nat.zero_add]; exact one 2 (by omega), by rw [Nat.zero_add]; exact one 3 (by omega)⟩

theorem map_snoc4 (X : Nat → Nat → Nat) (k : Nat) {x : Nat → Nat} (h : X k = x) : ((List.range (k * 4)).map fun j => Value.int .u8 (X (j / 4) (j % 4))) ++ [.int .u8 (x 0), .int .u8 (x 1), .int .u8 (x 2), .int .u8 (x 3)] = (List.range ((k + 1) * 4)).map fun j => Value.int .u8 (X (j / 4) (j % 4)) := by
  rw [show (k + 1) * 4 = k * 4 + 1 + 1 + 1 + 1 by omega, List.range_succ, List.range_succ, List.range_succ, List.range_succ]
  simp only [List.map_append, List.append_assoc, List.map_cons, List.map_nil, List.cons_append, List.nil_append]
  rw [show k * 4 / 4 = k by omega, show k * 4 % 4 = 0 by omega, show (k * 4 + 1) / 4 = k by omega, show (k * 4 + 1) % 4 = 1 by omega, show (k * 4 + 1 + 1) / 4 = k by omega, show (k * 4 + 1 + 1) % 4 = 2 by omega, show (k * 4 + 1 + 1 + 1) / 4 = k by omega, show (k * 4 + 1 + 1 + 1) % 4 = 3 by omega, h]

theorem cell_four_new (w : World) (x : Nat → Nat) (t : TypeId) : ∀ j u, [Value.int .u8 (x 0), .int .u8 (x 1), .int .u8 (x 2), .int .u8 (x 3)][j]? = some u → (w.alloc (.cells #[.int .u8 (x 0), .int .u8 (x 1), .int .u8 (x 2), .int .u8 (x 3)] t)).cell? ((⟨w.heap.size, 0, .none⟩ : Addr).add j) = some u := fun j u hu => by
  rw [WideShapes.add_plain, Nat.zero_add]
  match j, hu with
  | 0, hu => rw [← hu]; go_simp
  | 1, hu => rw [← hu]; go_simp
  | 2, hu => rw [← hu]; go_simp
  | 3, hu => rw [← hu]; go_simp
theorem four_oneCell (x : Nat → Nat) : ∀ u ∈ [Value.int .u8 (x 0), .int .u8 (x 1), .int .u8 (x 2), .int .u8 (x 3)], u.oneCell' = true := by
  intro u hu
  simp at hu
  rcases hu with rfl | rfl | rfl | rfl <;> rfl

def InsAddrPost (n pos : Nat) (X : Nat → Nat → Nat) (x : Nat → Nat) (w : World) (e : Ending) (w' : World) : Prop := ∃ g, e = .returned (.slice (some ⟨g, 0, .none⟩) (n + 1) (n + 1)) ∧ AddrsAt w' (some ⟨g, 0, .none⟩) (n + 1) (insF X pos x) ∧ Below w.heap.size w w'

set_option maxRecDepth 100000 in
set_option maxHeartbeats 1000000 in
theorem insAddr_any (a : Option Addr) (n cp pos : Nat) (X : Nat → Nat → Nat) (x : Nat → Nat) (w : World) (hn : n ≤ 65536) (hp : pos ≤ n) (hA : AddrsAt w a n X) :
    Calls Tryd.prog 10 #[.slice a n cp, .int .i64 (pos : Int), .agg #[.int .u8 (x 0), .int .u8 (x 1), .int .u8 (x 2), .int .u8 (x 3)]] w fun e w' => InsAddrPost n pos X x w e w' := by
  obtain ⟨i, hi, hz0, hz1, hz2⟩ := info_parts Tryd.info24
  have hbx : Box4 (w.alloc (.cells #[.int .u8 (x 0), .int .u8 (x 1), .int .u8 (x 2), .int .u8 (x 3)] 24)) w.heap.size x := ⟨by go_simp, by go_simp, by go_simp, by go_simp⟩
  have ba : Below w.heap.size w (w.alloc (.cells #[.int .u8 (x 0), .int .u8 (x 1), .int .u8 (x 2), .int .u8 (x 3)] 24)) := Below.al (Below.refl _ _) _
  have e1 : (w.alloc (.cells #[.int .u8 (x 0), .int .u8 (x 1), .int .u8 (x 2), .int .u8 (x 3)] 24)).heap.size = w.heap.size + 1 := by simp
  go_enter Tryd.func10, Tryd.ntmps10
  go_wp2_with (first
    | (at_make; refine wpList_make_own _ rfl _ _ 22 rfl (w.heap.size + 1) 24 i (.agg #[.int .u8 0, .int .u8 0, .int .u8 0, .int .u8 0]) 4 Tryd.underlying22 hi hz0 hz1 _ _ _ (n + 1) rfl rfl (by omega) (by rw [hz2]; omega) (by unfold maxLen; omega) (by simp) ?_; intro w1 hown1 hg1)
    | go_in)
  obtain ⟨Wb, hWb⟩ : ∃ W, W = w.alloc (.cells #[.int .u8 (x 0), .int .u8 (x 1), .int .u8 (x 2), .int .u8 (x 3)] 24) := ⟨_, rfl⟩
  rw [← hWb] at hbx ba e1 hg1 hown1
  clear hWb
  have hb1 : Below Wb.heap.size Wb w1 := (Below.refl _ _).grown hg1 (Nat.le_refl _) (fun k hk => by cases hk)
  rw [e1] at hown1
  have hA' := hA.kept ba
  go_loopw [7, 8] (fun s i wr => ∃ k : Nat, k ≤ pos ∧ i = .int .i64 k ∧ s = .slice (some ⟨w.heap.size + 1, 0, .none⟩) k (n + 1) ∧ wr.ownsRow (w.heap.size + 1) 24 4 (.slice (some ⟨w.heap.size + 1, 0, .none⟩) k (n + 1)) k ((List.range (k * 4)).map fun j => .int .u8 (insF X pos x (j / 4) (j % 4))) ∧ Below Wb.heap.size Wb wr) (fun _ i _ => pos - (intOf i).toNat)
  case atStart => exact ⟨0, Nat.zero_le _, rfl, rfl, hown1, hb1⟩
  case round =>
    obtain ⟨k, hk, rfl, rfl, hown, hbl⟩ := hrel
    rename World => W1
    have hs1 := hbl.size
    by_cases hlt : k < pos
    · obtain ⟨b, o, rfl, c0, c1, c2, c3⟩ := hA' k (by omega)
      have q0 := below_cell hbl c0 (cell_lt c0)
      have q1 := below_cell hbl c1 (cell_lt c1)
      have q2 := below_cell hbl c2 (cell_lt c2)
      have q3 := below_cell hbl c3 (cell_lt c3)
      have HM : Hid _ := map_snoc4 (insF X pos x) k (insF_lt X x hlt)
      go_wp2_with (first
        | (at_builtin; refine wpList_append_fits _ rfl _ _ 22 rfl (w.heap.size + 1) 24 i 4 Tryd.underlying22 hi hz1 (w.heap.size + 1) k (n + 1) _ rfl (hown.alloc _) ⟨W1.heap.size, 0, .none⟩ 1 1 [.int .u8 (X k 0), .int .u8 (X k 1), .int .u8 (X k 2), .int .u8 (X k 3)] rfl rfl (cell_four_new _ (X k) _) (four_oneCell (X k)) (by omega) ?_; intro w2 hown2 hg2)
        | go_in)
      go_roundw
      case rel =>
        refine ⟨k + 1, by omega, by go_num, rfl, ?_, (Below.al hbl _).grown hg2 (by simp; omega) (fun j hj => by cases hj; omega)⟩
        rw [← HM.out]
        exact hown2
      case measure => simp [intOf]; omega
    · obtain rfl : k = pos := by omega
      obtain ⟨m0, m1, m2, m3⟩ := hbx.kept hbl
      have HM : Hid _ := map_snoc4 (insF X k x) k (insF_at X k x)
      go_wp2_with (first
        | (at_builtin; refine wpList_append_fits _ rfl _ _ 22 rfl (w.heap.size + 1) 24 i 4 Tryd.underlying22 hi hz1 (w.heap.size + 1) k (n + 1) _ rfl (hown.alloc _) ⟨W1.heap.size, 0, .none⟩ 1 1 [.int .u8 (x 0), .int .u8 (x 1), .int .u8 (x 2), .int .u8 (x 3)] rfl rfl (cell_four_new _ x _) (four_oneCell x) (by omega) ?_; intro w2 hown2 hg2)
        | go_in)
      have hb2 : Below Wb.heap.size Wb w2 := (Below.al hbl _).grown hg2 (by simp; omega) (fun j hj => by cases hj; omega)
      go_loopw [7, 9] (fun s i wr => ∃ j : Nat, k ≤ j ∧ j ≤ n ∧ i = .int .i64 j ∧ s = .slice (some ⟨w.heap.size + 1, 0, .none⟩) (j + 1) (n + 1) ∧ wr.ownsRow (w.heap.size + 1) 24 4 (.slice (some ⟨w.heap.size + 1, 0, .none⟩) (j + 1) (n + 1)) (j + 1) ((List.range ((j + 1) * 4)).map fun j => .int .u8 (insF X k x (j / 4) (j % 4))) ∧ Below Wb.heap.size Wb wr) (fun _ i _ => n - (intOf i).toNat)
      case atStart =>
        refine ⟨k, Nat.le_refl _, hp, rfl, rfl, ?_, hb2⟩
        rw [← HM.out]
        exact hown2
      case round =>
        obtain ⟨j, hkj, hj, rfl, rfl, hown3, hbl3⟩ := hrel
        rename World => W3
        have hs3 := hbl3.size
        by_cases hjt : j < n
        · obtain ⟨b, o, rfl, c0, c1, c2, c3⟩ := hA' j hjt
          have q0 := below_cell hbl3 c0 (cell_lt c0)
          have q1 := below_cell hbl3 c1 (cell_lt c1)
          have q2 := below_cell hbl3 c2 (cell_lt c2)
          have q3 := below_cell hbl3 c3 (cell_lt c3)
          have HM3 : Hid _ := map_snoc4 (insF X k x) (j + 1) (insF_gt X x hkj)
          go_wp2_with (first
            | (at_builtin; refine wpList_append_fits _ rfl _ _ 22 rfl (w.heap.size + 1) 24 i 4 Tryd.underlying22 hi hz1 (w.heap.size + 1) (j + 1) (n + 1) _ rfl (hown3.alloc _) ⟨W3.heap.size, 0, .none⟩ 1 1 [.int .u8 (X j 0), .int .u8 (X j 1), .int .u8 (X j 2), .int .u8 (X j 3)] rfl rfl (cell_four_new _ (X j) _) (four_oneCell (X j)) (by omega) ?_; intro w4 hown4 hg4)
            | go_in)
          go_roundw
          case rel =>
            refine ⟨j + 1, by omega, by omega, by go_num, rfl, ?_, (Below.al hbl3 _).grown hg4 (by simp; omega) (fun j hj => by cases hj; omega)⟩
            rw [← HM3.out]
            exact hown4
          case measure => simp [intOf]; omega
        · obtain rfl : j = n := by omega
          go_wp2
          go_ret
          exact ⟨_, rfl, ownsRow_addrs hown3, ba.trans (hbl3.mono ba.size)⟩
end Go.Proofs.Qxb6612599aDoor
