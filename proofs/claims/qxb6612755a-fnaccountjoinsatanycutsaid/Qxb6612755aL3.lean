/- The law FnAccountIsGreatestOfWhatIsHeld (3), walked: the inputs that are turned away. -/
import Derived.Test.Qxb6612755aW5
import Derived.Test.Qxb6612755aC
import Derived.Test.Qxb6612755aB
import Derived.WalkSpells
import Derived.WalkLawsBesides
namespace Go.Proofs.Qxb6612755a
open Go.RowKit
attribute [local go_sem ↓] Go.wp_at_zero Go.wp_at_succ

def IntCells (w : World) (x : Addr) (n : Nat) (C : Nat → Int) : Prop := ∀ j, j < n → w.cell? (x.add j) = some (.int .i64 (C j))
theorem add_block (x : Addr) (j : Nat) : (x.add j).block = x.block := by unfold Addr.add; split <;> rfl
theorem IntCells.kept {w w' : World} {x : Addr} {n : Nat} {C : Nat → Int} (h : IntCells w x n C) (hb : Below w.heap.size w w') : IntCells w' x n C := fun j hj => below_cell hb (h j hj) (cell_lt (h j hj))
theorem below_grown {w w1 w2 : World} {g : Nat} (hb : Below w.heap.size w w1) (hg : w1.grownBy w2 (some g)) (hl : w.heap.size ≤ g) : Below w.heap.size w w2 := hb.grown hg hb.size (fun k hk => by cases hk; exact hl)
theorem intsAt_row {w : World} {g n : Nat} {C : Nat → Int} (h : w.rowIs g 3 n (fun j => .int .i64 (C j))) : IntsAt w (some ⟨g, 0, .none⟩) n C := fun i hi => ⟨g, 0, rfl, by rw [Nat.zero_add]; exact h.cell hi⟩
theorem Try.size3 : (Try.prog.info? 3).map (·.size) = some 1 := by kernel_rfl
theorem run_make22 (n : Nat) (hn : n ≤ 1048576) (w : World) : (Instr.makeSlice 22 (.int .i64 (n : Int)) (.int .i64 (n : Int))).run Try.prog w = .ok (.slice (some ⟨w.heap.size, 0, .none⟩) n n) (w.alloc (.cells (madeCells #[.int .i64 0] n) 3)) :=
  run_make_row' (P := Try.prog) 22 3 (.int .i64 0) 8 Try.underlying22 Try.info3 rfl .i64 .i64 n (by omega) (by omega) w

set_option maxRecDepth 100000 in
set_option maxHeartbeats 1000000 in
theorem law3_out (site n : Int) (pa : Option Addr) (pn pc : Nat) (peer : Int) (a : Option Addr) (m hc : Nat) (A : Nat → Option Addr) (L cp : Nat → Nat) (X : Nat → Nat → Int) (hf : Bool) (fa : Option Addr) (fl fc : Nat) (w : World) (hH : HeldAt w a m A L cp X) (h1 : pn ≤ maxLen) (h2 : m ≤ maxLen) (h3 : fl ≤ maxLen) (h4 : ∀ i, i < m → L i ≤ maxLen) (ho : 131072 < pn ∨ 131072 < fl ∨ 131072 < m) :
    Calls Try.prog 3 #[.int .i64 site, .int .i64 n, .slice pa pn pc, .int .i64 peer, .slice a m hc, .bool hf, .slice fa fl fc] w fun e w' => e = .returned (.bool true) ∧ Below w.heap.size w w' := by
  have cZ := zzBytes7_any site n pa pn pc peer a m hc A L cp X hf fa fl fc w hH h1 h2 h3 h4
  unfold maxLen at h1 h2 h3 h4
  by_cases g1 : 131072 < pn
  · have d1 : decide ((131072 : Int) < (pn : Int)) = true := by simp; omega
    go_enter Try.func3, Try.ntmps3
    go_wp2_with (first | (go_at_call 7; go_fit cZ; rintro e w1 ⟨⟨q, rfl⟩, hw⟩; replace hw := hw.symm; subst hw))
    all_goals (go_ret; exact ⟨rfl, Below.refl _ _⟩)
  have d1 : decide ((131072 : Int) < (pn : Int)) = false := by simp; omega
  by_cases g2 : 131072 < fl
  · have d2 : decide ((131072 : Int) < (fl : Int)) = true := by simp; omega
    go_enter Try.func3, Try.ntmps3
    go_wp2_with (first | (go_at_call 7; go_fit cZ; rintro e w1 ⟨⟨q, rfl⟩, hw⟩; replace hw := hw.symm; subst hw))
    all_goals (go_ret; exact ⟨rfl, Below.refl _ _⟩)
  have d2 : decide ((131072 : Int) < (fl : Int)) = false := by simp; omega
  have d3 : decide ((131072 : Int) < (m : Int)) = true := by simp; omega
  go_enter Try.func3, Try.ntmps3
  go_wp2_with (first | (go_at_call 7; go_fit cZ; rintro e w1 ⟨⟨q, rfl⟩, hw⟩; replace hw := hw.symm; subst hw))
  all_goals (go_ret; exact ⟨rfl, Below.refl _ _⟩)

set_option maxRecDepth 100000 in
set_option maxHeartbeats 4000000 in
theorem law3_no_nn (site n peer : Int) (pn pc fl fc : Nat) (a : Option Addr) (m hc : Nat) (A : Nat → Option Addr) (L cp : Nat → Nat) (X : Nat → Nat → Int) (hf : Bool) (w : World) (hH : HeldAt w a m A L cp X) (h1 : pn ≤ 131072) (h2 : m ≤ 131072) (h3 : fl ≤ 131072) (h4 : ∀ i, i < m → L i ≤ maxLen) (hD : ¬ Dom site n pn peer m L hf fl) :
    Calls Try.prog 3 #[.int .i64 site, .int .i64 n, .slice none pn pc, .int .i64 peer, .slice a m hc, .bool hf, .slice none fl fc] w fun e w' => e = .returned (.bool true) ∧ Below w.heap.size w w' := by
  have cZ := zzBytes7_any site n none pn pc peer a m hc A L cp X hf none fl fc w hH (by unfold maxLen; omega) (by unfold maxLen; omega) (by unfold maxLen; omega) h4
  have d1 : decide ((131072 : Int) < (pn : Int)) = false := by simp; omega
  have d2 : decide ((131072 : Int) < (fl : Int)) = false := by simp; omega
  have d3 : decide ((131072 : Int) < (m : Int)) = false := by simp; omega
  go_enter Try.func3, Try.ntmps3
  go_wp2_with (first
    | (go_at_call 7; go_fit cZ; rintro e w1 ⟨⟨q, rfl⟩, hw⟩; replace hw := hw.symm; subst hw))
  · go_ret; exact ⟨rfl, Below.refl _ _⟩
  · (go_ret; exact ⟨rfl, (Below.refl w.heap.size w)⟩)
  have gH := hH.kept (Below.refl w.heap.size w)
  clear cZ d1 d2 d3
  go_loop [17, 18] (fun r i => ∃ k : Nat, k ≤ m ∧ i = .int .i64 k ∧ ∃ q : Int, r = .int .i64 q ∧ 0 ≤ q ∧ q ≤ 1048576) (fun _ i => m - (intOf i).toNat)
  case atStart => exact ⟨0, Nat.zero_le _, rfl, _, rfl, by omega, by omega⟩
  case round =>
    obtain ⟨k, hk, rfl, q, rfl, hq1, hq2⟩ := hrel
    by_cases hlt : k < m
    · obtain ⟨⟨b, o, rfl, c0⟩, _⟩ := gH k hlt
      have hLk := h4 k hlt
      unfold maxLen at hLk
      have i0 : (k : Int) < m := by omega
      go_wp2
      · (go_ret; exact ⟨rfl, (Below.refl w.heap.size w)⟩)
      · (go_ret; exact ⟨rfl, (Below.refl w.heap.size w)⟩)
      go_round
      case rel => exact ⟨k + 1, by omega, by go_num, _, rfl, by omega, by omega⟩
      case measure => simp [intOf]; omega
    · obtain rfl : k = m := by omega
      go_wp2_with (first | (go_at_call 8; go_fit (domain_any site n none pn pc peer a k hc A L cp X hf none fl fc w gH h2 h4); rintro e w4 ⟨d, rfl, hd, hw⟩; replace hw := hw.symm; subst hw; obtain rfl : d = false := (by cases d with | false => rfl | true => exact absurd (hd rfl) hD)))
      all_goals (go_ret; exact ⟨rfl, (Below.refl w.heap.size w)⟩)

set_option maxRecDepth 100000 in
set_option maxHeartbeats 4000000 in
theorem law3_no_ns (site n peer : Int) (pn pc fl fc : Nat) (y : Addr) (F : Nat → Int) (a : Option Addr) (m hc : Nat) (A : Nat → Option Addr) (L cp : Nat → Nat) (X : Nat → Nat → Int) (hf : Bool) (w : World) (hH : HeldAt w a m A L cp X) (h1 : pn ≤ 131072) (h2 : m ≤ 131072) (h3 : fl ≤ 131072) (h4 : ∀ i, i < m → L i ≤ maxLen) (hF : IntCells w y fl F) (hD : ¬ Dom site n pn peer m L hf fl) :
    Calls Try.prog 3 #[.int .i64 site, .int .i64 n, .slice none pn pc, .int .i64 peer, .slice a m hc, .bool hf, .slice (some y) fl fc] w fun e w' => e = .returned (.bool true) ∧ Below w.heap.size w w' := by
  have cZ := zzBytes7_any site n none pn pc peer a m hc A L cp X hf (some y) fl fc w hH (by unfold maxLen; omega) (by unfold maxLen; omega) (by unfold maxLen; omega) h4
  have hmk2 := run_make22 fl (by omega)
  have d1 : decide ((131072 : Int) < (pn : Int)) = false := by simp; omega
  have d2 : decide ((131072 : Int) < (fl : Int)) = false := by simp; omega
  have d3 : decide ((131072 : Int) < (m : Int)) = false := by simp; omega
  go_enter Try.func3, Try.ntmps3
  go_wp2_with (first
    | (go_at_call 7; go_fit cZ; rintro e w1 ⟨⟨q, rfl⟩, hw⟩; replace hw := hw.symm; subst hw)
    | (refine wpList_copy_one _ rfl _ _ 22 22 rfl 3 Try.underlying22 Try.size3 w.heap.size fl (some y) fc rfl rfl 3 _ (fun j => .int .i64 (F j)) (World.rowIs_made _ _ fl 3) (fun _ => ⟨y, rfl, hF.kept (Below.al (Below.refl w.heap.size w) _)⟩) (fun j _ => rfl) ?_; intro w3 hrow3 hg3; have hb3 := below_grown (Below.al (Below.refl w.heap.size w) _) hg3 (Below.refl w.heap.size w).size))
  · go_ret; exact ⟨rfl, Below.refl _ _⟩
  · (go_ret; exact ⟨rfl, hb3⟩)
  have gH := hH.kept hb3
  clear cZ hmk2 d1 d2 d3
  go_loop [17, 18] (fun r i => ∃ k : Nat, k ≤ m ∧ i = .int .i64 k ∧ ∃ q : Int, r = .int .i64 q ∧ 0 ≤ q ∧ q ≤ 1048576) (fun _ i => m - (intOf i).toNat)
  case atStart => exact ⟨0, Nat.zero_le _, rfl, _, rfl, by omega, by omega⟩
  case round =>
    obtain ⟨k, hk, rfl, q, rfl, hq1, hq2⟩ := hrel
    by_cases hlt : k < m
    · obtain ⟨⟨b, o, rfl, c0⟩, _⟩ := gH k hlt
      have hLk := h4 k hlt
      unfold maxLen at hLk
      have i0 : (k : Int) < m := by omega
      go_wp2
      · (go_ret; exact ⟨rfl, hb3⟩)
      · (go_ret; exact ⟨rfl, hb3⟩)
      go_round
      case rel => exact ⟨k + 1, by omega, by go_num, _, rfl, by omega, by omega⟩
      case measure => simp [intOf]; omega
    · obtain rfl : k = m := by omega
      go_wp2_with (first | (go_at_call 8; go_fit (domain_any site n none pn pc peer a k hc A L cp X hf (some ⟨w.heap.size, 0, .none⟩) fl fl w3 gH h2 h4); rintro e w4 ⟨d, rfl, hd, hw⟩; replace hw := hw.symm; subst hw; obtain rfl : d = false := (by cases d with | false => rfl | true => exact absurd (hd rfl) hD)))
      all_goals (go_ret; exact ⟨rfl, hb3⟩)

set_option maxRecDepth 100000 in
set_option maxHeartbeats 4000000 in
theorem law3_no_sn (site n peer : Int) (pn pc fl fc : Nat) (x : Addr) (P : Nat → Int) (a : Option Addr) (m hc : Nat) (A : Nat → Option Addr) (L cp : Nat → Nat) (X : Nat → Nat → Int) (hf : Bool) (w : World) (hH : HeldAt w a m A L cp X) (h1 : pn ≤ 131072) (h2 : m ≤ 131072) (h3 : fl ≤ 131072) (h4 : ∀ i, i < m → L i ≤ maxLen) (hP : IntCells w x pn P) (hD : ¬ Dom site n pn peer m L hf fl) :
    Calls Try.prog 3 #[.int .i64 site, .int .i64 n, .slice (some x) pn pc, .int .i64 peer, .slice a m hc, .bool hf, .slice none fl fc] w fun e w' => e = .returned (.bool true) ∧ Below w.heap.size w w' := by
  have cZ := zzBytes7_any site n (some x) pn pc peer a m hc A L cp X hf none fl fc w hH (by unfold maxLen; omega) (by unfold maxLen; omega) (by unfold maxLen; omega) h4
  have hmk1 := run_make22 pn (by omega)
  have d1 : decide ((131072 : Int) < (pn : Int)) = false := by simp; omega
  have d2 : decide ((131072 : Int) < (fl : Int)) = false := by simp; omega
  have d3 : decide ((131072 : Int) < (m : Int)) = false := by simp; omega
  go_enter Try.func3, Try.ntmps3
  go_wp2_with (first
    | (go_at_call 7; go_fit cZ; rintro e w1 ⟨⟨q, rfl⟩, hw⟩; replace hw := hw.symm; subst hw)
    | (refine wpList_copy_one _ rfl _ _ 22 22 rfl 3 Try.underlying22 Try.size3 w.heap.size pn (some x) pc rfl rfl 3 _ (fun j => .int .i64 (P j)) (World.rowIs_made _ _ pn 3) (fun _ => ⟨x, rfl, hP.kept (Below.al (Below.refl _ _) _)⟩) (fun j _ => rfl) ?_; intro w2 hrow2 hg2; have hb2 := below_grown (Below.al (Below.refl w.heap.size w) _) hg2 (Nat.le_refl _)))
  · go_ret; exact ⟨rfl, Below.refl _ _⟩
  · (go_ret; exact ⟨rfl, hb2⟩)
  have gH := hH.kept hb2
  clear cZ hmk1 d1 d2 d3
  go_loop [17, 18] (fun r i => ∃ k : Nat, k ≤ m ∧ i = .int .i64 k ∧ ∃ q : Int, r = .int .i64 q ∧ 0 ≤ q ∧ q ≤ 1048576) (fun _ i => m - (intOf i).toNat)
  case atStart => exact ⟨0, Nat.zero_le _, rfl, _, rfl, by omega, by omega⟩
  case round =>
    obtain ⟨k, hk, rfl, q, rfl, hq1, hq2⟩ := hrel
    by_cases hlt : k < m
    · obtain ⟨⟨b, o, rfl, c0⟩, _⟩ := gH k hlt
      have hLk := h4 k hlt
      unfold maxLen at hLk
      have i0 : (k : Int) < m := by omega
      go_wp2
      · (go_ret; exact ⟨rfl, hb2⟩)
      · (go_ret; exact ⟨rfl, hb2⟩)
      go_round
      case rel => exact ⟨k + 1, by omega, by go_num, _, rfl, by omega, by omega⟩
      case measure => simp [intOf]; omega
    · obtain rfl : k = m := by omega
      go_wp2_with (first | (go_at_call 8; go_fit (domain_any site n (some ⟨w.heap.size, 0, .none⟩) pn pn peer a k hc A L cp X hf none fl fc w2 gH h2 h4); rintro e w4 ⟨d, rfl, hd, hw⟩; replace hw := hw.symm; subst hw; obtain rfl : d = false := (by cases d with | false => rfl | true => exact absurd (hd rfl) hD)))
      all_goals (go_ret; exact ⟨rfl, hb2⟩)

set_option maxRecDepth 100000 in
set_option maxHeartbeats 4000000 in
theorem law3_no_ss (site n peer : Int) (pn pc fl fc : Nat) (x : Addr) (P : Nat → Int) (y : Addr) (F : Nat → Int) (a : Option Addr) (m hc : Nat) (A : Nat → Option Addr) (L cp : Nat → Nat) (X : Nat → Nat → Int) (hf : Bool) (w : World) (hH : HeldAt w a m A L cp X) (h1 : pn ≤ 131072) (h2 : m ≤ 131072) (h3 : fl ≤ 131072) (h4 : ∀ i, i < m → L i ≤ maxLen) (hP : IntCells w x pn P) (hF : IntCells w y fl F) (hD : ¬ Dom site n pn peer m L hf fl) :
    Calls Try.prog 3 #[.int .i64 site, .int .i64 n, .slice (some x) pn pc, .int .i64 peer, .slice a m hc, .bool hf, .slice (some y) fl fc] w fun e w' => e = .returned (.bool true) ∧ Below w.heap.size w w' := by
  have cZ := zzBytes7_any site n (some x) pn pc peer a m hc A L cp X hf (some y) fl fc w hH (by unfold maxLen; omega) (by unfold maxLen; omega) (by unfold maxLen; omega) h4
  have hmk1 := run_make22 pn (by omega)
  have hmk2 := run_make22 fl (by omega)
  have d1 : decide ((131072 : Int) < (pn : Int)) = false := by simp; omega
  have d2 : decide ((131072 : Int) < (fl : Int)) = false := by simp; omega
  have d3 : decide ((131072 : Int) < (m : Int)) = false := by simp; omega
  go_enter Try.func3, Try.ntmps3
  go_wp2_with (first
    | (go_at_call 7; go_fit cZ; rintro e w1 ⟨⟨q, rfl⟩, hw⟩; replace hw := hw.symm; subst hw)
    | (refine wpList_copy_one _ rfl _ _ 22 22 rfl 3 Try.underlying22 Try.size3 w.heap.size pn (some x) pc rfl rfl 3 _ (fun j => .int .i64 (P j)) (World.rowIs_made _ _ pn 3) (fun _ => ⟨x, rfl, hP.kept (Below.al (Below.refl _ _) _)⟩) (fun j _ => rfl) ?_; intro w2 hrow2 hg2; have hb2 := below_grown (Below.al (Below.refl w.heap.size w) _) hg2 (Nat.le_refl _))
    | (refine wpList_copy_one _ rfl _ _ 22 22 rfl 3 Try.underlying22 Try.size3 w2.heap.size fl (some y) fc rfl rfl 3 _ (fun j => .int .i64 (F j)) (World.rowIs_made _ _ fl 3) (fun _ => ⟨y, rfl, hF.kept (Below.al hb2 _)⟩) (fun j _ => rfl) ?_; intro w3 hrow3 hg3; have hb3 := below_grown (Below.al hb2 _) hg3 hb2.size))
  · go_ret; exact ⟨rfl, Below.refl _ _⟩
  · (go_ret; exact ⟨rfl, hb3⟩)
  have gH := hH.kept hb3
  clear cZ hmk1 hmk2 d1 d2 d3
  go_loop [17, 18] (fun r i => ∃ k : Nat, k ≤ m ∧ i = .int .i64 k ∧ ∃ q : Int, r = .int .i64 q ∧ 0 ≤ q ∧ q ≤ 1048576) (fun _ i => m - (intOf i).toNat)
  case atStart => exact ⟨0, Nat.zero_le _, rfl, _, rfl, by omega, by omega⟩
  case round =>
    obtain ⟨k, hk, rfl, q, rfl, hq1, hq2⟩ := hrel
    by_cases hlt : k < m
    · obtain ⟨⟨b, o, rfl, c0⟩, _⟩ := gH k hlt
      have hLk := h4 k hlt
      unfold maxLen at hLk
      have i0 : (k : Int) < m := by omega
      go_wp2
      · (go_ret; exact ⟨rfl, hb3⟩)
      · (go_ret; exact ⟨rfl, hb3⟩)
      go_round
      case rel => exact ⟨k + 1, by omega, by go_num, _, rfl, by omega, by omega⟩
      case measure => simp [intOf]; omega
    · obtain rfl : k = m := by omega
      go_wp2_with (first | (go_at_call 8; go_fit (domain_any site n (some ⟨w.heap.size, 0, .none⟩) pn pn peer a k hc A L cp X hf (some ⟨w2.heap.size, 0, .none⟩) fl fl w3 gH h2 h4); rintro e w4 ⟨d, rfl, hd, hw⟩; replace hw := hw.symm; subst hw; obtain rfl : d = false := (by cases d with | false => rfl | true => exact absurd (hd rfl) hD)))
      all_goals (go_ret; exact ⟨rfl, hb3⟩)

end Go.Proofs.Qxb6612755a
