/- The law FnAccountJoinsAtAnyCut (4), walked: the inputs that are turned away; zzlMax (11); the two parts of the held. -/
import Derived.Test.Qxb6612755aL3
namespace Go.Proofs.Qxb6612755a
open Go.RowKit
attribute [local go_sem ↓] Go.wp_at_zero Go.wp_at_succ

set_option maxRecDepth 100000 in
theorem max_any (x y : Int) (w : World) : Calls Try.prog 11 #[.int .i64 x, .int .i64 y] w fun e w' => e = .returned (.int .i64 (if x ≥ y then x else y)) ∧ w' = w := by
  by_cases h : x ≥ y
  · rw [if_pos h]
    go_enter Try.func11, Try.ntmps11
    go_wp2
    go_ret
    exact ⟨rfl, rfl⟩
  · rw [if_neg h]
    have h' : x < y := by omega
    go_enter Try.func11, Try.ntmps11
    go_wp2
    go_ret
    exact ⟨rfl, rfl⟩

/-- held[:c] -/
theorem slice_left (a : Option Addr) (k hc c : Nat) (h : c ≤ hc) (w : World) : (Instr.slice 23 (.slice a k hc) .none (some (.int .i64 (c : Int))) .none).run Try.prog w = .ok (.slice (if hc = 0 then a else a.map (·.add 0)) c hc) w := by
  simp [Instr.slice, Instr.sliceBounds, Instr.sliceBound, run_underlying Try.underlying23, asIntOf]
  intro h2
  omega
/-- held[c:] -/
theorem slice_right (a : Option Addr) (k hc c : Nat) (h : c ≤ k) (w : World) : (Instr.slice 23 (.slice a k hc) (some (.int .i64 (c : Int))) .none .none).run Try.prog w = .ok (.slice (if hc = c then a else a.map (·.add c)) (k - c) (hc - c)) w := by
  simp [Instr.slice, Instr.sliceBounds, Instr.sliceBound, run_underlying Try.underlying23, asIntOf]
  intro h2
  omega
theorem HeldAt.left {w : World} {a : Option Addr} {k hc c : Nat} {A : Nat → Option Addr} {L cp : Nat → Nat} {X : Nat → Nat → Int} (h : HeldAt w a k A L cp X) (hk : k ≤ hc) (hck : c ≤ k) : HeldAt w (if hc = 0 then a else a.map (·.add 0)) c A L cp X := fun i hi => by
  obtain ⟨⟨b, o, rfl, c0⟩, hX⟩ := h i (by omega)
  refine ⟨⟨b, o, ?_, c0⟩, hX⟩
  rw [if_neg (by omega)]
  simp [WideShapes.add_plain]
theorem HeldAt.right {w : World} {a : Option Addr} {k hc c : Nat} {A : Nat → Option Addr} {L cp : Nat → Nat} {X : Nat → Nat → Int} (h : HeldAt w a k A L cp X) (hk : k ≤ hc) : HeldAt w (if hc = c then a else a.map (·.add c)) (k - c) (fun i => A (c + i)) (fun i => L (c + i)) (fun i => cp (c + i)) (fun i => X (c + i)) := fun i hi => by
  obtain ⟨⟨b, o, rfl, c0⟩, hX⟩ := h (c + i) (by omega)
  refine ⟨⟨b, o + c, ?_, by rw [Nat.add_assoc]; exact c0⟩, hX⟩
  rw [if_neg (by omega)]
  simp [WideShapes.add_plain]

set_option maxRecDepth 100000 in
set_option maxHeartbeats 1000000 in
theorem law4_out (site n : Int) (pa : Option Addr) (pn pc : Nat) (peer : Int) (a : Option Addr) (m hc : Nat) (A : Nat → Option Addr) (L cp : Nat → Nat) (X : Nat → Nat → Int) (hf : Bool) (fa : Option Addr) (fl fc : Nat) (cut : Int) (w : World) (hH : HeldAt w a m A L cp X) (h1 : pn ≤ maxLen) (h2 : m ≤ maxLen) (h3 : fl ≤ maxLen) (h4 : ∀ i, i < m → L i ≤ maxLen) (ho : 131072 < pn ∨ 131072 < fl ∨ 131072 < m) :
    Calls Try.prog 4 #[.int .i64 site, .int .i64 n, .slice pa pn pc, .int .i64 peer, .slice a m hc, .bool hf, .slice fa fl fc, .int .i64 cut] w fun e w' => e = .returned (.bool true) ∧ Below w.heap.size w w' := by
  have cZ := zzBytes10_any site n pa pn pc peer a m hc A L cp X hf fa fl fc cut w hH h1 h2 h3 h4
  unfold maxLen at h1 h2 h3 h4
  by_cases g1 : 131072 < pn
  · have d1 : decide ((131072 : Int) < (pn : Int)) = true := by simp; omega
    go_enter Try.func4, Try.ntmps4
    go_wp2_with (first | (go_at_call 10; go_fit cZ; rintro e w1 ⟨⟨q, rfl⟩, hw⟩; replace hw := hw.symm; subst hw))
    all_goals (go_ret; exact ⟨rfl, Below.refl _ _⟩)
  have d1 : decide ((131072 : Int) < (pn : Int)) = false := by simp; omega
  by_cases g2 : 131072 < fl
  · have d2 : decide ((131072 : Int) < (fl : Int)) = true := by simp; omega
    go_enter Try.func4, Try.ntmps4
    go_wp2_with (first | (go_at_call 10; go_fit cZ; rintro e w1 ⟨⟨q, rfl⟩, hw⟩; replace hw := hw.symm; subst hw))
    all_goals (go_ret; exact ⟨rfl, Below.refl _ _⟩)
  have d2 : decide ((131072 : Int) < (fl : Int)) = false := by simp; omega
  have d3 : decide ((131072 : Int) < (m : Int)) = true := by simp; omega
  go_enter Try.func4, Try.ntmps4
  go_wp2_with (first | (go_at_call 10; go_fit cZ; rintro e w1 ⟨⟨q, rfl⟩, hw⟩; replace hw := hw.symm; subst hw))
  all_goals (go_ret; exact ⟨rfl, Below.refl _ _⟩)

set_option maxRecDepth 100000 in
set_option maxHeartbeats 4000000 in
theorem law4_no_nn (site n peer : Int) (pn pc fl fc : Nat) (a : Option Addr) (m hc : Nat) (A : Nat → Option Addr) (L cp : Nat → Nat) (X : Nat → Nat → Int) (hf : Bool) (cut : Int) (w : World) (hH : HeldAt w a m A L cp X) (h1 : pn ≤ 131072) (h2 : m ≤ 131072) (h3 : fl ≤ 131072) (h4 : ∀ i, i < m → L i ≤ maxLen) (hD : ¬ Dom site n pn peer m L hf fl) :
    Calls Try.prog 4 #[.int .i64 site, .int .i64 n, .slice none pn pc, .int .i64 peer, .slice a m hc, .bool hf, .slice none fl fc, .int .i64 cut] w fun e w' => e = .returned (.bool true) ∧ Below w.heap.size w w' := by
  have cZ := zzBytes10_any site n none pn pc peer a m hc A L cp X hf none fl fc cut w hH (by unfold maxLen; omega) (by unfold maxLen; omega) (by unfold maxLen; omega) h4
  have d1 : decide ((131072 : Int) < (pn : Int)) = false := by simp; omega
  have d2 : decide ((131072 : Int) < (fl : Int)) = false := by simp; omega
  have d3 : decide ((131072 : Int) < (m : Int)) = false := by simp; omega
  go_enter Try.func4, Try.ntmps4
  go_wp2_with (first
    | (go_at_call 10; go_fit cZ; rintro e w1 ⟨⟨q, rfl⟩, hw⟩; replace hw := hw.symm; subst hw))
  · go_ret; exact ⟨rfl, Below.refl _ _⟩
  · (go_ret; exact ⟨rfl, (Below.refl w.heap.size w)⟩)
  have gH := hH.kept (Below.refl w.heap.size w)
  clear cZ d1 d2 d3
  go_loop [19, 20] (fun r i => ∃ k : Nat, k ≤ m ∧ i = .int .i64 k ∧ ∃ q : Int, r = .int .i64 q ∧ 0 ≤ q ∧ q ≤ 1048576) (fun _ i => m - (intOf i).toNat)
  case atStart => exact ⟨0, Nat.zero_le _, rfl, _, rfl, by omega, by omega⟩
  case round =>
    obtain ⟨k, hk, rfl, q, rfl, hq1, hq2⟩ := hrel
    by_cases hlt : k < m
    · obtain ⟨⟨b, o, rfl, c0⟩, _⟩ := gH k hlt
      have hLk := h4 k hlt
      unfold maxLen at hLk
      have i0 : (k : Int) < m := by omega
      go_wp2
      · (go_ret; exact ⟨rfl, (Below.refl w.heap.size w)⟩)
      · (go_ret; exact ⟨rfl, (Below.refl w.heap.size w)⟩)
      go_round
      case rel => exact ⟨k + 1, by omega, by go_num, _, rfl, by omega, by omega⟩
      case measure => simp [intOf]; omega
    · obtain rfl : k = m := by omega
      by_cases g1 : cut < 0
      · have d1 : decide (cut < 0) = true := by simp; omega
        go_wp2_with fail
        (go_ret; exact ⟨rfl, (Below.refl w.heap.size w)⟩)
      have d1 : decide (cut < 0) = false := by simp; omega
      by_cases g2 : (k : Int) < cut
      · have d2 : decide ((k : Int) < cut) = true := by simp; omega
        go_wp2_with fail
        (go_ret; exact ⟨rfl, (Below.refl w.heap.size w)⟩)
      have d2 : decide ((k : Int) < cut) = false := by simp; omega
      go_wp2_with (first | (go_at_call 8; go_fit (domain_any site n none pn pc peer a k hc A L cp X hf none fl fc w gH h2 h4); rintro e w4 ⟨d, rfl, hd, hw⟩; replace hw := hw.symm; subst hw; obtain rfl : d = false := (by cases d with | false => rfl | true => exact absurd (hd rfl) hD)))
      all_goals (go_ret; exact ⟨rfl, (Below.refl w.heap.size w)⟩)

set_option maxRecDepth 100000 in
set_option maxHeartbeats 4000000 in
theorem law4_no_ns (site n peer : Int) (pn pc fl fc : Nat) (y : Addr) (F : Nat → Int) (a : Option Addr) (m hc : Nat) (A : Nat → Option Addr) (L cp : Nat → Nat) (X : Nat → Nat → Int) (hf : Bool) (cut : Int) (w : World) (hH : HeldAt w a m A L cp X) (h1 : pn ≤ 131072) (h2 : m ≤ 131072) (h3 : fl ≤ 131072) (h4 : ∀ i, i < m → L i ≤ maxLen) (hF : IntCells w y fl F) (hD : ¬ Dom site n pn peer m L hf fl) :
    Calls Try.prog 4 #[.int .i64 site, .int .i64 n, .slice none pn pc, .int .i64 peer, .slice a m hc, .bool hf, .slice (some y) fl fc, .int .i64 cut] w fun e w' => e = .returned (.bool true) ∧ Below w.heap.size w w' := by
  have cZ := zzBytes10_any site n none pn pc peer a m hc A L cp X hf (some y) fl fc cut w hH (by unfold maxLen; omega) (by unfold maxLen; omega) (by unfold maxLen; omega) h4
  have hmk2 := run_make22 fl (by omega)
  have d1 : decide ((131072 : Int) < (pn : Int)) = false := by simp; omega
  have d2 : decide ((131072 : Int) < (fl : Int)) = false := by simp; omega
  have d3 : decide ((131072 : Int) < (m : Int)) = false := by simp; omega
  go_enter Try.func4, Try.ntmps4
  go_wp2_with (first
    | (go_at_call 10; go_fit cZ; rintro e w1 ⟨⟨q, rfl⟩, hw⟩; replace hw := hw.symm; subst hw)
    | (refine wpList_copy_one _ rfl _ _ 22 22 rfl 3 Try.underlying22 Try.size3 w.heap.size fl (some y) fc rfl rfl 3 _ (fun j => .int .i64 (F j)) (World.rowIs_made _ _ fl 3) (fun _ => ⟨y, rfl, hF.kept (Below.al (Below.refl w.heap.size w) _)⟩) (fun j _ => rfl) ?_; intro w3 hrow3 hg3; have hb3 := below_grown (Below.al (Below.refl w.heap.size w) _) hg3 (Below.refl w.heap.size w).size))
  · go_ret; exact ⟨rfl, Below.refl _ _⟩
  · (go_ret; exact ⟨rfl, hb3⟩)
  have gH := hH.kept hb3
  clear cZ hmk2 d1 d2 d3
  go_loop [19, 20] (fun r i => ∃ k : Nat, k ≤ m ∧ i = .int .i64 k ∧ ∃ q : Int, r = .int .i64 q ∧ 0 ≤ q ∧ q ≤ 1048576) (fun _ i => m - (intOf i).toNat)
  case atStart => exact ⟨0, Nat.zero_le _, rfl, _, rfl, by omega, by omega⟩
  case round =>
    obtain ⟨k, hk, rfl, q, rfl, hq1, hq2⟩ := hrel
    by_cases hlt : k < m
    · obtain ⟨⟨b, o, rfl, c0⟩, _⟩ := gH k hlt
      have hLk := h4 k hlt
      unfold maxLen at hLk
      have i0 : (k : Int) < m := by omega
      go_wp2
      · (go_ret; exact ⟨rfl, hb3⟩)
      · (go_ret; exact ⟨rfl, hb3⟩)
      go_round
      case rel => exact ⟨k + 1, by omega, by go_num, _, rfl, by omega, by omega⟩
      case measure => simp [intOf]; omega
    · obtain rfl : k = m := by omega
      by_cases g1 : cut < 0
      · have d1 : decide (cut < 0) = true := by simp; omega
        go_wp2_with fail
        (go_ret; exact ⟨rfl, hb3⟩)
      have d1 : decide (cut < 0) = false := by simp; omega
      by_cases g2 : (k : Int) < cut
      · have d2 : decide ((k : Int) < cut) = true := by simp; omega
        go_wp2_with fail
        (go_ret; exact ⟨rfl, hb3⟩)
      have d2 : decide ((k : Int) < cut) = false := by simp; omega
      go_wp2_with (first | (go_at_call 8; go_fit (domain_any site n none pn pc peer a k hc A L cp X hf (some ⟨w.heap.size, 0, .none⟩) fl fl w3 gH h2 h4); rintro e w4 ⟨d, rfl, hd, hw⟩; replace hw := hw.symm; subst hw; obtain rfl : d = false := (by cases d with | false => rfl | true => exact absurd (hd rfl) hD)))
      all_goals (go_ret; exact ⟨rfl, hb3⟩)

set_option maxRecDepth 100000 in
set_option maxHeartbeats 4000000 in
theorem law4_no_sn (site n peer : Int) (pn pc fl fc : Nat) (x : Addr) (P : Nat → Int) (a : Option Addr) (m hc : Nat) (A : Nat → Option Addr) (L cp : Nat → Nat) (X : Nat → Nat → Int) (hf : Bool) (cut : Int) (w : World) (hH : HeldAt w a m A L cp X) (h1 : pn ≤ 131072) (h2 : m ≤ 131072) (h3 : fl ≤ 131072) (h4 : ∀ i, i < m → L i ≤ maxLen) (hP : IntCells w x pn P) (hD : ¬ Dom site n pn peer m L hf fl) :
    Calls Try.prog 4 #[.int .i64 site, .int .i64 n, .slice (some x) pn pc, .int .i64 peer, .slice a m hc, .bool hf, .slice none fl fc, .int .i64 cut] w fun e w' => e = .returned (.bool true) ∧ Below w.heap.size w w' := by
  have cZ := zzBytes10_any site n (some x) pn pc peer a m hc A L cp X hf none fl fc cut w hH (by unfold maxLen; omega) (by unfold maxLen; omega) (by unfold maxLen; omega) h4
  have hmk1 := run_make22 pn (by omega)
  have d1 : decide ((131072 : Int) < (pn : Int)) = false := by simp; omega
  have d2 : decide ((131072 : Int) < (fl : Int)) = false := by simp; omega
  have d3 : decide ((131072 : Int) < (m : Int)) = false := by simp; omega
  go_enter Try.func4, Try.ntmps4
  go_wp2_with (first
    | (go_at_call 10; go_fit cZ; rintro e w1 ⟨⟨q, rfl⟩, hw⟩; replace hw := hw.symm; subst hw)
    | (refine wpList_copy_one _ rfl _ _ 22 22 rfl 3 Try.underlying22 Try.size3 w.heap.size pn (some x) pc rfl rfl 3 _ (fun j => .int .i64 (P j)) (World.rowIs_made _ _ pn 3) (fun _ => ⟨x, rfl, hP.kept (Below.al (Below.refl _ _) _)⟩) (fun j _ => rfl) ?_; intro w2 hrow2 hg2; have hb2 := below_grown (Below.al (Below.refl w.heap.size w) _) hg2 (Nat.le_refl _)))
  · go_ret; exact ⟨rfl, Below.refl _ _⟩
  · (go_ret; exact ⟨rfl, hb2⟩)
  have gH := hH.kept hb2
  clear cZ hmk1 d1 d2 d3
  go_loop [19, 20] (fun r i => ∃ k : Nat, k ≤ m ∧ i = .int .i64 k ∧ ∃ q : Int, r = .int .i64 q ∧ 0 ≤ q ∧ q ≤ 1048576) (fun _ i => m - (intOf i).toNat)
  case atStart => exact ⟨0, Nat.zero_le _, rfl, _, rfl, by omega, by omega⟩
  case round =>
    obtain ⟨k, hk, rfl, q, rfl, hq1, hq2⟩ := hrel
    by_cases hlt : k < m
    · obtain ⟨⟨b, o, rfl, c0⟩, _⟩ := gH k hlt
      have hLk := h4 k hlt
      unfold maxLen at hLk
      have i0 : (k : Int) < m := by omega
      go_wp2
      · (go_ret; exact ⟨rfl, hb2⟩)
      · (go_ret; exact ⟨rfl, hb2⟩)
      go_round
      case rel => exact ⟨k + 1, by omega, by go_num, _, rfl, by omega, by omega⟩
      case measure => simp [intOf]; omega
    · obtain rfl : k = m := by omega
      by_cases g1 : cut < 0
      · have d1 : decide (cut < 0) = true := by simp; omega
        go_wp2_with fail
        (go_ret; exact ⟨rfl, hb2⟩)
      have d1 : decide (cut < 0) = false := by simp; omega
      by_cases g2 : (k : Int) < cut
      · have d2 : decide ((k : Int) < cut) = true := by simp; omega
        go_wp2_with fail
        (go_ret; exact ⟨rfl, hb2⟩)
      have d2 : decide ((k : Int) < cut) = false := by simp; omega
      go_wp2_with (first | (go_at_call 8; go_fit (domain_any site n (some ⟨w.heap.size, 0, .none⟩) pn pn peer a k hc A L cp X hf none fl fc w2 gH h2 h4); rintro e w4 ⟨d, rfl, hd, hw⟩; replace hw := hw.symm; subst hw; obtain rfl : d = false := (by cases d with | false => rfl | true => exact absurd (hd rfl) hD)))
      all_goals (go_ret; exact ⟨rfl, hb2⟩)

set_option maxRecDepth 100000 in
set_option maxHeartbeats 4000000 in
theorem law4_no_ss (site n peer : Int) (pn pc fl fc : Nat) (x : Addr) (P : Nat → Int) (y : Addr) (F : Nat → Int) (a : Option Addr) (m hc : Nat) (A : Nat → Option Addr) (L cp : Nat → Nat) (X : Nat → Nat → Int) (hf : Bool) (cut : Int) (w : World) (hH : HeldAt w a m A L cp X) (h1 : pn ≤ 131072) (h2 : m ≤ 131072) (h3 : fl ≤ 131072) (h4 : ∀ i, i < m → L i ≤ maxLen) (hP : IntCells w x pn P) (hF : IntCells w y fl F) (hD : ¬ Dom site n pn peer m L hf fl) :
    Calls Try.prog 4 #[.int .i64 site, .int .i64 n, .slice (some x) pn pc, .int .i64 peer, .slice a m hc, .bool hf, .slice (some y) fl fc, .int .i64 cut] w fun e w' => e = .returned (.bool true) ∧ Below w.heap.size w w' := by
  have cZ := zzBytes10_any site n (some x) pn pc peer a m hc A L cp X hf (some y) fl fc cut w hH (by unfold maxLen; omega) (by unfold maxLen; omega) (by unfold maxLen; omega) h4
  have hmk1 := run_make22 pn (by omega)
  have hmk2 := run_make22 fl (by omega)
  have d1 : decide ((131072 : Int) < (pn : Int)) = false := by simp; omega
  have d2 : decide ((131072 : Int) < (fl : Int)) = false := by simp; omega
  have d3 : decide ((131072 : Int) < (m : Int)) = false := by simp; omega
  go_enter Try.func4, Try.ntmps4
  go_wp2_with (first
    | (go_at_call 10; go_fit cZ; rintro e w1 ⟨⟨q, rfl⟩, hw⟩; replace hw := hw.symm; subst hw)
    | (refine wpList_copy_one _ rfl _ _ 22 22 rfl 3 Try.underlying22 Try.size3 w.heap.size pn (some x) pc rfl rfl 3 _ (fun j => .int .i64 (P j)) (World.rowIs_made _ _ pn 3) (fun _ => ⟨x, rfl, hP.kept (Below.al (Below.refl _ _) _)⟩) (fun j _ => rfl) ?_; intro w2 hrow2 hg2; have hb2 := below_grown (Below.al (Below.refl w.heap.size w) _) hg2 (Nat.le_refl _))
    | (refine wpList_copy_one _ rfl _ _ 22 22 rfl 3 Try.underlying22 Try.size3 w2.heap.size fl (some y) fc rfl rfl 3 _ (fun j => .int .i64 (F j)) (World.rowIs_made _ _ fl 3) (fun _ => ⟨y, rfl, hF.kept (Below.al hb2 _)⟩) (fun j _ => rfl) ?_; intro w3 hrow3 hg3; have hb3 := below_grown (Below.al hb2 _) hg3 hb2.size))
  · go_ret; exact ⟨rfl, Below.refl _ _⟩
  · (go_ret; exact ⟨rfl, hb3⟩)
  have gH := hH.kept hb3
  clear cZ hmk1 hmk2 d1 d2 d3
  go_loop [19, 20] (fun r i => ∃ k : Nat, k ≤ m ∧ i = .int .i64 k ∧ ∃ q : Int, r = .int .i64 q ∧ 0 ≤ q ∧ q ≤ 1048576) (fun _ i => m - (intOf i).toNat)
  case atStart => exact ⟨0, Nat.zero_le _, rfl, _, rfl, by omega, by omega⟩
  case round =>
    obtain ⟨k, hk, rfl, q, rfl, hq1, hq2⟩ := hrel
    by_cases hlt : k < m
    · obtain ⟨⟨b, o, rfl, c0⟩, _⟩ := gH k hlt
      have hLk := h4 k hlt
      unfold maxLen at hLk
      have i0 : (k : Int) < m := by omega
      go_wp2
      · (go_ret; exact ⟨rfl, hb3⟩)
      · (go_ret; exact ⟨rfl, hb3⟩)
      go_round
      case rel => exact ⟨k + 1, by omega, by go_num, _, rfl, by omega, by omega⟩
      case measure => simp [intOf]; omega
    · obtain rfl : k = m := by omega
      by_cases g1 : cut < 0
      · have d1 : decide (cut < 0) = true := by simp; omega
        go_wp2_with fail
        (go_ret; exact ⟨rfl, hb3⟩)
      have d1 : decide (cut < 0) = false := by simp; omega
      by_cases g2 : (k : Int) < cut
      · have d2 : decide ((k : Int) < cut) = true := by simp; omega
        go_wp2_with fail
        (go_ret; exact ⟨rfl, hb3⟩)
      have d2 : decide ((k : Int) < cut) = false := by simp; omega
      go_wp2_with (first | (go_at_call 8; go_fit (domain_any site n (some ⟨w.heap.size, 0, .none⟩) pn pn peer a k hc A L cp X hf (some ⟨w2.heap.size, 0, .none⟩) fl fl w3 gH h2 h4); rintro e w4 ⟨d, rfl, hd, hw⟩; replace hw := hw.symm; subst hw; obtain rfl : d = false := (by cases d with | false => rfl | true => exact absurd (hd rfl) hD)))
      all_goals (go_ret; exact ⟨rfl, hb3⟩)

end Go.Proofs.Qxb6612755a
