/- The law FnAccountJoinsAtAnyCut (4), walked within the domain. -/
import Derived.Test.Qxb6612755aL4
namespace Go.Proofs.Qxb6612755a
open Go.RowKit
attribute [local go_sem ↓] Go.wp_at_zero Go.wp_at_succ

set_option maxRecDepth 100000 in
set_option maxHeartbeats 4000000 in
theorem law4_fn (s n p : Nat) (N pc fl fc : Nat) (x : Addr) (P : Nat → Int) (a : Option Addr) (m hc : Nat) (A : Nat → Option Addr) (L cp : Nat → Nat) (X : Nat → Nat → Int) (cut : Int) (w : World) (hmc : m ≤ hc) (hH : HeldAt w a m A L cp X) (h1 : N ≤ 131072) (h2 : m ≤ 131072) (h3 : fl ≤ 131072) (h4 : ∀ i, i < m → L i ≤ maxLen) (hP : IntCells w x N P) (hN : N = n * n) (hn1 : 1 ≤ n) (hn : n ≤ 1024) (hs : s < n) (hp : p < n) (hL : ∀ i, i < m → L i = n ∨ L i = n * n) :
    Calls Try.prog 4 #[.int .i64 (s : Int), .int .i64 (n : Int), .slice (some x) N pc, .int .i64 (p : Int), .slice a m hc, .bool false, .slice none fl fc, .int .i64 cut] w fun e w' => e = .returned (.bool true) ∧ Below w.heap.size w w' := by
  have cZ := zzBytes10_any (s : Int) (n : Int) (some x) N pc (p : Int) a m hc A L cp X false none fl fc cut w hH (by unfold maxLen; omega) (by unfold maxLen; omega) (by unfold maxLen; omega) h4
  have hmk1 := run_make22 N (by omega)
  have d1 : decide ((131072 : Int) < (N : Int)) = false := by simp; omega
  have d2 : decide ((131072 : Int) < (fl : Int)) = false := by simp; omega
  have d3 : decide ((131072 : Int) < (m : Int)) = false := by simp; omega
  have HN : Hid (N = n * n) := hN
  clear hN
  go_enter Try.func4, Try.ntmps4
  go_wp2_with (first
    | (go_at_call 10; go_fit cZ; rintro e w1 ⟨⟨q, rfl⟩, hw⟩; replace hw := hw.symm; subst hw)
    | (refine wpList_copy_one _ rfl _ _ 22 22 rfl 3 Try.underlying22 Try.size3 w.heap.size N (some x) pc rfl rfl 3 _ (fun j => .int .i64 (P j)) (World.rowIs_made _ _ N 3) (fun _ => ⟨x, rfl, hP.kept (Below.al (Below.refl _ _) _)⟩) (fun j _ => rfl) ?_; intro w2 hrow2 hg2; have hb2 := below_grown (Below.al (Below.refl w.heap.size w) _) hg2 (Nat.le_refl _)))
  · go_ret; exact ⟨rfl, Below.refl _ _⟩
  · (go_ret; exact ⟨rfl, hb2⟩)
  have gP : IntsAt w2 (some ⟨w.heap.size, 0, .none⟩) N P := intsAt_row hrow2
  have gH := hH.kept hb2
  clear cZ hmk1 d1 d2 d3
  go_loop [19, 20] (fun r i => ∃ k : Nat, k ≤ m ∧ i = .int .i64 k ∧ ∃ q : Int, r = .int .i64 q ∧ 0 ≤ q ∧ q ≤ 1048576) (fun _ i => m - (intOf i).toNat)
  case atStart => exact ⟨0, Nat.zero_le _, rfl, _, rfl, by omega, by omega⟩
  case round =>
    obtain ⟨k, hk, rfl, q, rfl, hq1, hq2⟩ := hrel
    by_cases hlt : k < m
    · obtain ⟨⟨b, o, rfl, c0⟩, _⟩ := gH k hlt
      have hLk := h4 k hlt
      unfold maxLen at hLk
      have i0 : (k : Int) < m := by omega
      go_wp2
      · (go_ret; exact ⟨rfl, hb2⟩)
      · (go_ret; exact ⟨rfl, hb2⟩)
      go_round
      case rel => exact ⟨k + 1, by omega, by go_num, _, rfl, by omega, by omega⟩
      case measure => simp [intOf]; omega
    · obtain rfl : k = m := by omega
      by_cases g1 : cut < 0
      · have d1 : decide (cut < 0) = true := by simp; omega
        go_wp2_with fail
        (go_ret; exact ⟨rfl, hb2⟩)
      have d1 : decide (cut < 0) = false := by simp; omega
      by_cases g2 : (k : Int) < cut
      · have d2 : decide ((k : Int) < cut) = true := by simp; omega
        go_wp2_with fail
        (go_ret; exact ⟨rfl, hb2⟩)
      have d2 : decide ((k : Int) < cut) = false := by simp; omega
      obtain ⟨c, rfl⟩ : ∃ c : Nat, cut = c := ⟨cut.toNat, by omega⟩
      have hck : c ≤ k := by omega
      have sl := slice_left a k hc c (by omega)
      obtain ⟨aR, sr, gR6⟩ : ∃ aR, (∀ w, (Instr.slice 23 (.slice a k hc) (some (.int .i64 (c : Int))) .none .none).run Try.prog w = .ok (.slice aR (k - c) (hc - c)) w) ∧ ∀ w, HeldAt w a k A L cp X → HeldAt w aR (k - c) (fun i => A (c + i)) (fun i => L (c + i)) (fun i => cp (c + i)) (fun i => X (c + i)) := ⟨_, slice_right a k hc c hck, fun w h => h.right hmc⟩
      have HN' : Hid (n * n = N) := HN.out.symm
      go_wp2_with (first
        | (go_at_call 8; go_fit (domain_any (s : Int) (n : Int) (some ⟨w.heap.size, 0, .none⟩) N N (p : Int) a k hc A L cp X false none fl fc w2 gH h2 h4); rintro e w4 ⟨d, rfl, hd, hw⟩; replace hw := hw.symm; subst hw; clear hd)
        | (go_at_call 9; have cA := zz_nil s n p (some ⟨w.heap.size, 0, .none⟩) N a k hc A L cp P X none fl fc w2 (by rw [← HN.out]; exact gP) gH hn1 hn hs hp h2 hL; rw [HN'.out] at cA; go_fit cA; clear cA; rintro e w5 ⟨ga, rfl, hYa, hb5⟩; have gP5 := gP.kept hb5 (Nat.le_refl _); have gH5 := gH.kept hb5)
        | (go_at_call 9; have cA := zz_nil s n p (some ⟨w.heap.size, 0, .none⟩) N a c hc A L cp P X none fl fc w5 (by rw [← HN.out]; exact gP5) (fun i hi => gH5 i (by omega)) hn1 hn hs hp (by omega) (fun i hi => hL i (by omega)); rw [HN'.out] at cA; go_fit cA; clear cA; rintro e w6 ⟨gl, rfl, hYl, hb6⟩; have gP6 := gP5.kept hb6 (Nat.le_refl _); have gH6 := gH5.kept hb6)
        | (go_at_call 9; have cA := zz_nil s n p (some ⟨w.heap.size, 0, .none⟩) N aR (k - c) (hc - c) (fun i => A (c + i)) (fun i => L (c + i)) (fun i => cp (c + i)) P (fun i => X (c + i)) none fl fc w6 (by rw [← HN.out]; exact gP6) (gR6 w6 gH6) hn1 hn hs hp (by omega) (fun i hi => hL (c + i) (by omega)); rw [HN'.out] at cA; go_fit cA; clear cA; rintro e w7 ⟨gr, rfl, hYr, hb7⟩; have gP7 := gP6.kept hb7 (Nat.le_refl _))
        | (go_at_call 9; have cA := zz_nil s n p (some ⟨w.heap.size, 0, .none⟩) N none 0 0 A L cp P X none fl fc w7 (by rw [← HN.out]; exact gP7) (fun i hi => absurd hi (Nat.not_lt_zero i)) hn1 hn hs hp (by omega) (fun i hi => absurd hi (Nat.not_lt_zero i)); rw [HN'.out] at cA; go_fit cA; clear cA; rintro e w8 ⟨gb, rfl, hYb, hb8⟩))
      · (go_ret; exact ⟨rfl, hb2⟩)
      have gP8 := gP7.kept hb8 (Nat.le_refl _)
      have hYa8 := ((hYa.kept hb6 (Nat.le_refl _)).kept hb7 (Nat.le_refl _)).kept hb8 (Nat.le_refl _)
      have hYl8 := (hYl.kept hb7 (Nat.le_refl _)).kept hb8 (Nat.le_refl _)
      have hYr8 := hYr.kept hb8 (Nat.le_refl _)
      have hb58 : Below w5.heap.size w5 w8 := (hb6.trans (hb7.mono hb6.size)).trans (hb8.mono (Nat.le_trans hb6.size hb7.size))
      have hb38 := hb5.trans (hb58.mono hb5.size)
      have hbF : Below w.heap.size w w8 := hb2.trans (hb38.mono hb2.size)
      have hN1 : N ≤ 1048576 := by omega
      clear sl sr gR6
      go_loopw [29] (fun i wr => ∃ u : Nat, u ≤ n ∧ i = .int .i64 u ∧ Below w8.heap.size w8 wr) (fun i _ => n - (intOf i).toNat)
      case atStart => exact ⟨0, Nat.zero_le _, rfl, Below.refl _ _⟩
      case round =>
        obtain ⟨u, hu, rfl, hbl⟩ := hrel
        rename World => W9
        by_cases hut : u < n
        · obtain ⟨q1, r, hqp, HR, _, k1, k2⟩ := idx hut hp HN hN1
          have hj := best_join (P (u * n + p)) (cand n s p L X u) c (k - c)
          rw [show c + (k - c) = k by omega, show (fun i => cand n s p L X u (c + i)) = cand n s p (fun i => L (c + i)) (fun i => X (c + i)) u from rfl] at hj
          have hge := best_ge (P (u * n + p)) (cand n s p L X u) k
          have cells : ∀ W, Below w8.heap.size w8 W → W.cell? ⟨w.heap.size, r, .none⟩ = some (.int .i64 (P r)) ∧ W.cell? ⟨ga, u, .none⟩ = some (.int .i64 (best (P (u * n + p)) (cand n s p L X u) k)) ∧ W.cell? ⟨gl, u, .none⟩ = some (.int .i64 (best (P (u * n + p)) (cand n s p L X u) c)) ∧ W.cell? ⟨gr, u, .none⟩ = some (.int .i64 (best (P (u * n + p)) (cand n s p (fun i => L (c + i)) (fun i => X (c + i)) u) (k - c))) ∧ W.cell? ⟨gb, u, .none⟩ = some (.int .i64 (P (u * n + p))) := fun W hW => by
            obtain ⟨_, _, e1, y1⟩ := gP8.kept hW (Nat.le_refl _) r hqp
            cases e1
            obtain ⟨_, _, e2, y2⟩ := hYa8.kept hW (Nat.le_refl _) u hut
            cases e2
            obtain ⟨_, _, e3, y3⟩ := hYl8.kept hW (Nat.le_refl _) u hut
            cases e3
            obtain ⟨_, _, e4, y4⟩ := hYr8.kept hW (Nat.le_refl _) u hut
            cases e4
            obtain ⟨_, _, e5, y5⟩ := hYb.kept hW (Nat.le_refl _) u hut
            cases e5
            rw [Nat.zero_add] at y1 y2 y3 y4 y5
            exact ⟨y1, y2, y3, y4, y5⟩
          rw [← HR.out] at hj hge cells
          generalize best (P r) (cand n s p L X u) k = Va at *
          generalize best (P r) (cand n s p L X u) c = Vl at *
          generalize best (P r) (cand n s p (fun i => L (c + i)) (fun i => X (c + i)) u) (k - c) = Vr at *
          have cM : ∀ W, Calls Try.prog 11 #[.int .i64 Vl, .int .i64 Vr] W fun e w' => e = .returned (.int .i64 Va) ∧ w' = W := fun W => by rw [hj]; exact max_any Vl Vr W
          clear hj
          have i1 : (u : Int) < n := by omega
          have i2 : (r : Int) < N := by omega
          have i3 : (0 : Int) ≤ (r : Int) := by omega
          have i4 : (0 : Int) ≤ (u : Int) := by omega
          have e0 : decide (Va < P r) = false := by simp; exact hge
          obtain ⟨y1, y2, y3, y4, y5⟩ := cells W9 hbl
          go_wp2
          go_quiet (fail)
          have hbm : Below w8.heap.size w8 (W9.drewN nq) := Below.drewN hbl _
          clear y1 y2 y3 y4 y5 hbl
          generalize W9.drewN nq = W5 at *
          obtain ⟨y1, y2, y3, y4, y5⟩ := cells W5.drew hbm.drew
          go_wp2_with fail
          go_region_held3 (fun w' => w'.cell? ⟨ga, u, .none⟩ = some (.int .i64 Va) ∧ w'.cell? ⟨gl, u, .none⟩ = some (.int .i64 Vl) ∧ w'.cell? ⟨gr, u, .none⟩ = some (.int .i64 Vr)) (go_keep) (first | (go_at_call 11; go_fit (cM W5.drew); rintro e w9 ⟨rfl, hw⟩; replace hw := hw.symm; subst hw))
          go_wp2
          go_quiet (fail)
          go_wp2
          go_roundw
          case rel => exact ⟨u + 1, by omega, by go_num, Below.drewN hbm _⟩
          case measure => simp [intOf]; omega
        · obtain rfl : u = n := by omega
          go_wp2
          go_ret
          exact ⟨rfl, hbF.trans (hbl.mono hbF.size)⟩

set_option maxRecDepth 100000 in
set_option maxHeartbeats 4000000 in
theorem law4_fs (s n p : Nat) (N pc fl fc : Nat) (x : Addr) (P : Nat → Int) (y : Addr) (F : Nat → Int) (a : Option Addr) (m hc : Nat) (A : Nat → Option Addr) (L cp : Nat → Nat) (X : Nat → Nat → Int) (cut : Int) (w : World) (hmc : m ≤ hc) (hH : HeldAt w a m A L cp X) (h1 : N ≤ 131072) (h2 : m ≤ 131072) (h3 : fl ≤ 131072) (h4 : ∀ i, i < m → L i ≤ maxLen) (hP : IntCells w x N P) (hF : IntCells w y fl F) (hN : N = n * n) (hn1 : 1 ≤ n) (hn : n ≤ 1024) (hs : s < n) (hp : p < n) (hL : ∀ i, i < m → L i = n ∨ L i = n * n) :
    Calls Try.prog 4 #[.int .i64 (s : Int), .int .i64 (n : Int), .slice (some x) N pc, .int .i64 (p : Int), .slice a m hc, .bool false, .slice (some y) fl fc, .int .i64 cut] w fun e w' => e = .returned (.bool true) ∧ Below w.heap.size w w' := by
  have cZ := zzBytes10_any (s : Int) (n : Int) (some x) N pc (p : Int) a m hc A L cp X false (some y) fl fc cut w hH (by unfold maxLen; omega) (by unfold maxLen; omega) (by unfold maxLen; omega) h4
  have hmk1 := run_make22 N (by omega)
  have hmk2 := run_make22 fl (by omega)
  have d1 : decide ((131072 : Int) < (N : Int)) = false := by simp; omega
  have d2 : decide ((131072 : Int) < (fl : Int)) = false := by simp; omega
  have d3 : decide ((131072 : Int) < (m : Int)) = false := by simp; omega
  have HN : Hid (N = n * n) := hN
  clear hN
  go_enter Try.func4, Try.ntmps4
  go_wp2_with (first
    | (go_at_call 10; go_fit cZ; rintro e w1 ⟨⟨q, rfl⟩, hw⟩; replace hw := hw.symm; subst hw)
    | (refine wpList_copy_one _ rfl _ _ 22 22 rfl 3 Try.underlying22 Try.size3 w.heap.size N (some x) pc rfl rfl 3 _ (fun j => .int .i64 (P j)) (World.rowIs_made _ _ N 3) (fun _ => ⟨x, rfl, hP.kept (Below.al (Below.refl _ _) _)⟩) (fun j _ => rfl) ?_; intro w2 hrow2 hg2; have hb2 := below_grown (Below.al (Below.refl w.heap.size w) _) hg2 (Nat.le_refl _))
    | (refine wpList_copy_one _ rfl _ _ 22 22 rfl 3 Try.underlying22 Try.size3 w2.heap.size fl (some y) fc rfl rfl 3 _ (fun j => .int .i64 (F j)) (World.rowIs_made _ _ fl 3) (fun _ => ⟨y, rfl, hF.kept (Below.al hb2 _)⟩) (fun j _ => rfl) ?_; intro w3 hrow3 hg3; have hb3 := below_grown (Below.al hb2 _) hg3 hb2.size))
  · go_ret; exact ⟨rfl, Below.refl _ _⟩
  · (go_ret; exact ⟨rfl, hb3⟩)
  have gP : IntsAt w3 (some ⟨w.heap.size, 0, .none⟩) N P := intsAt_row ((hrow2.alloc _).of_block (hg3.block _ (by have := hrow2.lt; simp; omega) (fun e => by have := Option.some.inj e; have := hrow2.lt; omega)))
  have gF : IntsAt w3 (some ⟨w2.heap.size, 0, .none⟩) fl F := intsAt_row hrow3
  have gH := hH.kept hb3
  clear cZ hmk1 hmk2 d1 d2 d3
  go_loop [19, 20] (fun r i => ∃ k : Nat, k ≤ m ∧ i = .int .i64 k ∧ ∃ q : Int, r = .int .i64 q ∧ 0 ≤ q ∧ q ≤ 1048576) (fun _ i => m - (intOf i).toNat)
  case atStart => exact ⟨0, Nat.zero_le _, rfl, _, rfl, by omega, by omega⟩
  case round =>
    obtain ⟨k, hk, rfl, q, rfl, hq1, hq2⟩ := hrel
    by_cases hlt : k < m
    · obtain ⟨⟨b, o, rfl, c0⟩, _⟩ := gH k hlt
      have hLk := h4 k hlt
      unfold maxLen at hLk
      have i0 : (k : Int) < m := by omega
      go_wp2
      · (go_ret; exact ⟨rfl, hb3⟩)
      · (go_ret; exact ⟨rfl, hb3⟩)
      go_round
      case rel => exact ⟨k + 1, by omega, by go_num, _, rfl, by omega, by omega⟩
      case measure => simp [intOf]; omega
    · obtain rfl : k = m := by omega
      by_cases g1 : cut < 0
      · have d1 : decide (cut < 0) = true := by simp; omega
        go_wp2_with fail
        (go_ret; exact ⟨rfl, hb3⟩)
      have d1 : decide (cut < 0) = false := by simp; omega
      by_cases g2 : (k : Int) < cut
      · have d2 : decide ((k : Int) < cut) = true := by simp; omega
        go_wp2_with fail
        (go_ret; exact ⟨rfl, hb3⟩)
      have d2 : decide ((k : Int) < cut) = false := by simp; omega
      obtain ⟨c, rfl⟩ : ∃ c : Nat, cut = c := ⟨cut.toNat, by omega⟩
      have hck : c ≤ k := by omega
      have sl := slice_left a k hc c (by omega)
      obtain ⟨aR, sr, gR6⟩ : ∃ aR, (∀ w, (Instr.slice 23 (.slice a k hc) (some (.int .i64 (c : Int))) .none .none).run Try.prog w = .ok (.slice aR (k - c) (hc - c)) w) ∧ ∀ w, HeldAt w a k A L cp X → HeldAt w aR (k - c) (fun i => A (c + i)) (fun i => L (c + i)) (fun i => cp (c + i)) (fun i => X (c + i)) := ⟨_, slice_right a k hc c hck, fun w h => h.right hmc⟩
      have HN' : Hid (n * n = N) := HN.out.symm
      go_wp2_with (first
        | (go_at_call 8; go_fit (domain_any (s : Int) (n : Int) (some ⟨w.heap.size, 0, .none⟩) N N (p : Int) a k hc A L cp X false (some ⟨w2.heap.size, 0, .none⟩) fl fl w3 gH h2 h4); rintro e w4 ⟨d, rfl, hd, hw⟩; replace hw := hw.symm; subst hw; clear hd)
        | (go_at_call 9; have cA := zz_nil s n p (some ⟨w.heap.size, 0, .none⟩) N a k hc A L cp P X (some ⟨w2.heap.size, 0, .none⟩) fl fl w3 (by rw [← HN.out]; exact gP) gH hn1 hn hs hp h2 hL; rw [HN'.out] at cA; go_fit cA; clear cA; rintro e w5 ⟨ga, rfl, hYa, hb5⟩; have gP5 := gP.kept hb5 (Nat.le_refl _); have gH5 := gH.kept hb5)
        | (go_at_call 9; have cA := zz_nil s n p (some ⟨w.heap.size, 0, .none⟩) N a c hc A L cp P X (some ⟨w2.heap.size, 0, .none⟩) fl fl w5 (by rw [← HN.out]; exact gP5) (fun i hi => gH5 i (by omega)) hn1 hn hs hp (by omega) (fun i hi => hL i (by omega)); rw [HN'.out] at cA; go_fit cA; clear cA; rintro e w6 ⟨gl, rfl, hYl, hb6⟩; have gP6 := gP5.kept hb6 (Nat.le_refl _); have gH6 := gH5.kept hb6)
        | (go_at_call 9; have cA := zz_nil s n p (some ⟨w.heap.size, 0, .none⟩) N aR (k - c) (hc - c) (fun i => A (c + i)) (fun i => L (c + i)) (fun i => cp (c + i)) P (fun i => X (c + i)) (some ⟨w2.heap.size, 0, .none⟩) fl fl w6 (by rw [← HN.out]; exact gP6) (gR6 w6 gH6) hn1 hn hs hp (by omega) (fun i hi => hL (c + i) (by omega)); rw [HN'.out] at cA; go_fit cA; clear cA; rintro e w7 ⟨gr, rfl, hYr, hb7⟩; have gP7 := gP6.kept hb7 (Nat.le_refl _))
        | (go_at_call 9; have cA := zz_nil s n p (some ⟨w.heap.size, 0, .none⟩) N none 0 0 A L cp P X (some ⟨w2.heap.size, 0, .none⟩) fl fl w7 (by rw [← HN.out]; exact gP7) (fun i hi => absurd hi (Nat.not_lt_zero i)) hn1 hn hs hp (by omega) (fun i hi => absurd hi (Nat.not_lt_zero i)); rw [HN'.out] at cA; go_fit cA; clear cA; rintro e w8 ⟨gb, rfl, hYb, hb8⟩))
      · (go_ret; exact ⟨rfl, hb3⟩)
      have gP8 := gP7.kept hb8 (Nat.le_refl _)
      have hYa8 := ((hYa.kept hb6 (Nat.le_refl _)).kept hb7 (Nat.le_refl _)).kept hb8 (Nat.le_refl _)
      have hYl8 := (hYl.kept hb7 (Nat.le_refl _)).kept hb8 (Nat.le_refl _)
      have hYr8 := hYr.kept hb8 (Nat.le_refl _)
      have hb58 : Below w5.heap.size w5 w8 := (hb6.trans (hb7.mono hb6.size)).trans (hb8.mono (Nat.le_trans hb6.size hb7.size))
      have hb38 := hb5.trans (hb58.mono hb5.size)
      have hbF : Below w.heap.size w w8 := hb3.trans (hb38.mono hb3.size)
      have hN1 : N ≤ 1048576 := by omega
      clear sl sr gR6
      go_loopw [29] (fun i wr => ∃ u : Nat, u ≤ n ∧ i = .int .i64 u ∧ Below w8.heap.size w8 wr) (fun i _ => n - (intOf i).toNat)
      case atStart => exact ⟨0, Nat.zero_le _, rfl, Below.refl _ _⟩
      case round =>
        obtain ⟨u, hu, rfl, hbl⟩ := hrel
        rename World => W9
        by_cases hut : u < n
        · obtain ⟨q1, r, hqp, HR, _, k1, k2⟩ := idx hut hp HN hN1
          have hj := best_join (P (u * n + p)) (cand n s p L X u) c (k - c)
          rw [show c + (k - c) = k by omega, show (fun i => cand n s p L X u (c + i)) = cand n s p (fun i => L (c + i)) (fun i => X (c + i)) u from rfl] at hj
          have hge := best_ge (P (u * n + p)) (cand n s p L X u) k
          have cells : ∀ W, Below w8.heap.size w8 W → W.cell? ⟨w.heap.size, r, .none⟩ = some (.int .i64 (P r)) ∧ W.cell? ⟨ga, u, .none⟩ = some (.int .i64 (best (P (u * n + p)) (cand n s p L X u) k)) ∧ W.cell? ⟨gl, u, .none⟩ = some (.int .i64 (best (P (u * n + p)) (cand n s p L X u) c)) ∧ W.cell? ⟨gr, u, .none⟩ = some (.int .i64 (best (P (u * n + p)) (cand n s p (fun i => L (c + i)) (fun i => X (c + i)) u) (k - c))) ∧ W.cell? ⟨gb, u, .none⟩ = some (.int .i64 (P (u * n + p))) := fun W hW => by
            obtain ⟨_, _, e1, y1⟩ := gP8.kept hW (Nat.le_refl _) r hqp
            cases e1
            obtain ⟨_, _, e2, y2⟩ := hYa8.kept hW (Nat.le_refl _) u hut
            cases e2
            obtain ⟨_, _, e3, y3⟩ := hYl8.kept hW (Nat.le_refl _) u hut
            cases e3
            obtain ⟨_, _, e4, y4⟩ := hYr8.kept hW (Nat.le_refl _) u hut
            cases e4
            obtain ⟨_, _, e5, y5⟩ := hYb.kept hW (Nat.le_refl _) u hut
            cases e5
            rw [Nat.zero_add] at y1 y2 y3 y4 y5
            exact ⟨y1, y2, y3, y4, y5⟩
          rw [← HR.out] at hj hge cells
          generalize best (P r) (cand n s p L X u) k = Va at *
          generalize best (P r) (cand n s p L X u) c = Vl at *
          generalize best (P r) (cand n s p (fun i => L (c + i)) (fun i => X (c + i)) u) (k - c) = Vr at *
          have cM : ∀ W, Calls Try.prog 11 #[.int .i64 Vl, .int .i64 Vr] W fun e w' => e = .returned (.int .i64 Va) ∧ w' = W := fun W => by rw [hj]; exact max_any Vl Vr W
          clear hj
          have i1 : (u : Int) < n := by omega
          have i2 : (r : Int) < N := by omega
          have i3 : (0 : Int) ≤ (r : Int) := by omega
          have i4 : (0 : Int) ≤ (u : Int) := by omega
          have e0 : decide (Va < P r) = false := by simp; exact hge
          obtain ⟨y1, y2, y3, y4, y5⟩ := cells W9 hbl
          go_wp2
          go_quiet (fail)
          have hbm : Below w8.heap.size w8 (W9.drewN nq) := Below.drewN hbl _
          clear y1 y2 y3 y4 y5 hbl
          generalize W9.drewN nq = W5 at *
          obtain ⟨y1, y2, y3, y4, y5⟩ := cells W5.drew hbm.drew
          go_wp2_with fail
          go_region_held3 (fun w' => w'.cell? ⟨ga, u, .none⟩ = some (.int .i64 Va) ∧ w'.cell? ⟨gl, u, .none⟩ = some (.int .i64 Vl) ∧ w'.cell? ⟨gr, u, .none⟩ = some (.int .i64 Vr)) (go_keep) (first | (go_at_call 11; go_fit (cM W5.drew); rintro e w9 ⟨rfl, hw⟩; replace hw := hw.symm; subst hw))
          go_wp2
          go_quiet (fail)
          go_wp2
          go_roundw
          case rel => exact ⟨u + 1, by omega, by go_num, Below.drewN hbm _⟩
          case measure => simp [intOf]; omega
        · obtain rfl : u = n := by omega
          go_wp2
          go_ret
          exact ⟨rfl, hbF.trans (hbl.mono hbF.size)⟩

set_option maxRecDepth 100000 in
set_option maxHeartbeats 4000000 in
theorem law4_ts (s n p : Nat) (N pc fc : Nat) (x : Addr) (P : Nat → Int) (y : Addr) (F : Nat → Int) (a : Option Addr) (m hc : Nat) (A : Nat → Option Addr) (L cp : Nat → Nat) (X : Nat → Nat → Int) (cut : Int) (w : World) (hmc : m ≤ hc) (hH : HeldAt w a m A L cp X) (h1 : N ≤ 131072) (h2 : m ≤ 131072) (h4 : ∀ i, i < m → L i ≤ maxLen) (hP : IntCells w x N P) (hF : IntCells w y N F) (hN : N = n * n) (hn1 : 1 ≤ n) (hn : n ≤ 1024) (hs : s < n) (hp : p < n) (hL : ∀ i, i < m → L i = n ∨ L i = n * n) :
    Calls Try.prog 4 #[.int .i64 (s : Int), .int .i64 (n : Int), .slice (some x) N pc, .int .i64 (p : Int), .slice a m hc, .bool true, .slice (some y) N fc, .int .i64 cut] w fun e w' => e = .returned (.bool true) ∧ Below w.heap.size w w' := by
  have cZ := zzBytes10_any (s : Int) (n : Int) (some x) N pc (p : Int) a m hc A L cp X true (some y) N fc cut w hH (by unfold maxLen; omega) (by unfold maxLen; omega) (by unfold maxLen; omega) h4
  have hmk1 := run_make22 N (by omega)
  have hmk2 := run_make22 N (by omega)
  have d1 : decide ((131072 : Int) < (N : Int)) = false := by simp; omega
  have d2 : decide ((131072 : Int) < (N : Int)) = false := by simp; omega
  have d3 : decide ((131072 : Int) < (m : Int)) = false := by simp; omega
  have HN : Hid (N = n * n) := hN
  clear hN
  go_enter Try.func4, Try.ntmps4
  go_wp2_with (first
    | (go_at_call 10; go_fit cZ; rintro e w1 ⟨⟨q, rfl⟩, hw⟩; replace hw := hw.symm; subst hw)
    | (refine wpList_copy_one _ rfl _ _ 22 22 rfl 3 Try.underlying22 Try.size3 w.heap.size N (some x) pc rfl rfl 3 _ (fun j => .int .i64 (P j)) (World.rowIs_made _ _ N 3) (fun _ => ⟨x, rfl, hP.kept (Below.al (Below.refl _ _) _)⟩) (fun j _ => rfl) ?_; intro w2 hrow2 hg2; have hb2 := below_grown (Below.al (Below.refl w.heap.size w) _) hg2 (Nat.le_refl _))
    | (refine wpList_copy_one _ rfl _ _ 22 22 rfl 3 Try.underlying22 Try.size3 w2.heap.size N (some y) fc rfl rfl 3 _ (fun j => .int .i64 (F j)) (World.rowIs_made _ _ N 3) (fun _ => ⟨y, rfl, hF.kept (Below.al hb2 _)⟩) (fun j _ => rfl) ?_; intro w3 hrow3 hg3; have hb3 := below_grown (Below.al hb2 _) hg3 hb2.size))
  · go_ret; exact ⟨rfl, Below.refl _ _⟩
  · (go_ret; exact ⟨rfl, hb3⟩)
  have gP : IntsAt w3 (some ⟨w.heap.size, 0, .none⟩) N P := intsAt_row ((hrow2.alloc _).of_block (hg3.block _ (by have := hrow2.lt; simp; omega) (fun e => by have := Option.some.inj e; have := hrow2.lt; omega)))
  have gF : IntsAt w3 (some ⟨w2.heap.size, 0, .none⟩) N F := intsAt_row hrow3
  have gH := hH.kept hb3
  clear cZ hmk1 hmk2 d1 d2 d3
  go_loop [19, 20] (fun r i => ∃ k : Nat, k ≤ m ∧ i = .int .i64 k ∧ ∃ q : Int, r = .int .i64 q ∧ 0 ≤ q ∧ q ≤ 1048576) (fun _ i => m - (intOf i).toNat)
  case atStart => exact ⟨0, Nat.zero_le _, rfl, _, rfl, by omega, by omega⟩
  case round =>
    obtain ⟨k, hk, rfl, q, rfl, hq1, hq2⟩ := hrel
    by_cases hlt : k < m
    · obtain ⟨⟨b, o, rfl, c0⟩, _⟩ := gH k hlt
      have hLk := h4 k hlt
      unfold maxLen at hLk
      have i0 : (k : Int) < m := by omega
      go_wp2
      · (go_ret; exact ⟨rfl, hb3⟩)
      · (go_ret; exact ⟨rfl, hb3⟩)
      go_round
      case rel => exact ⟨k + 1, by omega, by go_num, _, rfl, by omega, by omega⟩
      case measure => simp [intOf]; omega
    · obtain rfl : k = m := by omega
      by_cases g1 : cut < 0
      · have d1 : decide (cut < 0) = true := by simp; omega
        go_wp2_with fail
        (go_ret; exact ⟨rfl, hb3⟩)
      have d1 : decide (cut < 0) = false := by simp; omega
      by_cases g2 : (k : Int) < cut
      · have d2 : decide ((k : Int) < cut) = true := by simp; omega
        go_wp2_with fail
        (go_ret; exact ⟨rfl, hb3⟩)
      have d2 : decide ((k : Int) < cut) = false := by simp; omega
      obtain ⟨c, rfl⟩ : ∃ c : Nat, cut = c := ⟨cut.toNat, by omega⟩
      have hck : c ≤ k := by omega
      have sl := slice_left a k hc c (by omega)
      obtain ⟨aR, sr, gR6⟩ : ∃ aR, (∀ w, (Instr.slice 23 (.slice a k hc) (some (.int .i64 (c : Int))) .none .none).run Try.prog w = .ok (.slice aR (k - c) (hc - c)) w) ∧ ∀ w, HeldAt w a k A L cp X → HeldAt w aR (k - c) (fun i => A (c + i)) (fun i => L (c + i)) (fun i => cp (c + i)) (fun i => X (c + i)) := ⟨_, slice_right a k hc c hck, fun w h => h.right hmc⟩
      have HN' : Hid (n * n = N) := HN.out.symm
      go_wp2_with (first
        | (go_at_call 8; go_fit (domain_any (s : Int) (n : Int) (some ⟨w.heap.size, 0, .none⟩) N N (p : Int) a k hc A L cp X true (some ⟨w2.heap.size, 0, .none⟩) N N w3 gH h2 h4); rintro e w4 ⟨d, rfl, hd, hw⟩; replace hw := hw.symm; subst hw; clear hd)
        | (go_at_call 9; have cA := zz_some s n p (some ⟨w.heap.size, 0, .none⟩) N a k hc A L cp P X w2.heap.size 0 N F w3 (by rw [← HN.out]; exact gP) gH hn1 hn hs hp h2 hL (by rw [← HN.out]; exact gF) (by rw [← HN.out]; exact Nat.le_refl _); rw [HN'.out] at cA; go_fit cA; clear cA; rintro e w5 ⟨ga, rfl, hYa, hb5⟩; have gP5 := gP.kept hb5 (Nat.le_refl _); have gH5 := gH.kept hb5; have gF5 := gF.kept hb5 (Nat.le_refl _))
        | (go_at_call 9; have cA := zz_some s n p (some ⟨w.heap.size, 0, .none⟩) N a c hc A L cp P X w2.heap.size 0 N F w5 (by rw [← HN.out]; exact gP5) (fun i hi => gH5 i (by omega)) hn1 hn hs hp (by omega) (fun i hi => hL i (by omega)) (by rw [← HN.out]; exact gF5) (by rw [← HN.out]; exact Nat.le_refl _); rw [HN'.out] at cA; go_fit cA; clear cA; rintro e w6 ⟨gl, rfl, hYl, hb6⟩; have gP6 := gP5.kept hb6 (Nat.le_refl _); have gH6 := gH5.kept hb6; have gF6 := gF5.kept hb6 (Nat.le_refl _))
        | (go_at_call 9; have cA := zz_some s n p (some ⟨w.heap.size, 0, .none⟩) N aR (k - c) (hc - c) (fun i => A (c + i)) (fun i => L (c + i)) (fun i => cp (c + i)) P (fun i => X (c + i)) w2.heap.size 0 N F w6 (by rw [← HN.out]; exact gP6) (gR6 w6 gH6) hn1 hn hs hp (by omega) (fun i hi => hL (c + i) (by omega)) (by rw [← HN.out]; exact gF6) (by rw [← HN.out]; exact Nat.le_refl _); rw [HN'.out] at cA; go_fit cA; clear cA; rintro e w7 ⟨gr, rfl, hYr, hb7⟩; have gP7 := gP6.kept hb7 (Nat.le_refl _); have gF7 := gF6.kept hb7 (Nat.le_refl _))
        | (go_at_call 9; have cA := zz_some s n p (some ⟨w.heap.size, 0, .none⟩) N none 0 0 A L cp P X w2.heap.size 0 N F w7 (by rw [← HN.out]; exact gP7) (fun i hi => absurd hi (Nat.not_lt_zero i)) hn1 hn hs hp (by omega) (fun i hi => absurd hi (Nat.not_lt_zero i)) (by rw [← HN.out]; exact gF7) (by rw [← HN.out]; exact Nat.le_refl _); rw [HN'.out] at cA; go_fit cA; clear cA; rintro e w8 ⟨gb, rfl, hYb, hb8⟩))
      · (go_ret; exact ⟨rfl, hb3⟩)
      have gP8 := gP7.kept hb8 (Nat.le_refl _)
      have hYa8 := ((hYa.kept hb6 (Nat.le_refl _)).kept hb7 (Nat.le_refl _)).kept hb8 (Nat.le_refl _)
      have hYl8 := (hYl.kept hb7 (Nat.le_refl _)).kept hb8 (Nat.le_refl _)
      have hYr8 := hYr.kept hb8 (Nat.le_refl _)
      have hb58 : Below w5.heap.size w5 w8 := (hb6.trans (hb7.mono hb6.size)).trans (hb8.mono (Nat.le_trans hb6.size hb7.size))
      have hb38 := hb5.trans (hb58.mono hb5.size)
      have hbF : Below w.heap.size w w8 := hb3.trans (hb38.mono hb3.size)
      have hN1 : N ≤ 1048576 := by omega
      clear sl sr gR6
      go_loopw [29] (fun i wr => ∃ u : Nat, u ≤ n ∧ i = .int .i64 u ∧ Below w8.heap.size w8 wr) (fun i _ => n - (intOf i).toNat)
      case atStart => exact ⟨0, Nat.zero_le _, rfl, Below.refl _ _⟩
      case round =>
        obtain ⟨u, hu, rfl, hbl⟩ := hrel
        rename World => W9
        by_cases hut : u < n
        · obtain ⟨q1, r, hqp, HR, _, k1, k2⟩ := idx hut hp HN hN1
          have hj := best_join (P (u * n + p)) (cand n s p L X u) c (k - c)
          rw [show c + (k - c) = k by omega, show (fun i => cand n s p L X u (c + i)) = cand n s p (fun i => L (c + i)) (fun i => X (c + i)) u from rfl] at hj
          have hge := best_ge (P (u * n + p)) (cand n s p L X u) k
          have cells : ∀ W, Below w8.heap.size w8 W → W.cell? ⟨w.heap.size, r, .none⟩ = some (.int .i64 (P r)) ∧ W.cell? ⟨ga, u, .none⟩ = some (.int .i64 (best (P (u * n + p)) (cand n s p L X u) k)) ∧ W.cell? ⟨gl, u, .none⟩ = some (.int .i64 (best (P (u * n + p)) (cand n s p L X u) c)) ∧ W.cell? ⟨gr, u, .none⟩ = some (.int .i64 (best (P (u * n + p)) (cand n s p (fun i => L (c + i)) (fun i => X (c + i)) u) (k - c))) ∧ W.cell? ⟨gb, u, .none⟩ = some (.int .i64 (P (u * n + p))) := fun W hW => by
            obtain ⟨_, _, e1, y1⟩ := gP8.kept hW (Nat.le_refl _) r hqp
            cases e1
            obtain ⟨_, _, e2, y2⟩ := hYa8.kept hW (Nat.le_refl _) u hut
            cases e2
            obtain ⟨_, _, e3, y3⟩ := hYl8.kept hW (Nat.le_refl _) u hut
            cases e3
            obtain ⟨_, _, e4, y4⟩ := hYr8.kept hW (Nat.le_refl _) u hut
            cases e4
            obtain ⟨_, _, e5, y5⟩ := hYb.kept hW (Nat.le_refl _) u hut
            cases e5
            rw [Nat.zero_add] at y1 y2 y3 y4 y5
            exact ⟨y1, y2, y3, y4, y5⟩
          rw [← HR.out] at hj hge cells
          generalize best (P r) (cand n s p L X u) k = Va at *
          generalize best (P r) (cand n s p L X u) c = Vl at *
          generalize best (P r) (cand n s p (fun i => L (c + i)) (fun i => X (c + i)) u) (k - c) = Vr at *
          have cM : ∀ W, Calls Try.prog 11 #[.int .i64 Vl, .int .i64 Vr] W fun e w' => e = .returned (.int .i64 Va) ∧ w' = W := fun W => by rw [hj]; exact max_any Vl Vr W
          clear hj
          have i1 : (u : Int) < n := by omega
          have i2 : (r : Int) < N := by omega
          have i3 : (0 : Int) ≤ (r : Int) := by omega
          have i4 : (0 : Int) ≤ (u : Int) := by omega
          have e0 : decide (Va < P r) = false := by simp; exact hge
          obtain ⟨y1, y2, y3, y4, y5⟩ := cells W9 hbl
          go_wp2
          go_quiet (fail)
          have hbm : Below w8.heap.size w8 (W9.drewN nq) := Below.drewN hbl _
          clear y1 y2 y3 y4 y5 hbl
          generalize W9.drewN nq = W5 at *
          obtain ⟨y1, y2, y3, y4, y5⟩ := cells W5.drew hbm.drew
          go_wp2_with fail
          go_region_held3 (fun w' => w'.cell? ⟨ga, u, .none⟩ = some (.int .i64 Va) ∧ w'.cell? ⟨gl, u, .none⟩ = some (.int .i64 Vl) ∧ w'.cell? ⟨gr, u, .none⟩ = some (.int .i64 Vr)) (go_keep) (first | (go_at_call 11; go_fit (cM W5.drew); rintro e w9 ⟨rfl, hw⟩; replace hw := hw.symm; subst hw))
          go_wp2
          go_quiet (fail)
          go_wp2
          go_roundw
          case rel => exact ⟨u + 1, by omega, by go_num, Below.drewN hbm _⟩
          case measure => simp [intOf]; omega
        · obtain rfl : u = n := by omega
          go_wp2
          go_ret
          exact ⟨rfl, hbF.trans (hbl.mono hbF.size)⟩

end Go.Proofs.Qxb6612755a
