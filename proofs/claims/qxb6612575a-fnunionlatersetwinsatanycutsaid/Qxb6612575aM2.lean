/- zzb1UnionMatches (8). -/
import Derived.Test.Qxb6612575aM1
namespace Go.Proofs.Qxb6612575a
open Go.RowKit Go.Maps
attribute [local go_sem ↓] Go.wp_at_zero Go.wp_at_succ

set_option maxRecDepth 100000 in
set_option maxHeartbeats 4000000 in
theorem matches_any (a : Option Addr) (n cap : Nat) (f m : Nat → Nm) (ub N : Nat) (w : World) (M : Nat) (hn : n ≤ 1048576) (hM : M ≤ 1048576) (h : SetsAt w a n f m) (hf : ∀ i, i < n → (f i).n ≤ M) (hm : ∀ i, i < n → (m i).n ≤ M)
    (hu : SetIs w ub N (allN f n) (allN m n)) :
    Calls Try.prog 8 #[.pointer (some ⟨ub, 0, .none⟩), .slice a n cap] w fun e w' => e = .returned (.bool true) ∧ Below w.heap.size w w' := by
  have hmm := @run_makeMap Try.prog
  obtain ⟨fb, mb, u0, u1, u2, u3⟩ := hu
  go_enter Try.func8, Try.ntmps8
  go_wp2
  go_loopw [7] (fun i wr => ∃ k : Nat, k ≤ n ∧ i = .int .i64 k ∧ wr.ownsMap Try.prog 9 RS w.heap.size (k * M) (allN f k) ∧ wr.ownsMap Try.prog 9 RS (w.heap.size + 1) (k * M) (allN m k) ∧ Below w.heap.size w wr)
    (fun i _ => n - (intOf i).toNat)
  case atStart =>
    refine ⟨0, Nat.zero_le _, rfl, ((World.ownsMap_made w _ _ _).alloc _).mono (Nat.zero_le _), ?_, ((Below.refl _ _).alloc (Nat.le_refl _) _).alloc (by simp) _⟩
    have := (World.ownsMap_made (w.alloc (.map #[] 0)) Try.prog 9 RS).mono (Nat.zero_le (0 * M))
    rw [show (w.alloc (.map #[] 0)).heap.size = w.heap.size + 1 by simp] at this
    exact this
  case round =>
    obtain ⟨k, hk, rfl, hS, hT, hbl⟩ := hrel
    rename World => W1
    by_cases hlt : k < n
    · obtain ⟨b, o, rfl, h1, h2, h3, h4, h5, h6⟩ := h k hlt
      have hb1 : b < w.heap.size := cell_lt h1
      have hfk := hf k hlt
      have hmk' := hm k hlt
      have hkM : k * M ≤ 1048576 * 1048576 := Nat.mul_le_mul (by omega) hM
      go_wp2
      go_loopw [8] (fun i w2 => ∃ j : Nat, j ≤ (f k).n ∧ i = .int .i64 j ∧ w2.ownsMap Try.prog 9 RS w.heap.size (k * M + j) (putN (allN f k) (f k).s (f k).t j) ∧ w2.ownsMap Try.prog 9 RS (w.heap.size + 1) (k * M) (allN m k) ∧ Below w.heap.size w w2) (fun i _ => (f k).n - (intOf i).toNat)
      case atStart => exact ⟨0, Nat.zero_le _, rfl, hS, hT, hbl⟩
      case round =>
        obtain ⟨j, hj, rfl, hS2, hT2, hbl2⟩ := hrel
        rename World => W2
        have x1 := below_cell hbl2 h1 hb1
        by_cases hjt : j < (f k).n
        · obtain ⟨b', o', e1, g1, g2, g3, g4⟩ := h5 j hjt
          rw [e1] at x1
          clear e1
          have hl1 : b' < w.heap.size := cell_lt g1
          have y1 := below_cell hbl2 g1 hl1
          have y2 := below_cell hbl2 g2 hl1
          obtain ⟨w3, hrun, hown3, hg3⟩ := hS2.drew.update law9 Try.underlying55 (by unfold maxLen; omega) (key9 g3) (RS_mk g4)
          have z1 := hg3.cell (w := W2.drew) x1 (sne (by dsimp only; omega))
          have z2 := hg3.cell (w := W2.drew) y1 (sne (by dsimp only; omega))
          have z3 := hg3.cell (w := W2.drew) y2 (sne (by dsimp only; omega))
          go_wp2
          go_region_held3 (fun w' => w'.cell? ⟨b, o + k * 2, .none⟩ = some (.slice (some ⟨b', o', .none⟩) (f k).n (f k).cap) ∧ w'.cell? ⟨b', o' + j * 2, .none⟩ = some (.string ((f k).s j)) ∧ w'.cell? ⟨b', o' + j * 2 + 1, .none⟩ = some (.string ((f k).t j))) (go_keep) (fail)
          go_wp2
          go_roundw
          case rel => exact ⟨j + 1, by omega, by go_num, hown3, hT2.drew.kept hg3 (sne (by omega)), hbl2.drew.grown hg3 hbl2.size (fun i hi => by cases hi; exact Nat.le_refl _)⟩
          case measure => simp [intOf]; omega
        · have hjn : j = (f k).n := by omega
          subst hjn
          go_wp2
          go_loopw [9] (fun i w2 => ∃ j : Nat, j ≤ (m k).n ∧ i = .int .i64 j ∧ w2.ownsMap Try.prog 9 RS w.heap.size ((k + 1) * M) (allN f (k + 1)) ∧ w2.ownsMap Try.prog 9 RS (w.heap.size + 1) (k * M + j) (putN (allN m k) (m k).s (m k).t j) ∧ Below w.heap.size w w2) (fun i _ => (m k).n - (intOf i).toNat)
          case atStart => exact ⟨0, Nat.zero_le _, rfl, hS2.mono (by rw [Nat.succ_mul]; omega), hT2, hbl2⟩
          case round =>
            obtain ⟨j, hj, rfl, hS4, hT4, hbl4⟩ := hrel
            rename World => W4
            have x1 := below_cell hbl4 h2 hb1
            by_cases hjt : j < (m k).n
            · obtain ⟨b', o', e1, g1, g2, g3, g4⟩ := h6 j hjt
              rw [e1] at x1
              clear e1
              have hl1 : b' < w.heap.size := cell_lt g1
              have y1 := below_cell hbl4 g1 hl1
              have y2 := below_cell hbl4 g2 hl1
              obtain ⟨w3, hrun, hown3, hg3⟩ := hT4.drew.update law9 Try.underlying55 (by unfold maxLen; omega) (key9 g3) (RS_mk g4)
              have z1 := hg3.cell (w := W4.drew) x1 (sne (by dsimp only; omega))
              have z2 := hg3.cell (w := W4.drew) y1 (sne (by dsimp only; omega))
              have z3 := hg3.cell (w := W4.drew) y2 (sne (by dsimp only; omega))
              go_wp2
              go_region_held3 (fun w' => w'.cell? ⟨b, o + k * 2 + 1, .none⟩ = some (.slice (some ⟨b', o', .none⟩) (m k).n (m k).cap) ∧ w'.cell? ⟨b', o' + j * 2, .none⟩ = some (.string ((m k).s j)) ∧ w'.cell? ⟨b', o' + j * 2 + 1, .none⟩ = some (.string ((m k).t j))) (go_keep) (fail)
              go_wp2
              go_roundw
              case rel => exact ⟨j + 1, by omega, by go_num, hS4.drew.kept hg3 (sne (by omega)), hown3, hbl4.drew.grown hg3 hbl4.size (fun i hi => by cases hi; omega)⟩
              case measure => simp [intOf]; omega
            · have hjn : j = (m k).n := by omega
              subst hjn
              go_wp2
              go_roundw
              case rel => exact ⟨k + 1, by omega, by go_num, hS4, hT4.mono (by rw [Nat.succ_mul]; omega), hbl4⟩
              case measure => simp [intOf]; omega
    · have hkn : k = n := by omega
      subst hkn
      have v0 := below_cell hbl u0 (cell_lt u0)
      have v1 := below_cell hbl u1 (cell_lt u1)
      have v2 := below_owns u2 hbl u2.lt
      have v3 := below_owns u3 hbl u3.lt
      have vx : (W1.alloc (.cells #[.map (some mb)] 64)).cell? ⟨W1.heap.size, 0, .none⟩ = some (.map (some mb)) := by go_simp
      have cL := anyLen_any W1.heap.size mb N (allN m k) (W1.alloc (.cells #[.map (some mb)] 64)) vx (v3.alloc _)
      go_wp2_with (first
        | (at_len; refine wpList_len_own _ rfl _ 37 rfl 9 46 Try.underlying37 _ fb N _ rfl v2 ?_)
        | (at_len; refine wpList_len_own _ rfl _ 55 rfl 9 9 Try.underlying55 _ w.heap.size (k * M) _ rfl hS ?_)
        | (at_len; refine wpList_len_own _ rfl _ 55 rfl 9 9 Try.underlying55 _ (w.heap.size + 1) (k * M) _ rfl (hT.alloc _) ?_)
        | (go_at_call 16; refine (setMeta_any _ _ _ v1).mono ?_; rintro e w' ⟨rfl, rfl⟩)
        | (go_at_call 17; go_fit cL; rintro e w' ⟨rfl, rfl⟩))
      clear cL
      have hg5 : W1.grownBy (W1.alloc (.cells #[.map (some mb)] 64)) .none := World.grownBy_alloc _ _ _
      go_loopw [11] (fun i wr => ∃ i' : Nat, i' ≤ k ∧ i = .int .i64 i' ∧ W1.grownBy wr .none ∧ wr.cell? ⟨W1.heap.size, 0, .none⟩ = some (.map (some mb)) ∧ W1.heap.size + 1 ≤ wr.heap.size) (fun i _ => k - (intOf i).toNat)
      case atStart => exact ⟨0, Nat.zero_le _, rfl, hg5, vx, by simp⟩
      case round =>
        obtain ⟨i, hi, rfl, hgr, hx, hsz⟩ := hrel
        rename World => W6
        by_cases hit : i < k
        · obtain ⟨b, o, rfl, h1, h2, h3, h4, h5, h6⟩ := h i hit
          have hb1 : b < w.heap.size := cell_lt h1
          have hfk := hf i hit
          have hmk' := hm i hit
          have q1 := below_cell hbl h1 hb1
          have q2 := below_cell hbl h2 hb1
          go_wp2
          go_loopw [12] (fun j' wr => ∃ j : Nat, j ≤ (f i).n ∧ j' = .int .i64 j ∧ W1.grownBy wr .none ∧ wr.cell? ⟨W1.heap.size, 0, .none⟩ = some (.map (some mb)) ∧ W1.heap.size + 1 ≤ wr.heap.size) (fun j' _ => (f i).n - (intOf j').toNat)
          case atStart => exact ⟨0, Nat.zero_le _, rfl, hgr, hx, hsz⟩
          case round =>
            obtain ⟨j, hj, rfl, hgr7, hx7, hsz7⟩ := hrel
            rename World => W7
            have x1 := hgr7.cell q1 (by simp)
            by_cases hjt : j < (f i).n
            · obtain ⟨b', o', e1, g1, g2, g3, g4⟩ := h5 j hjt
              rw [e1] at x1
              clear e1
              have hl1 : b' < w.heap.size := cell_lt g1
              have y1 := hgr7.cell (below_cell hbl g1 hl1) (by simp)
              have y0 := hgr7.cell v0 (by simp)
              obtain ⟨u, hu⟩ := atKey_allN f i j k hit hjt
              have l1 := lookF (v2.kept hgr7 (by simp)) hit hjt g3 hu
              have l2 := fun o => lookS ((hS.kept hgr7 (by simp)).alloc o) g3 hu
              have HU : Hid (∀ z, (allN f k).atKey (kOf ((f i).s j)) z = dOf u) := hu
              clear hu
              unfold mkF at l1
              go_wp2_with (first | (go_at_call 18; refine (bare_any _ _).mono ?_; rintro e w' ⟨rfl, rfl⟩))
              go_roundw
              case rel =>
                refine ⟨j + 1, by omega, by go_num, (hgr7.andThen (World.grownBy_alloc _ _ .none) (fun j hj => by cases hj)).andThen (World.grownBy_alloc _ _ .none) (fun j hj => by cases hj), ?_, ?_⟩
                · exact ((World.grownBy_alloc _ _ .none).cell ((World.grownBy_alloc W7 _ .none).cell hx7 (by simp)) (by simp))
                · simp; omega
              case measure => simp [intOf]; omega
            · go_wp2
              go_loopw [16] (fun j' wr => ∃ j : Nat, j ≤ (m i).n ∧ j' = .int .i64 j ∧ W1.grownBy wr .none ∧ wr.cell? ⟨W1.heap.size, 0, .none⟩ = some (.map (some mb)) ∧ W1.heap.size + 1 ≤ wr.heap.size) (fun j' _ => (m i).n - (intOf j').toNat)
              case atStart => exact ⟨0, Nat.zero_le _, rfl, hgr7, hx7, hsz7⟩
              case round =>
                obtain ⟨j, hj, rfl, hgr8, hx8, hsz8⟩ := hrel
                rename World => W8
                have x1 := hgr8.cell q2 (by simp)
                by_cases hjt : j < (m i).n
                · obtain ⟨b', o', e1, g1, g2, g3, g4⟩ := h6 j hjt
                  rw [e1] at x1
                  clear e1
                  have hl1 : b' < w.heap.size := cell_lt g1
                  have y1 := hgr8.cell (below_cell hbl g1 hl1) (by simp)
                  obtain ⟨u, hu⟩ := atKey_allN m i j k hit hjt
                  have cS := anyString_any W1.heap.size mb ((m i).s j) u W8 hx8 (lookA (v3.kept hgr8 (by simp)) hit hjt g3 hu)
                  have l2 := lookS (hT.kept hgr8 (by simp)) g3 hu
                  have HU : Hid (∀ z, (allN m k).atKey (kOf ((m i).s j)) z = dOf u) := hu
                  clear hu
                  go_wp2_with (first | (go_at_call 19; go_fit cS; rintro e w' ⟨rfl, rfl⟩))
                  go_roundw
                  case rel => exact ⟨j + 1, by omega, by go_num, hgr8, hx8, hsz8⟩
                  case measure => simp [intOf]; omega
                · go_wp2
                  go_roundw
                  case rel => exact ⟨i + 1, by omega, by go_num, hgr8, hx8, hsz8⟩
                  case measure => simp [intOf]; omega
        · go_wp2
          go_ret
          exact ⟨rfl, hbl.grown hgr hbl.size (fun j hj => by cases hj)⟩
end Go.Proofs.Qxb6612575a
