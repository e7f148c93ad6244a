/- Account (19), with a first message. -/
import Derived.Test.Qxb6612755aW2
namespace Go.Proofs.Qxb6612755a
open Go.RowKit
attribute [local go_sem ↓] Go.wp_at_zero Go.wp_at_succ

set_option maxRecDepth 100000 in
set_option maxHeartbeats 4000000 in
theorem account_some (tb s n p : Nat) (pa : Option Addr) (pc : Nat) (a : Option Addr) (m hc : Nat) (A : Nat → Option Addr) (L cp : Nat → Nat) (P : Nat → Int) (X : Nat → Nat → Int) (fb : Nat) (b' o' fc : Nat) (F : Nat → Int) (w : World) (ht : Track w tb s n pa (n * n) pc) (hP : IntsAt w pa (n * n) P) (hH : DepsAt w a m A L cp X)
    (hn1 : 1 ≤ n) (hn : n ≤ 1024) (hs : s < n) (hp : p < n) (hm : m ≤ 131072) (hL : ∀ i, i < m → L i = n ∨ L i = n * n) (hF : w.cell? ⟨fb, 12, .none⟩ = some (.iface 39 (.slice (some ⟨b', o', .none⟩) (n * n) fc))) (hFi : IntsAt w (some ⟨b', o', .none⟩) (n * n) F) (hfc : n * n ≤ fc) :
    Calls Try.prog 19 #[.pointer (some ⟨tb, 0, .none⟩), .int .i64 (p : Int), .slice a m hc, .pointer (some ⟨fb, 0, .none⟩)] w fun e w' => AccPost n (wrap64 (F (p * n + s) - 1)) (fun k => best (P (k * n + p)) (cand n s p L X k) m) w e w' := by
  have hmk := run_make39 n (by omega)
  have q39 := assert39
  obtain ⟨N, hN⟩ : ∃ N, N = n * n := ⟨_, rfl⟩
  have hN1 : N ≤ 1048576 := by rw [hN]; exact Nat.mul_le_mul hn hn
  rw [← hN] at ht hP
  rw [← hN] at hF hFi hfc
  have HN : Hid (N = n * n) := hN
  have ba : Below w.heap.size w (w.alloc (.cells #[.slice .none 0 0, .int .i64 0] 57)) := Below.al (Below.refl _ _) _
  have hta := ht.kept ba
  have hPa := hP.kept ba (Nat.le_refl _)
  have hHa := hH.kept ba
  have hLN : ∀ i, i < m → L i = n ∨ L i = N := by rw [hN]; exact hL
  clear hN hL
  have hF0 := below_cell ba hF (cell_lt hF)
  have hFi0 := hFi.kept ba (Nat.le_refl _)
  obtain ⟨t0, t1, t2⟩ := hta
  go_enter Try.func19, Try.ntmps19
  go_wp2
  clear hmk
  have hta : Track (w.alloc (.cells #[.slice .none 0 0, .int .i64 0] 57)) tb s n pa N pc := ⟨t0, t1, t2⟩
  clear t0 t1 t2
  have hres : (w.alloc (.cells #[.slice .none 0 0, .int .i64 0] 57)).rowIs w.heap.size 57 2 (fun i => #[Value.slice .none 0 0, .int .i64 0].getD i undef) := World.rowIs_alloc w #[.slice .none 0 0, .int .i64 0] 57 _ (fun i hi => by match i, hi with | 0, _ => rfl | 1, _ => rfl)
  have e1 : (w.alloc (.cells #[.slice .none 0 0, .int .i64 0] 57)).heap.size = w.heap.size + 1 := by simp
  obtain ⟨f0, hrow0⟩ : ∃ f0, ((w.alloc (.cells #[.slice .none 0 0, .int .i64 0] 57)).alloc (.cells (madeCells #[.int .i64 0] n) 3)).rowIs (w.heap.size + 1) 3 n f0 := by
    have := World.rowIs_made (w.alloc (.cells #[.slice .none 0 0, .int .i64 0] 57)) (.int .i64 0) n 3
    exact ⟨_, by simpa using this⟩
  generalize w.alloc (.cells #[.slice .none 0 0, .int .i64 0] 57) = Wa at *
  have hb0 : Below Wa.heap.size Wa (Wa.alloc (.cells (madeCells #[.int .i64 0] n) 3)) := Below.al (Below.refl _ _) _
  generalize Wa.alloc (.cells (madeCells #[.int .i64 0] n) 3) = W0 at *
  have hl2 : tb < Wa.heap.size := cell_lt hta.1
  go_loopw [23, 10] (fun i _ wr => ∃ k : Nat, k ≤ n ∧ i = .int .i64 k ∧ (∃ f, wr.rowIs (w.heap.size + 1) 3 n f ∧ ∀ j, j < k → f j = .int .i64 (P (j * n + p))) ∧ Below Wa.heap.size Wa wr) (fun i _ _ => n - (intOf i).toNat)
  case atStart => exact ⟨0, Nat.zero_le _, rfl, ⟨_, hrow0, fun j hj => by omega⟩, hb0⟩
  case round =>
    obtain ⟨k, hk, rfl, ⟨f, hrow, hdone⟩, hbl⟩ := hrel
    rename World => W1
    by_cases hlt : k < n
    · obtain ⟨q, r, hqp, HR, _, k1, k2⟩ := idx hlt hp HN hN1
      obtain ⟨b, o, rfl, c0⟩ := hPa r hqp
      have hs1 := hbl.size
      have hl1 : b < Wa.heap.size := cell_lt c0
      obtain ⟨t0, t1, t2⟩ := hta.kept hbl
      have x1 : W1.drew.cell? ⟨tb, 1, .none⟩ = some (.int .i64 n) := t1
      have x2 : W1.drew.cell? ⟨tb, 2, .none⟩ = some (.slice (some ⟨b, o, .none⟩) N pc) := t2
      have x3 : W1.drew.cell? ⟨b, o + r, .none⟩ = some (.int .i64 (P r)) := below_cell hbl c0 (cell_lt c0)
      have r0 : W1.drew.cell? ⟨w.heap.size + 1, k, .none⟩ = some (f k) := hrow.cell hlt
      have fr : W1.drew.frozen? ⟨w.heap.size + 1, k, .none⟩ = false := hrow.frozen k
      have i1 : (k : Int) < n := by omega
      have i2 : (r : Int) < N := by omega
      have i3 : (0 : Int) ≤ (r : Int) := by omega
      have i4 : (0 : Int) ≤ (k : Int) := by omega
      go_wp2
      go_region_held3 (fun w' => w'.cell? ⟨tb, 1, .none⟩ = some (.int .i64 n) ∧ w'.cell? ⟨tb, 2, .none⟩ = some (.slice (some ⟨b, o, .none⟩) N pc) ∧ w'.cell? ⟨b, o + r, .none⟩ = some (.int .i64 (P r))) (first | exact ⟨drew_far x1 (by dsimp only; omega), drew_far x2 (by dsimp only; omega), drew_far x3 (by dsimp only; omega)⟩ | go_keep) (fail)
      go_wp2
      go_roundw
      case rel =>
        refine ⟨k + 1, by omega, by go_num, ⟨_, (hrow.set k _).drew, fun j hj => ?_⟩, (hbl.setCell (by dsimp only; omega) _).drew⟩
        by_cases e : j = k
        · subst e
          rw [if_pos rfl, HR.out]
        · rw [if_neg e]
          exact hdone j (by omega)
      case measure => simp [intOf]; omega
    · obtain rfl : k = n := by omega
      clear hlt hk hrow0 hb0
      go_wp2
      go_loopw [46] (fun i wr => ∃ t : Nat, t ≤ m ∧ i = .int .i64 t ∧ (∃ f, wr.rowIs (w.heap.size + 1) 3 k f ∧ ∀ j, j < k → f j = .int .i64 (best (P (j * k + p)) (cand k s p L X j) t)) ∧ Below Wa.heap.size Wa wr) (fun i _ => m - (intOf i).toNat)
      case atStart => exact ⟨0, Nat.zero_le _, rfl, ⟨_, hrow, hdone⟩, hbl⟩
      case round =>
        clear hdone hrow hbl
        obtain ⟨t, htm, rfl, ⟨f, hrow, hdone⟩, hbl⟩ := hrel
        rename World => W2
        by_cases htt : t < m
        · obtain ⟨⟨b, o, rfl, c0⟩, hX⟩ := hHa t htt
          have y0 := below_cell hbl c0 (cell_lt c0)
          obtain ⟨t0, t1, t2⟩ := hta.kept hbl
          have hs1 := hbl.size
          have i0 : (t : Int) < m := by omega
          have i00 : (0 : Int) ≤ t := by omega
          by_cases hLn : L t = k
          · rw [hLn] at y0 hX
            obtain ⟨b2, o2, eA, d0⟩ := hX p hp
            rw [eA] at y0
            have hl3 : b2 < Wa.heap.size := cell_lt d0
            have x0 : W2.drew.cell? ⟨tb, 0, .none⟩ = some (.int .i64 s) := t0
            have x3 : W2.drew.cell? ⟨b2, o2 + p, .none⟩ = some (.int .i64 (X t p)) := below_cell hbl d0 (cell_lt d0)
            have hfs := hdone s hs
            have r0 : W2.drew.cell? ⟨w.heap.size + 1, s, .none⟩ = some (.int .i64 (best (P (s * k + p)) (cand k s p L X s) t)) := by rw [← hfs]; exact hrow.cell hs
            have fr : W2.drew.frozen? ⟨w.heap.size + 1, s, .none⟩ = false := hrow.frozen s
            have i1 : (s : Int) < k := by omega
            have i2 : (p : Int) < k := by omega
            have i3 : (0 : Int) ≤ (s : Int) := by omega
            have i4 : (0 : Int) ≤ (p : Int) := by omega
            clear hfs t2 hX
            generalize hV : best (P (s * k + p)) (cand k s p L X s) t = V at r0
            have HV : Hid _ := hV
            clear hV
            go_wp2
            go_region
            go_wp2
            go_roundw
            case rel =>
              refine ⟨t + 1, by omega, by go_num, ⟨_, (hrow.set s _).drew, fun j hj => ?_⟩, (hbl.setCell (by dsimp only; omega) _).drew⟩
              by_cases e : j = s
              · subst e
                rw [if_pos rfl, best_succ, cand_col_at hLn, upd_some, HV.out]
              · rw [if_neg e, best_succ, cand_col_off hLn e, upd_none]
                exact hdone j hj
            case measure => simp [intOf]; omega
          · have hLk : L t = N := by have := hLN t htt; omega
            have HL : Hid (¬ L t = k) := hLn
            clear hLn
            rw [hLk] at y0 hX
            have hNk : ¬ (N : Int) = (k : Int) := by have := HL.out; omega
            clear hLk t0 t2
            have x1 := t1
            go_wp2
            go_loopw [79, 14] (fun i _ wr => ∃ u : Nat, u ≤ k ∧ i = .int .i64 u ∧ (∃ f, wr.rowIs (w.heap.size + 1) 3 k f ∧ (∀ j, j < u → f j = .int .i64 (best (P (j * k + p)) (cand k s p L X j) (t + 1))) ∧ ∀ j, u ≤ j → j < k → f j = .int .i64 (best (P (j * k + p)) (cand k s p L X j) t)) ∧ Below Wa.heap.size Wa wr) (fun i _ _ => k - (intOf i).toNat)
            case atStart => exact ⟨0, Nat.zero_le _, rfl, ⟨_, hrow, fun j hj => by omega, fun j _ hj => hdone j hj⟩, hbl⟩
            case round =>
              clear hdone hrow t1 x1 y0 hbl hs1
              obtain ⟨u, huk, rfl, ⟨f, hrow, hdone1, hdone2⟩, hbl⟩ := hrel
              rename World => W3
              have hs1 := hbl.size
              by_cases hut : u < k
              · obtain ⟨q, r, hqp, HR, _, k1, k2⟩ := idx hut hp HN hN1
                obtain ⟨b2, o2, eA, d0⟩ := hX r hqp
                obtain ⟨t0, t1, t2⟩ := hta.kept hbl
                have hl3 : b2 < Wa.heap.size := cell_lt d0
                have x1 : W3.drew.cell? ⟨tb, 1, .none⟩ = some (.int .i64 k) := t1
                have x3 : W3.drew.cell? ⟨b2, o2 + r, .none⟩ = some (.int .i64 (X t r)) := below_cell hbl d0 (cell_lt d0)
                have hfs := hdone2 u (Nat.le_refl _) hut
                have r0 : W3.drew.cell? ⟨w.heap.size + 1, u, .none⟩ = some (.int .i64 (best (P (u * k + p)) (cand k s p L X u) t)) := by rw [← hfs]; exact hrow.cell hut
                have fr : W3.drew.frozen? ⟨w.heap.size + 1, u, .none⟩ = false := hrow.frozen u
                have i1 : (u : Int) < k := by omega
                have i2 : (r : Int) < N := by omega
                have i3 : (0 : Int) ≤ (r : Int) := by omega
                have i4 : (0 : Int) ≤ (u : Int) := by omega
                clear hfs t0 t1 t2
                generalize hV : best (P (u * k + p)) (cand k s p L X u) t = V at r0
                have HV : Hid _ := hV
                clear hV
                have HA : Hid _ := eA
                simp only [eA]
                clear eA
                go_wp2
                go_region
                go_wp2
                go_roundw
                case rel =>
                  refine ⟨u + 1, by omega, by go_num, ⟨_, (hrow.set u _).drew, fun j hj => ?_, fun j hj1 hj2 => ?_⟩, (hbl.setCell (by dsimp only; omega) _).drew⟩
                  · by_cases e : j = u
                    · subst e
                      rw [if_pos rfl, best_succ, cand_mat HL.out, upd_some, HV.out, ← HR.out]
                    · rw [if_neg e]
                      exact hdone1 j (by omega)
                  · rw [if_neg (by omega)]
                    exact hdone2 j (by omega) hj2
                case measure => simp [intOf]; omega
              · obtain rfl : u = k := by omega
                go_wp2
                go_roundw
                case rel => exact ⟨t + 1, by omega, by go_num, ⟨_, hrow, hdone1⟩, hbl⟩
                case measure => simp [intOf]; omega
        · obtain rfl : t = m := by omega
          clear htt htm
          obtain ⟨q, r, hqp, HR, HQ, k1, k2⟩ := idx hp hs HN hN1
          obtain ⟨b, o, rfl, c0⟩ := hPa r hqp
          have hs1 := hbl.size
          obtain ⟨t0, t1, t2⟩ := hta.kept hbl
          have x3 := below_cell hbl c0 (cell_lt c0)
          have i2 : (r : Int) < N := by omega
          have i3 : (0 : Int) ≤ (r : Int) := by omega
          have hres2 := hres.of_block (hbl.block _ hres.lt)
          have z0 := hres2.cell (i := 0) (by omega)
          have z1 := hres2.cell (i := 1) (by omega)
          have f0 := hres2.frozen 0
          have f1 := hres2.frozen 1
          obtain ⟨b9, o9, e9, g0⟩ := hFi0 r hqp
          cases e9
          go_wp2
          go_quiet (fail)
          have hs2 : (s : Int) < k := by omega
          have hs3 : (0 : Int) ≤ (s : Int) := by omega
          have j1 : (p : Int) * (k : Int) = (q : Int) := by
            have := HQ.out
            rw [this]; simp
          have j2 : ((p : Int) + 1) * (k : Int) = (q : Int) + k := by rw [Int.add_mul, j1, Int.one_mul]
          have hqN : q + k ≤ N := by
            have h1 := HN.out
            have h2 := HQ.out
            rw [h1, h2]
            have := Nat.mul_le_mul_right k (show p + 1 ≤ k by omega)
            rw [Nat.add_mul, Nat.one_mul] at this
            exact this
          have hrq : r = q + s := by
            have h1 := HR.out
            have h2 := HQ.out
            rw [h1, h2]
          have hbD : Below Wa.heap.size Wa (W2.drewN nq) := Below.drewN hbl _
          have hrowD : (W2.drewN nq).rowIs (w.heap.size + 1) 3 k f := hrow
          clear t0 t1 t2 x3 z0 z1 f0 f1 hres2 hrow hbl hs1
          generalize W2.drewN nq = W5 at *
          have hs1 := hbD.size
          have htD : Track W5.drew tb s k (some ⟨b, o, .none⟩) N pc := hta.kept hbD.drew
          have y0 : W5.drew.cell? ⟨tb, 0, .none⟩ = some (.int .i64 s) := htD.1
          have y1 : W5.drew.cell? ⟨fb, 12, .none⟩ = some (.iface 39 (.slice (some ⟨b', o', .none⟩) N fc)) := below_cell hbD hF0 (cell_lt hF0)
          have y2 : W5.drew.cell? ⟨b', o' + q + s, .none⟩ = some (.int .i64 (F r)) := by
            rw [Nat.add_assoc, ← hrq]
            exact below_cell hbD g0 (cell_lt g0)
          clear hrq
          have cS := sentTo_any tb s k (some ⟨b, o, .none⟩) N pc b' o' fc p q N W5.drew htD hp hn j1 j2 hqN hfc hN1
          clear j1 j2
          go_wp2_with fail
          go_region_held3 (fun w' => w'.cell? ⟨tb, 0, .none⟩ = some (.int .i64 s) ∧ w'.cell? ⟨fb, 12, .none⟩ = some (.iface 39 (.slice (some ⟨b', o', .none⟩) N fc)) ∧ w'.cell? ⟨b', o' + q + s, .none⟩ = some (.int .i64 (F r))) (go_keep) (first | (go_at_call 23; go_fit cS; rintro e w6 ⟨rfl, hb6⟩; obtain ⟨m0, m1, m2⟩ : w6.cell? ⟨tb, 0, .none⟩ = some (.int .i64 s) ∧ w6.cell? ⟨fb, 12, .none⟩ = some (.iface 39 (.slice (some ⟨b', o', .none⟩) N fc)) ∧ w6.cell? ⟨b', o' + q + s, .none⟩ = some (.int .i64 (F r)) := ⟨below_cell hb6 y0 (cell_lt y0), below_cell hb6 y1 (cell_lt y1), below_cell hb6 y2 (cell_lt y2)⟩))
          have hbE : Below Wa.heap.size Wa w6 := hbD.drew.trans (hb6.mono hbD.size)
          have hrowE : w6.rowIs (w.heap.size + 1) 3 k f := hrowD.of_block (hb6.block _ hrowD.lt)
          have hres2 := hres.of_block (hbE.block _ hres.lt)
          have z0 := hres2.cell (i := 0) (by omega)
          have z1 := hres2.cell (i := 1) (by omega)
          have f0 := hres2.frozen 0
          have f1 := hres2.frozen 1
          go_wp2
          have hbF : Below w.heap.size w w6 := ba.trans (hbE.mono (by omega))
          refine bodyPost_ret (v := .agg #[.slice (some ⟨w.heap.size + 1, 0, .none⟩) k k, .int .i64 (wrap64 (F r - 1))]) (by simp [results, Try.results19, go_sem, z0, z1]) rfl ⟨_, by rw [HR.out], fun j hj => ⟨_, 0, rfl, ?_⟩, ?_⟩
          · rw [Nat.zero_add, World.cell?_setCell_far _ _ _ _ (by dsimp only; omega), World.cell?_setCell_far _ _ _ _ (by dsimp only; omega)]
            exact (hrowE.cell hj).trans (congrArg some (hdone j hj))
          · exact ((hbF.setCell (by dsimp only; omega) _).setCell (by dsimp only; omega) _)

end Go.Proofs.Qxb6612755a
