/- Account (19). -/
import Derived.Test.Qxb6612755aW1
import Derived.Deep.OwnRows
import Derived.Deep.RegionHeld3
import Derived.Deep.DrawnRows
namespace Go.Proofs.Qxb6612755a
open Go.RowKit
attribute [local go_sem ↓] Go.wp_at_zero Go.wp_at_succ

/-- v, raised to a candidate -/
def upd (v : Int) : Option Int → Int
  | .none => v
  | some x => if v < x then x else v
/-- the greatest of p and of the first i candidates -/
def best (p : Int) (c : Nat → Option Int) : Nat → Int
  | 0 => p
  | i + 1 => upd (best p c i) (c i)
/-- what the i-th of the held says of peer p's writes to site k -/
def cand (n s p : Nat) (L : Nat → Nat) (X : Nat → Nat → Int) (k i : Nat) : Option Int := if L i = n then (if k = s then some (X i p) else .none) else some (X i (k * n + p))

/-- m held dependencies lie behind a, each in an interface -/
def DepsAt (w : World) (a : Option Addr) (m : Nat) (A : Nat → Option Addr) (L cp : Nat → Nat) (X : Nat → Nat → Int) : Prop := ∀ i, i < m → (∃ b o, a = some ⟨b, o, .none⟩ ∧ w.cell? ⟨b, o + i, .none⟩ = some (.iface 39 (.slice (A i) (L i) (cp i)))) ∧ IntsAt w (A i) (L i) (X i)
theorem DepsAt.kept {w w' : World} {a : Option Addr} {m : Nat} {A : Nat → Option Addr} {L cp : Nat → Nat} {X : Nat → Nat → Int} (h : DepsAt w a m A L cp X) (hb : Below w.heap.size w w') : DepsAt w' a m A L cp X := fun i hi => by
  obtain ⟨⟨b, o, e, h0⟩, h1⟩ := h i hi
  exact ⟨⟨b, o, e, below_cell hb h0 (cell_lt h0)⟩, h1.kept hb (Nat.le_refl _)⟩

theorem drew_far {w : World} {p a : Addr} {v u : Value} (hc : w.drew.cell? a = some u) (h : p.block ≠ a.block) : (w.setCell p v).drew.cell? a = some u := (World.cell?_setCell_far w p a v h).trans hc

theorem idx_lt {k n p : Nat} (hk : k < n) (hp : p < n) : k * n + p < n * n := by
  have := Nat.mul_le_mul_right n (show k + 1 ≤ n by omega)
  rw [Nat.add_mul, Nat.one_mul] at this
  omega

theorem Try.info3 : (Try.prog.info? 3).map (fun i => (i.zero, i.size, i.bytes)) = some (some (.int .i64 0), 1, 8) := by kernel_rfl
theorem run_make39 (n : Nat) (hn : n ≤ 1048576) (w : World) : (Instr.makeSlice 39 (.int .i64 (n : Int)) (.int .i64 (n : Int))).run Try.prog w = .ok (.slice (some ⟨w.heap.size, 0, .none⟩) n n) (w.alloc (.cells (madeCells #[.int .i64 0] n) 3)) :=
  run_make_row' (P := Try.prog) 39 3 (.int .i64 0) 8 Try.underlying39 Try.info3 rfl .i64 .i64 n (by omega) (by omega) w

theorem upd_none (v : Int) : upd v .none = v := rfl
theorem upd_some (v x : Int) : upd v (some x) = if v < x then x else v := rfl
theorem best_succ (p : Int) (c : Nat → Option Int) (i : Nat) : best p c (i + 1) = upd (best p c i) (c i) := rfl
theorem cand_col_at {n s p t : Nat} {L : Nat → Nat} {X : Nat → Nat → Int} (h : L t = n) : cand n s p L X s t = some (X t p) := by unfold cand; rw [if_pos h, if_pos rfl]
theorem cand_col_off {n s p t k : Nat} {L : Nat → Nat} {X : Nat → Nat → Int} (h : L t = n) (e : ¬ k = s) : cand n s p L X k t = .none := by unfold cand; rw [if_pos h, if_neg e]
theorem cand_mat {n s p t k : Nat} {L : Nat → Nat} {X : Nat → Nat → Int} (h : ¬ L t = n) : cand n s p L X k t = some (X t (k * n + p)) := by unfold cand; rw [if_neg h]
/-- how Account ends -/
def AccPost (n : Nat) (mine : Int) (Y : Nat → Int) (w : World) (e : Ending) (w' : World) : Prop := ∃ g, e = .returned (.agg #[.slice (some ⟨g, 0, .none⟩) n n, .int .i64 mine]) ∧ IntsAt w' (some ⟨g, 0, .none⟩) n Y ∧ Below w.heap.size w w'
theorem assert39 (a : Option Addr) (n c : Nat) (w : World) : (Instr.typeAssert (.iface 39 (.slice a n c)) 52 39 false).run Try.prog w = .ok (.slice a n c) w := by kernel_rfl
/-- the place k*n+p, in letters -/
theorem idx {k n p N : Nat} (hk : k < n) (hp : p < n) (HN : Hid (N = n * n)) (hN1 : N ≤ 1048576) : ∃ q r : Nat, r < N ∧ Hid (r = k * n + p) ∧ Hid (q = k * n) ∧ IntKind.i64.wrap ((k : Int) * (n : Int)) = (q : Int) ∧ IntKind.i64.wrap ((q : Int) + (p : Int)) = (r : Int) := by
  have hqp : k * n + p < N := by rw [show N = n * n from HN]; exact idx_lt hk hp
  refine ⟨k * n, k * n + p, hqp, rfl, rfl, ?_, ?_⟩
  · have : ((k * n : Nat) : Int) = (k : Int) * (n : Int) := by simp
    rw [← this]
    exact IntWalk.i64_in _ (by omega)
  · have : ((k * n + p : Nat) : Int) = ((k * n : Nat) : Int) + (p : Int) := by simp
    rw [← this]
    exact IntWalk.i64_in _ (by omega)

set_option maxRecDepth 100000 in
set_option maxHeartbeats 4000000 in
theorem account_nil (tb s n p : Nat) (pa : Option Addr) (pc : Nat) (a : Option Addr) (m hc : Nat) (A : Nat → Option Addr) (L cp : Nat → Nat) (P : Nat → Int) (X : Nat → Nat → Int) (w : World) (ht : Track w tb s n pa (n * n) pc) (hP : IntsAt w pa (n * n) P) (hH : DepsAt w a m A L cp X)
    (hn1 : 1 ≤ n) (hn : n ≤ 1024) (hs : s < n) (hp : p < n) (hm : m ≤ 131072) (hL : ∀ i, i < m → L i = n ∨ L i = n * n) :
    Calls Try.prog 19 #[.pointer (some ⟨tb, 0, .none⟩), .int .i64 (p : Int), .slice a m hc, .pointer .none] w fun e w' => AccPost n (P (p * n + s)) (fun k => best (P (k * n + p)) (cand n s p L X k) m) w e w' := by
  have hmk := run_make39 n (by omega)
  have q39 := assert39
  obtain ⟨N, hN⟩ : ∃ N, N = n * n := ⟨_, rfl⟩
  have hN1 : N ≤ 1048576 := by rw [hN]; exact Nat.mul_le_mul hn hn
  rw [← hN] at ht hP
  have HN : Hid (N = n * n) := hN
  have ba : Below w.heap.size w (w.alloc (.cells #[.slice .none 0 0, .int .i64 0] 57)) := Below.al (Below.refl _ _) _
  have hta := ht.kept ba
  have hPa := hP.kept ba (Nat.le_refl _)
  have hHa := hH.kept ba
  have hLN : ∀ i, i < m → L i = n ∨ L i = N := by rw [hN]; exact hL
  clear hN hL
  obtain ⟨t0, t1, t2⟩ := hta
  go_enter Try.func19, Try.ntmps19
  go_wp2
  clear hmk
  have hta : Track (w.alloc (.cells #[.slice .none 0 0, .int .i64 0] 57)) tb s n pa N pc := ⟨t0, t1, t2⟩
  clear t0 t1 t2
  have hres : (w.alloc (.cells #[.slice .none 0 0, .int .i64 0] 57)).rowIs w.heap.size 57 2 (fun i => #[Value.slice .none 0 0, .int .i64 0].getD i undef) := World.rowIs_alloc w #[.slice .none 0 0, .int .i64 0] 57 _ (fun i hi => by match i, hi with | 0, _ => rfl | 1, _ => rfl)
  have e1 : (w.alloc (.cells #[.slice .none 0 0, .int .i64 0] 57)).heap.size = w.heap.size + 1 := by simp
  obtain ⟨f0, hrow0⟩ : ∃ f0, ((w.alloc (.cells #[.slice .none 0 0, .int .i64 0] 57)).alloc (.cells (madeCells #[.int .i64 0] n) 3)).rowIs (w.heap.size + 1) 3 n f0 := by
    have := World.rowIs_made (w.alloc (.cells #[.slice .none 0 0, .int .i64 0] 57)) (.int .i64 0) n 3
    exact ⟨_, by simpa using this⟩
  generalize w.alloc (.cells #[.slice .none 0 0, .int .i64 0] 57) = Wa at *
  have hb0 : Below Wa.heap.size Wa (Wa.alloc (.cells (madeCells #[.int .i64 0] n) 3)) := Below.al (Below.refl _ _) _
  generalize Wa.alloc (.cells (madeCells #[.int .i64 0] n) 3) = W0 at *
  have hl2 : tb < Wa.heap.size := cell_lt hta.1
  go_loopw [23, 10] (fun i _ wr => ∃ k : Nat, k ≤ n ∧ i = .int .i64 k ∧ (∃ f, wr.rowIs (w.heap.size + 1) 3 n f ∧ ∀ j, j < k → f j = .int .i64 (P (j * n + p))) ∧ Below Wa.heap.size Wa wr) (fun i _ _ => n - (intOf i).toNat)
  case atStart => exact ⟨0, Nat.zero_le _, rfl, ⟨_, hrow0, fun j hj => by omega⟩, hb0⟩
  case round =>
    obtain ⟨k, hk, rfl, ⟨f, hrow, hdone⟩, hbl⟩ := hrel
    rename World => W1
    by_cases hlt : k < n
    · obtain ⟨q, r, hqp, HR, _, k1, k2⟩ := idx hlt hp HN hN1
      obtain ⟨b, o, rfl, c0⟩ := hPa r hqp
      have hs1 := hbl.size
      have hl1 : b < Wa.heap.size := cell_lt c0
      obtain ⟨t0, t1, t2⟩ := hta.kept hbl
      have x1 : W1.drew.cell? ⟨tb, 1, .none⟩ = some (.int .i64 n) := t1
      have x2 : W1.drew.cell? ⟨tb, 2, .none⟩ = some (.slice (some ⟨b, o, .none⟩) N pc) := t2
      have x3 : W1.drew.cell? ⟨b, o + r, .none⟩ = some (.int .i64 (P r)) := below_cell hbl c0 (cell_lt c0)
      have r0 : W1.drew.cell? ⟨w.heap.size + 1, k, .none⟩ = some (f k) := hrow.cell hlt
      have fr : W1.drew.frozen? ⟨w.heap.size + 1, k, .none⟩ = false := hrow.frozen k
      have i1 : (k : Int) < n := by omega
      have i2 : (r : Int) < N := by omega
      have i3 : (0 : Int) ≤ (r : Int) := by omega
      have i4 : (0 : Int) ≤ (k : Int) := by omega
      go_wp2
      go_region_held3 (fun w' => w'.cell? ⟨tb, 1, .none⟩ = some (.int .i64 n) ∧ w'.cell? ⟨tb, 2, .none⟩ = some (.slice (some ⟨b, o, .none⟩) N pc) ∧ w'.cell? ⟨b, o + r, .none⟩ = some (.int .i64 (P r))) (first | exact ⟨drew_far x1 (by dsimp only; omega), drew_far x2 (by dsimp only; omega), drew_far x3 (by dsimp only; omega)⟩ | go_keep) (fail)
      go_wp2
      go_roundw
      case rel =>
        refine ⟨k + 1, by omega, by go_num, ⟨_, (hrow.set k _).drew, fun j hj => ?_⟩, (hbl.setCell (by dsimp only; omega) _).drew⟩
        by_cases e : j = k
        · subst e
          rw [if_pos rfl, HR.out]
        · rw [if_neg e]
          exact hdone j (by omega)
      case measure => simp [intOf]; omega
    · obtain rfl : k = n := by omega
      clear hlt hk hrow0 hb0
      go_wp2
      go_loopw [46] (fun i wr => ∃ t : Nat, t ≤ m ∧ i = .int .i64 t ∧ (∃ f, wr.rowIs (w.heap.size + 1) 3 k f ∧ ∀ j, j < k → f j = .int .i64 (best (P (j * k + p)) (cand k s p L X j) t)) ∧ Below Wa.heap.size Wa wr) (fun i _ => m - (intOf i).toNat)
      case atStart => exact ⟨0, Nat.zero_le _, rfl, ⟨_, hrow, hdone⟩, hbl⟩
      case round =>
        clear hdone hrow hbl
        obtain ⟨t, htm, rfl, ⟨f, hrow, hdone⟩, hbl⟩ := hrel
        rename World => W2
        by_cases htt : t < m
        · obtain ⟨⟨b, o, rfl, c0⟩, hX⟩ := hHa t htt
          have y0 := below_cell hbl c0 (cell_lt c0)
          obtain ⟨t0, t1, t2⟩ := hta.kept hbl
          have hs1 := hbl.size
          have i0 : (t : Int) < m := by omega
          have i00 : (0 : Int) ≤ t := by omega
          by_cases hLn : L t = k
          · rw [hLn] at y0 hX
            obtain ⟨b2, o2, eA, d0⟩ := hX p hp
            rw [eA] at y0
            have hl3 : b2 < Wa.heap.size := cell_lt d0
            have x0 : W2.drew.cell? ⟨tb, 0, .none⟩ = some (.int .i64 s) := t0
            have x3 : W2.drew.cell? ⟨b2, o2 + p, .none⟩ = some (.int .i64 (X t p)) := below_cell hbl d0 (cell_lt d0)
            have hfs := hdone s hs
            have r0 : W2.drew.cell? ⟨w.heap.size + 1, s, .none⟩ = some (.int .i64 (best (P (s * k + p)) (cand k s p L X s) t)) := by rw [← hfs]; exact hrow.cell hs
            have fr : W2.drew.frozen? ⟨w.heap.size + 1, s, .none⟩ = false := hrow.frozen s
            have i1 : (s : Int) < k := by omega
            have i2 : (p : Int) < k := by omega
            have i3 : (0 : Int) ≤ (s : Int) := by omega
            have i4 : (0 : Int) ≤ (p : Int) := by omega
            clear hfs t2 hX
            generalize hV : best (P (s * k + p)) (cand k s p L X s) t = V at r0
            have HV : Hid _ := hV
            clear hV
            go_wp2
            go_region
            go_wp2
            go_roundw
            case rel =>
              refine ⟨t + 1, by omega, by go_num, ⟨_, (hrow.set s _).drew, fun j hj => ?_⟩, (hbl.setCell (by dsimp only; omega) _).drew⟩
              by_cases e : j = s
              · subst e
                rw [if_pos rfl, best_succ, cand_col_at hLn, upd_some, HV.out]
              · rw [if_neg e, best_succ, cand_col_off hLn e, upd_none]
                exact hdone j hj
            case measure => simp [intOf]; omega
          · have hLk : L t = N := by have := hLN t htt; omega
            have HL : Hid (¬ L t = k) := hLn
            clear hLn
            rw [hLk] at y0 hX
            have hNk : ¬ (N : Int) = (k : Int) := by have := HL.out; omega
            clear hLk t0 t2
            have x1 := t1
            go_wp2
            go_loopw [79, 14] (fun i _ wr => ∃ u : Nat, u ≤ k ∧ i = .int .i64 u ∧ (∃ f, wr.rowIs (w.heap.size + 1) 3 k f ∧ (∀ j, j < u → f j = .int .i64 (best (P (j * k + p)) (cand k s p L X j) (t + 1))) ∧ ∀ j, u ≤ j → j < k → f j = .int .i64 (best (P (j * k + p)) (cand k s p L X j) t)) ∧ Below Wa.heap.size Wa wr) (fun i _ _ => k - (intOf i).toNat)
            case atStart => exact ⟨0, Nat.zero_le _, rfl, ⟨_, hrow, fun j hj => by omega, fun j _ hj => hdone j hj⟩, hbl⟩
            case round =>
              clear hdone hrow t1 x1 y0 hbl hs1
              obtain ⟨u, huk, rfl, ⟨f, hrow, hdone1, hdone2⟩, hbl⟩ := hrel
              rename World => W3
              have hs1 := hbl.size
              by_cases hut : u < k
              · obtain ⟨q, r, hqp, HR, _, k1, k2⟩ := idx hut hp HN hN1
                obtain ⟨b2, o2, eA, d0⟩ := hX r hqp
                obtain ⟨t0, t1, t2⟩ := hta.kept hbl
                have hl3 : b2 < Wa.heap.size := cell_lt d0
                have x1 : W3.drew.cell? ⟨tb, 1, .none⟩ = some (.int .i64 k) := t1
                have x3 : W3.drew.cell? ⟨b2, o2 + r, .none⟩ = some (.int .i64 (X t r)) := below_cell hbl d0 (cell_lt d0)
                have hfs := hdone2 u (Nat.le_refl _) hut
                have r0 : W3.drew.cell? ⟨w.heap.size + 1, u, .none⟩ = some (.int .i64 (best (P (u * k + p)) (cand k s p L X u) t)) := by rw [← hfs]; exact hrow.cell hut
                have fr : W3.drew.frozen? ⟨w.heap.size + 1, u, .none⟩ = false := hrow.frozen u
                have i1 : (u : Int) < k := by omega
                have i2 : (r : Int) < N := by omega
                have i3 : (0 : Int) ≤ (r : Int) := by omega
                have i4 : (0 : Int) ≤ (u : Int) := by omega
                clear hfs t0 t1 t2
                generalize hV : best (P (u * k + p)) (cand k s p L X u) t = V at r0
                have HV : Hid _ := hV
                clear hV
                have HA : Hid _ := eA
                simp only [eA]
                clear eA
                go_wp2
                go_region
                go_wp2
                go_roundw
                case rel =>
                  refine ⟨u + 1, by omega, by go_num, ⟨_, (hrow.set u _).drew, fun j hj => ?_, fun j hj1 hj2 => ?_⟩, (hbl.setCell (by dsimp only; omega) _).drew⟩
                  · by_cases e : j = u
                    · subst e
                      rw [if_pos rfl, best_succ, cand_mat HL.out, upd_some, HV.out, ← HR.out]
                    · rw [if_neg e]
                      exact hdone1 j (by omega)
                  · rw [if_neg (by omega)]
                    exact hdone2 j (by omega) hj2
                case measure => simp [intOf]; omega
              · obtain rfl : u = k := by omega
                go_wp2
                go_roundw
                case rel => exact ⟨t + 1, by omega, by go_num, ⟨_, hrow, hdone1⟩, hbl⟩
                case measure => simp [intOf]; omega
        · obtain rfl : t = m := by omega
          clear htt htm
          obtain ⟨q, r, hqp, HR, _, k1, k2⟩ := idx hp hs HN hN1
          obtain ⟨b, o, rfl, c0⟩ := hPa r hqp
          have hs1 := hbl.size
          obtain ⟨t0, t1, t2⟩ := hta.kept hbl
          have x3 := below_cell hbl c0 (cell_lt c0)
          have i2 : (r : Int) < N := by omega
          have i3 : (0 : Int) ≤ (r : Int) := by omega
          have hres2 := hres.of_block (hbl.block _ hres.lt)
          have z0 := hres2.cell (i := 0) (by omega)
          have z1 := hres2.cell (i := 1) (by omega)
          have f0 := hres2.frozen 0
          have f1 := hres2.frozen 1
          go_wp2
          go_quiet (fail)
          go_wp2
          have hbF : Below w.heap.size w W2 := ba.trans (hbl.mono (by omega))
          refine bodyPost_ret (v := .agg #[.slice (some ⟨w.heap.size + 1, 0, .none⟩) k k, .int .i64 (P r)]) (by simp [results, Try.results19, go_sem, z0, z1]) rfl ⟨_, by rw [HR.out], fun j hj => ⟨_, 0, rfl, ?_⟩, ?_⟩
          · rw [Nat.zero_add, World.cell?_setCell_far _ _ _ _ (by dsimp only; omega), World.cell?_setCell_far _ _ _ _ (by dsimp only; omega)]
            exact (hrow.cell hj).trans (congrArg some (hdone j hj))
          · exact (((Below.drewN hbF _).setCell (by dsimp only; omega) _).setCell (by dsimp only; omega) _)

end Go.Proofs.Qxb6612755a
