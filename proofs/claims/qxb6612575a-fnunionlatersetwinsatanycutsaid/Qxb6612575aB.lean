/- zzb1BuildSets (6) and what it calls (11, 12, 13). -/
import Derived.Test.Qxb6612575aU
import Derived.Deep.OwnRows
namespace Go.Proofs.Qxb6612575a
open Go.RowKit Go.Maps
attribute [local go_sem ↓] Go.wp_at_zero Go.wp_at_succ

theorem Try.info27 : (Try.prog.info? 27).map (fun i => (i.zero, i.size, i.bytes)) = some (some (.pointer .none), 1, 8) := by kernel_rfl

theorem run_makeMap_hint (x : Int) (w : World) : (Instr.makeMap 37 (some (.int .i64 x))).run Try.prog w = .ok (.map (some w.heap.size)) (w.alloc (.map #[] 0)) := by
  simp [Instr.makeMap, run_underlying Try.underlying37, asInt, asIntOf, newObj, Result.andThen]
  rfl

theorem grown_drew {w w' : World} {row : Option Nat} (h : w.drew.grownBy w' row) : w.grownBy w' row := ⟨h.os, h.tape, h.output, h.size, h.block⟩

/-- SetIs, all its blocks from lo on -/
def SetFrom (w : World) (lo p N : Nat) (D E : DataW Unit) : Prop :=
  ∃ fb mb, lo ≤ p ∧ lo ≤ fb ∧ lo ≤ mb ∧ w.cell? ⟨p, 0, .none⟩ = some (.map (some fb)) ∧ w.cell? ⟨p, 1, .none⟩ = some (.map (some mb)) ∧ w.ownsMap Try.prog 9 RF fb N D ∧ w.ownsMap Try.prog 9 RA mb N E
theorem SetFrom.is {w : World} {lo p N : Nat} {D E : DataW Unit} (h : SetFrom w lo p N D E) : SetIs w p N D E := by
  obtain ⟨fb, mb, _, _, _, r⟩ := h
  exact ⟨fb, mb, r⟩
theorem SetFrom.grown {w w' : World} {B p N : Nat} {D E : DataW Unit} (h : SetFrom w (B + 1) p N D E) (hg : w.grownBy w' (some B)) : SetFrom w' (B + 1) p N D E := by
  obtain ⟨fb, mb, h1, h2, h3, h4, h5, h6, h7⟩ := h
  exact ⟨fb, mb, h1, h2, h3, hg.cell h4 (sne (by dsimp only; omega)), hg.cell h5 (sne (by dsimp only; omega)), h6.kept hg (sne (by omega)), h7.kept hg (sne (by omega))⟩

set_option maxRecDepth 100000 in
set_option maxHeartbeats 1000000 in
theorem putString_any (xb mb n : Nat) (D : DataW Unit) (s t : ByteArray) (w : World) (c : w.cell? ⟨xb, 0, .none⟩ = some (.map (some mb))) (hown : w.ownsMap Try.prog 9 RA mb n D) (hn : n < 2 ^ 60) (hs : s.size ≤ maxLen) (ht : t.size ≤ maxLen) :
    Calls Try.prog 12 #[.pointer (some ⟨xb, 0, .none⟩), .string s, .string t] w fun e w' => e = .returned (.tuple #[]) ∧ w'.ownsMap Try.prog 9 RA mb (n + 1) (D.put (kOf s) (dOf t)) ∧ w.grownBy w' (some mb) := by
  go_enter Try.func12, Try.ntmps12
  go_wp2_with (first
        | (at_mapUpdate; refine wpList_mapUpdate_own _ rfl _ _ _ 39 rfl 9 20 law9 Try.underlying39 RA mb _ _ rfl hown (by unfold maxLen; omega) _ _ _ rfl rfl (key9 hs) _ [] (RA_mk ht) ?_; intro w2 hout2 hg2)
        | go_in)
  go_end0
  exact ⟨rfl, hout2, hg2⟩

set_option maxRecDepth 100000 in
theorem newAnyMap_any (w : World) : Calls Try.prog 11 #[] w fun e w' => e = .returned (.pointer (some ⟨w.heap.size + 1, 0, .none⟩)) ∧ w' = (w.alloc (.map #[] 0)).alloc (.cells #[.map (some w.heap.size)] 64) := by
  have hmm := @run_makeMap Try.prog
  go_enter Try.func11, Try.ntmps11
  go_wp2
  go_ret
  exact ⟨rfl, rfl⟩

set_option maxRecDepth 100000 in
theorem newSet_any (xb fb mb : Nat) (w : World) (c : w.cell? ⟨xb, 0, .none⟩ = some (.map (some mb))) : Calls Try.prog 13 #[.map (some fb), .pointer (some ⟨xb, 0, .none⟩)] w fun e w' => e = .returned (.pointer (some ⟨w.heap.size, 0, .none⟩)) ∧ w' = w.alloc (.cells #[.map (some fb), .map (some mb)] 52) := by
  go_enter Try.func13, Try.ntmps13
  go_wp2
  go_ret
  exact ⟨rfl, rfl⟩

def BuiltPost (w : World) (n M : Nat) (f m : Nat → Nm) (e : Ending) (w' : World) : Prop :=
  ∃ p, e = .returned (.slice (some ⟨w.heap.size, 0, .none⟩) n n) ∧ PtrsAt w' (some ⟨w.heap.size, 0, .none⟩) n p ∧ (∀ i, i < n → SetIs w' (p i) M (oneN (f i)) (oneN (m i))) ∧ Below w.heap.size w w'

set_option maxRecDepth 100000 in
set_option maxHeartbeats 2000000 in
theorem buildSets_any (a : Option Addr) (n cap : Nat) (f m : Nat → Nm) (w : World) (hn : n ≤ 1048576) (h : SetsAt w a n f m) (hf : ∀ i, i < n → (f i).n ≤ 1048576) (hm : ∀ i, i < n → (m i).n ≤ 1048576) :
    Calls Try.prog 6 #[.slice a n cap] w fun e w' => BuiltPost w n 1048576 f m e w' := by
  have hmm := @run_makeMap Try.prog
  have hmh := run_makeMap_hint
  have hmk := run_make_row' (P := Try.prog) 25 27 (.pointer .none) 8 Try.underlying25 Try.info27 rfl .i64 .i64 n (by omega) (by omega)
  go_enter Try.func6, Try.ntmps6
  go_wp2
  go_loopw [4] (fun i wr => ∃ k : Nat, k ≤ n ∧ i = .int .i64 k ∧ ∃ p : Nat → Nat, wr.rowIs w.heap.size 27 n (fun j => if j < k then .pointer (some ⟨p j, 0, .none⟩) else .pointer .none) ∧
      (∀ j, j < k → SetFrom wr (w.heap.size + 1) (p j) 1048576 (oneN (f j)) (oneN (m j))) ∧ Below w.heap.size w wr)
    (fun i _ => n - (intOf i).toNat)
  case atStart => exact ⟨0, Nat.zero_le _, rfl, fun _ => 0, (World.rowIs_made w _ n 27).congr (fun i hi => by simp), fun j hj => by omega, (Below.refl _ _).alloc (Nat.le_refl _) _⟩
  case round =>
    obtain ⟨k, hk, rfl, p, hrow, hset, hbl⟩ := hrel
    by_cases hlt : k < n
    · obtain ⟨b, o, rfl, h1, h2, h3, h4, h5, h6⟩ := h k hlt
      have hb1 : b < w.heap.size := cell_lt h1
      have q1 := below_cell hbl h1 hb1
      have q2 := below_cell hbl h2 hb1
      have hfk := hf k hlt
      have hmk' := hm k hlt
      have hbs := hbl.size
      rename World => W1
      go_wp2_with fail
      go_loopw [6] (fun i w2 => ∃ j : Nat, j ≤ (f k).n ∧ i = .int .i64 j ∧ w2.ownsMap Try.prog 9 RF W1.heap.size j (putN (.map []) (f k).s (f k).t j) ∧ W1.grownBy w2 .none ∧ W1.heap.size + 1 ≤ w2.heap.size) (fun i _ => (f k).n - (intOf i).toNat)
      case atStart => exact ⟨0, Nat.zero_le _, rfl, World.ownsMap_made W1 _ _ _, World.grownBy_alloc _ _ _, by simp⟩
      case round =>
        obtain ⟨j, hj, rfl, hown, hgr, hsz⟩ := hrel
        rename World => W2
        have x1 := hgr.cell q1 (by simp)
        by_cases hjt : j < (f k).n
        · obtain ⟨b', o', e1, g1, g2, g3, g4⟩ := h5 j hjt
          rw [e1] at x1
          clear e1
          have y1 := hgr.cell (below_cell hbl g1 (cell_lt g1)) (by simp)
          have y2 := hgr.cell (below_cell hbl g2 (cell_lt g2)) (by simp)
          obtain ⟨w3, hrun, hown3, hg3⟩ := hown.drew.update law9 Try.underlying37 (by unfold maxLen; omega) (key9 g3) (RF_mk g4)
          unfold mkF at hrun
          have hl1 : b' < w.heap.size := cell_lt g1
          have z1 := hg3.cell (w := W2.drew) x1 (sne (by dsimp only; omega))
          have z2 := hg3.cell (w := W2.drew) y1 (sne (by dsimp only; omega))
          have z3 := hg3.cell (w := W2.drew) y2 (sne (by dsimp only; omega))
          go_wp2
          go_region_held3 (fun w' => w'.cell? ⟨b, o + k * 2, .none⟩ = some (.slice (some ⟨b', o', .none⟩) (f k).n (f k).cap) ∧ w'.cell? ⟨b', o' + j * 2, .none⟩ = some (.string ((f k).s j)) ∧ w'.cell? ⟨b', o' + j * 2 + 1, .none⟩ = some (.string ((f k).t j))) (go_keep) (fail)
          go_wp2
          go_roundw
          case rel =>
            have hs3 : W2.heap.size ≤ w3.heap.size := hg3.size
            exact ⟨j + 1, by omega, by go_num, hown3, hgr.andThen (grown_drew hg3) (fun i hi => by cases hi; exact Or.inl (Nat.le_refl _)), by omega⟩
          case measure => simp [intOf]; omega
        · have hjn : j = (f k).n := by omega
          subst hjn
          go_wp2_with (first | (go_at_call 11; refine (newAnyMap_any _).mono ?_; rintro e w' ⟨rfl, rfl⟩))
          have e2 : ((W2.alloc (.map #[] 0)).alloc (.cells #[.map (some W2.heap.size)] 64)).heap.size = W2.heap.size + 1 + 1 := by simp
          go_loopw [8] (fun i w4 => ∃ j : Nat, j ≤ (m k).n ∧ i = .int .i64 j ∧ w4.ownsMap Try.prog 9 RA W2.heap.size j (putN (.map []) (m k).s (m k).t j) ∧ w4.ownsMap Try.prog 9 RF W1.heap.size (f k).n (oneN (f k)) ∧
              w4.cell? ⟨W2.heap.size + 1, 0, .none⟩ = some (.map (some W2.heap.size)) ∧ W1.grownBy w4 .none ∧ W2.heap.size + 1 + 1 ≤ w4.heap.size) (fun i _ => (m k).n - (intOf i).toNat)
          case atStart =>
            refine ⟨0, Nat.zero_le _, rfl, (World.ownsMap_made W2 _ _ _).alloc _, (hown.alloc _).alloc _, by go_simp, ?_, by rw [e2]; exact Nat.le_refl _⟩
            exact (hgr.andThen (World.grownBy_alloc _ _ .none) (fun j hj => by cases hj)).andThen (World.grownBy_alloc _ _ .none) (fun j hj => by cases hj)
          case round =>
            obtain ⟨j, hj, rfl, hownA, hownF, hx, hgr4, hsz4⟩ := hrel
            rename World => W4
            have x2 := hgr4.cell q2 (by simp)
            by_cases hjt : j < (m k).n
            · obtain ⟨b', o', e1, g1, g2, g3, g4⟩ := h6 j hjt
              rw [e1] at x2
              clear e1
              have hl1 : b' < w.heap.size := cell_lt g1
              have y1 := hgr4.cell (below_cell hbl g1 (cell_lt g1)) (by simp)
              have y2 := hgr4.cell (below_cell hbl g2 (cell_lt g2)) (by simp)
              have cP := putString_any (W2.heap.size + 1) W2.heap.size j _ ((m k).s j) ((m k).t j) W4.drew hx hownA.drew (by omega) g3 g4
              have keep : ∀ w5 : World, W4.drew.grownBy w5 (some W2.heap.size) → w5.cell? ⟨b, o + k * 2 + 1, .none⟩ = some (.slice (some ⟨b', o', .none⟩) (m k).n (m k).cap) ∧ w5.cell? ⟨b', o' + j * 2, .none⟩ = some (.string ((m k).s j)) ∧ w5.cell? ⟨b', o' + j * 2 + 1, .none⟩ = some (.string ((m k).t j)) := fun w5 hg =>
                ⟨hg.cell (w := W4.drew) x2 (sne (by dsimp only; omega)), hg.cell (w := W4.drew) y1 (sne (by dsimp only; omega)), hg.cell (w := W4.drew) y2 (sne (by dsimp only; omega))⟩
              go_wp2
              go_region_held3 (fun w' => w'.cell? ⟨b, o + k * 2 + 1, .none⟩ = some (.slice (some ⟨b', o', .none⟩) (m k).n (m k).cap) ∧ w'.cell? ⟨b', o' + j * 2, .none⟩ = some (.string ((m k).s j)) ∧ w'.cell? ⟨b', o' + j * 2 + 1, .none⟩ = some (.string ((m k).t j))) (go_keep)
                (first | (go_at_call 12; go_fit cP; rintro e w5 ⟨rfl, hown5, hg5⟩; obtain ⟨r0, r1, r2⟩ := keep _ hg5))
              clear cP keep
              go_wp2
              go_roundw
              case rel =>
                have hs5 : W4.heap.size ≤ w5.heap.size := hg5.size
                exact ⟨j + 1, by omega, by go_num, hown5, (hownF.drew).kept hg5 (sne (by omega)), hg5.cell (w := W4.drew) hx (sne (by dsimp only; omega)), hgr4.andThen (grown_drew hg5) (fun i hi => by cases hi; exact Or.inl hgr.size), by omega⟩
              case measure => simp [intOf]; omega
            · have hjn : j = (m k).n := by omega
              subst hjn
              have f1 := hgr4.block
              have hrow4 := hrow.of_block (hgr4.block w.heap.size hrow.lt (by simp))
              have hc4 := (hrow4.alloc (.cells #[.map (some W1.heap.size), .map (some W2.heap.size)] 52)).cell hlt
              have hf4 := (hrow4.alloc (.cells #[.map (some W1.heap.size), .map (some W2.heap.size)] 52)).frozen k
              go_wp2_with (first | (go_at_call 13; refine (newSet_any _ _ _ _ hx).mono ?_; rintro e w' ⟨rfl, rfl⟩))
              go_roundw
              case rel =>
                have hl0 : w.heap.size ≤ W1.heap.size := hbs
                have hl2 : W1.heap.size ≤ W2.heap.size := hgr.size
                have hgE : W1.grownBy ((W4.alloc (.cells #[.map (some W1.heap.size), .map (some W2.heap.size)] 52)).setCell ⟨w.heap.size, k, .none⟩ (.pointer (some ⟨W4.heap.size, 0, .none⟩))) (some w.heap.size) := by
                  refine ((hgr4.but (some w.heap.size)).andThen (World.grownBy_alloc _ _ .none) (fun j hj => by cases hj)).andThen (row' := some w.heap.size) ⟨rfl, rfl, rfl, by simp [World.setCell], fun i _ hi => Below.heap_setCell _ _ _ _ (fun e => hi (by rw [e]))⟩ (fun j hj => Or.inr hj)
                have hrw := hrow.lt
                refine ⟨k + 1, by omega, by go_num, fun j => if j = k then W4.heap.size else p j, ?_, ?_, ?_⟩
                · refine ((hrow4.alloc _).set k _).congr (fun i hi => ?_)
                  by_cases e : i = k
                  · subst e; simp
                  · have e2 : (i < k + 1) = (i < k) := by simp; omega
                    simp [e, e2]
                · intro j hj
                  by_cases e : j = k
                  · subst e
                    simp only [if_true]
                    refine ⟨W1.heap.size, W2.heap.size, by omega, by omega, by omega, ?_, ?_, ?_, ?_⟩
                    · rw [World.cell?_setCell_far _ _ _ _ (by dsimp only; omega)]; go_simp
                    · rw [World.cell?_setCell_far _ _ _ _ (by dsimp only; omega)]; go_simp
                    · exact ((hownF.alloc _).setCell (by dsimp only; omega) _).mono hfk
                    · exact ((hownA.alloc _).setCell (by dsimp only; omega) _).mono hmk'
                  · simp only [e, if_false]
                    exact (hset j (by omega)).grown hgE
                · exact hbl.grown hgE hbl.size (fun j hj => by cases hj; exact Nat.le_refl _)
              case measure => simp [intOf]; omega
    · go_wp2
      go_ret
      have : k = n := by omega
      subst this
      exact ⟨p, rfl, fun i hi => ⟨_, _, rfl, by rw [Nat.zero_add, hrow.cell hi, if_pos hi]⟩, fun i hi => (hset i hi).is, hbl⟩
end Go.Proofs.Qxb6612575a
