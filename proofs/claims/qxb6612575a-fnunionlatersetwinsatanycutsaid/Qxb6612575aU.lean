/- Union (7). -/
import Derived.Test.Qxb6612575aR2
import Derived.Deep.RegionHeld3
import Derived.Deep.DrawnRows
import Derived.Deep.DeepFit
namespace Go.Proofs.Qxb6612575a
open Go.RowKit Go.Maps
attribute [local go_sem ↓] Go.wp_at_zero Go.wp_at_succ

theorem cell_lt {w : World} {a : Addr} {v : Value} (h : w.cell? a = some v) : a.block < w.heap.size := by
  unfold World.cell? at h
  rcases Nat.lt_or_ge a.block w.heap.size with h1 | h1
  · exact h1
  · rw [Array.getElem?_eq_none h1] at h; simp at h

theorem sne {a b : Nat} (h : a ≠ b) : some a ≠ some b := fun e => h (Option.some.inj e)

/-- block p holds a Set whose maps read as D and E -/
def SetIs (w : World) (p N : Nat) (D E : DataW Unit) : Prop :=
  ∃ fb mb, w.cell? ⟨p, 0, .none⟩ = some (.map (some fb)) ∧ w.cell? ⟨p, 1, .none⟩ = some (.map (some mb)) ∧ w.ownsMap Try.prog 9 RF fb N D ∧ w.ownsMap Try.prog 9 RA mb N E

theorem below_owns {w w' : World} {P : Program} {k : TypeId} {R : Value → Option (DataW Unit × List MemPlace)} {b n B : Nat} {D : DataW Unit} (h : w.ownsMap P k R b n D) (hb : Below B w w') (hB : b < B) : w'.ownsMap P k R b n D := by
  obtain ⟨es, clock, h1, r⟩ := h
  exact ⟨es, clock, (hb.block b hB).trans h1, r⟩
theorem below_cell {w w' : World} {B : Nat} (hb : Below B w w') {a : Addr} {v : Value} (h : w.cell? a = some v) (hB : a.block < B) : w'.cell? a = some v := (hb.cell hB).trans h

theorem SetIs.kept {w w' : World} {p N : Nat} {D E : DataW Unit} (h : SetIs w p N D E) (hb : Below w.heap.size w w') : SetIs w' p N D E := by
  obtain ⟨fb, mb, h1, h2, h3, h4⟩ := h
  exact ⟨fb, mb, below_cell hb h1 (cell_lt h1), below_cell hb h2 (cell_lt h2), below_owns h3 hb h3.lt, below_owns h4 hb h4.lt⟩
theorem SetIs.mono {w : World} {p N N' : Nat} {D E : DataW Unit} (h : SetIs w p N D E) (hN : N ≤ N') : SetIs w p N' D E := by
  obtain ⟨fb, mb, h1, h2, h3, h4⟩ := h
  exact ⟨fb, mb, h1, h2, h3.mono hN, h4.mono hN⟩

/-- a []*Set as it lies -/
def PtrsAt (w : World) (a : Option Addr) (n : Nat) (p : Nat → Nat) : Prop :=
  ∀ i, i < n → ∃ b o, a = some ⟨b, o, .none⟩ ∧ w.cell? ⟨b, o + i, .none⟩ = some (.pointer (some ⟨p i, 0, .none⟩))

def UnionPost (w : World) (n N : Nat) (gf gm : Nat → DataW Unit) (e : Ending) (w' : World) : Prop :=
  ∃ r D E, e = .returned (.pointer (some ⟨r, 0, .none⟩)) ∧ SetIs w' r (n * N) D E ∧ (∀ k, look D k = foldLook gf k n) ∧ (∀ k, look E k = foldLook gm k n) ∧ Below w.heap.size w w'

set_option maxRecDepth 100000 in
set_option maxHeartbeats 1000000 in
theorem union_one (a : Option Addr) (cap : Nat) (p : Nat → Nat) (N : Nat) (gf gm : Nat → DataW Unit) (w : World) (hp : PtrsAt w a 1 p) (hs : SetIs w (p 0) N (gf 0) (gm 0)) :
    Calls Try.prog 7 #[.slice a 1 cap] w fun e w' => UnionPost w 1 N gf gm e w' := by
  obtain ⟨b, o, rfl, hc⟩ := hp 0 (by omega)
  simp only [Nat.add_zero] at hc
  go_enter Try.func7, Try.ntmps7
  go_wp2
  go_ret
  exact ⟨p 0, gf 0, gm 0, rfl, hs.mono (by omega), fun k => by simp [foldLook], fun k => by simp [foldLook], Below.refl _ _⟩

set_option maxRecDepth 100000 in
set_option maxHeartbeats 1000000 in
theorem union_more (a : Option Addr) (n cap : Nat) (p : Nat → Nat) (N : Nat) (gf gm : Nat → DataW Unit) (w : World) (hn : n ≤ 1048576) (hn1 : ((n : Int) == 1) = false) (hN : N ≤ 2 ^ 40) (hp : PtrsAt w a n p) (hs : ∀ i, i < n → SetIs w (p i) N (gf i) (gm i)) :
    Calls Try.prog 7 #[.slice a n cap] w fun e w' => UnionPost w n N gf gm e w' := by
  have hmm := @run_makeMap Try.prog
  go_enter Try.func7, Try.ntmps7
  go_wp2
  go_loopw [5, 18] (fun _ i wr => ∃ k : Nat, k ≤ n ∧ i = .int .i64 k ∧ ∃ D E : DataW Unit, wr.ownsMap Try.prog 9 RF w.heap.size (k * N) D ∧ wr.ownsMap Try.prog 9 RA (w.heap.size + 1) (k * N) E ∧
      (∀ x, look D x = foldLook gf x k) ∧ (∀ x, look E x = foldLook gm x k) ∧ wr.cell? ⟨w.heap.size + 1 + 1, 0, .none⟩ = some (.map (some w.heap.size)) ∧ wr.cell? ⟨w.heap.size + 1 + 1, 1, .none⟩ = some (.map (some (w.heap.size + 1))) ∧ Below w.heap.size w wr)
    (fun _ i _ => n - (intOf i).toNat)
  case atStart =>
    refine ⟨0, Nat.zero_le _, rfl, .map [], .map [], ?_, ?_, fun _ => rfl, fun _ => rfl, ?_, ?_, (((Below.refl _ _).alloc (Nat.le_refl _) _).alloc (by simp) _).alloc (by simp; omega) _⟩
    · exact ((((World.ownsMap_made w _ _ _).alloc _).alloc _).mono (Nat.zero_le _))
    · have := ((World.ownsMap_made (w.alloc (.map #[] 0)) Try.prog 9 RA).alloc (Obj.cells #[Value.map (some w.heap.size), Value.map (some (w.heap.size + 1))] 52)).mono (Nat.zero_le (0 * N))
      simpa using this
    · go_simp
    · go_simp
  case round =>
    obtain ⟨k, hk, rfl, D, E, hD, hE, lD, lE, c0, c1, hbl⟩ := hrel
    by_cases hlt : k < n
    · obtain ⟨b, o, rfl, hc⟩ := hp k hlt
      obtain ⟨fb, mb, s0, s1, s2, s3⟩ := hs k hlt
      have hb1 : b < w.heap.size := cell_lt hc
      have hb2 : p k < w.heap.size := cell_lt s0
      have hb3 := s2.lt
      have hb4 := s3.lt
      have q0 := below_cell hbl hc hb1
      have q1 := below_cell hbl s0 hb2
      have q2 := below_cell hbl s1 hb2
      have q3 := below_owns s2 hbl hb3
      have q4 := below_owns s3 hbl hb4
      have hkN : k * N ≤ 1048576 * 2 ^ 40 := Nat.mul_le_mul (by omega) hN
      have cF := copyF_any w.heap.size fb (k * N) N D (gf k) wr.drew hD.drew q3.drew (by omega) (by omega)
      have keep1 : ∀ w1 : World, wr.drew.grownBy w1 (some w.heap.size) → w1.cell? ⟨w.heap.size + 1 + 1, 0, .none⟩ = some (.map (some w.heap.size)) ∧ w1.cell? ⟨w.heap.size + 1 + 1, 1, .none⟩ = some (.map (some (w.heap.size + 1))) ∧
          w1.cell? ⟨p k, 0, .none⟩ = some (.map (some fb)) ∧ w1.cell? ⟨p k, 1, .none⟩ = some (.map (some mb)) := fun w1 hg =>
        ⟨hg.cell (w := wr.drew) c0 (sne (by dsimp only; omega)), hg.cell (w := wr.drew) c1 (sne (by dsimp only; omega)), hg.cell (w := wr.drew) q1 (sne (by dsimp only; omega)), hg.cell (w := wr.drew) q2 (sne (by dsimp only; omega))⟩
      go_wp2
      go_region_held3 (fun w' => w'.cell? ⟨w.heap.size + 1 + 1, 0, .none⟩ = some (.map (some w.heap.size)) ∧ w'.cell? ⟨p k, 0, .none⟩ = some (.map (some fb))) (go_keep)
        (first | (go_at_call 14; go_fit cF; rintro e w1 ⟨rfl, ⟨D1, hD1, lD1⟩, hg1⟩; obtain ⟨r0, r1, r2, r3⟩ := keep1 _ hg1))
      have hE1 := (hE.drew).kept hg1 (sne (by omega))
      have hM1 := (q4.drew).kept hg1 (sne (by omega))
      have cA := copyA_any (w.heap.size + 1) mb (k * N) N E (gm k) w1.drew hE1.drew hM1.drew (by omega) (by omega)
      have keep2 : ∀ w2 : World, w1.drew.grownBy w2 (some (w.heap.size + 1)) → w2.cell? ⟨w.heap.size + 1 + 1, 0, .none⟩ = some (.map (some w.heap.size)) ∧ w2.cell? ⟨w.heap.size + 1 + 1, 1, .none⟩ = some (.map (some (w.heap.size + 1))) ∧
          w2.cell? ⟨p k, 0, .none⟩ = some (.map (some fb)) ∧ w2.cell? ⟨p k, 1, .none⟩ = some (.map (some mb)) := fun w2 hg =>
        ⟨hg.cell (w := w1.drew) r0 (sne (by dsimp only; omega)), hg.cell (w := w1.drew) r1 (sne (by dsimp only; omega)), hg.cell (w := w1.drew) r2 (sne (by dsimp only; omega)), hg.cell (w := w1.drew) r3 (sne (by dsimp only; omega))⟩
      clear keep1 cF
      go_wp2
      go_region_held3 (fun w' => w'.cell? ⟨w.heap.size + 1 + 1, 1, .none⟩ = some (.map (some (w.heap.size + 1))) ∧ w'.cell? ⟨p k, 1, .none⟩ = some (.map (some mb))) (go_keep)
        (first | (go_at_call 15; go_fit cA; rintro e w2 ⟨rfl, ⟨E1, hE2, lE1⟩, hg2⟩; obtain ⟨t0, t1, t2, t3⟩ := keep2 _ hg2))
      have hD2 := (hD1.drew).kept hg2 (sne (by omega))
      clear keep2 cA
      go_wp2
      go_roundw
      case rel =>
        refine ⟨k + 1, by omega, by go_num, D1, E1, hD2.mono (by rw [Nat.succ_mul]; omega), hE2.mono (by rw [Nat.succ_mul]; omega), fun x => ?_, fun x => ?_, t0, t1, ?_⟩
        · rw [lD1 x, lD x]; rfl
        · rw [lE1 x, lE x]; rfl
        · have hbs := hbl.size
          have hs1 : wr.heap.size ≤ w1.heap.size := hg1.size
          exact ((hbl.drew).grown hg1 hbs (fun j hj => by cases hj; exact Nat.le_refl _)).drew.grown hg2 (Nat.le_trans hbs hs1) (fun j hj => by cases hj; omega)
      case measure => simp [intOf]; omega
    · go_wp2
      go_ret
      have : k = n := by omega
      subst this
      exact ⟨_, D, E, rfl, ⟨_, _, c0, c1, hD, hE⟩, lD, lE, hbl⟩

theorem union_any (a : Option Addr) (n cap : Nat) (p : Nat → Nat) (N : Nat) (gf gm : Nat → DataW Unit) (w : World) (hn : n ≤ 1048576) (hN : N ≤ 2 ^ 40) (hp : PtrsAt w a n p) (hs : ∀ i, i < n → SetIs w (p i) N (gf i) (gm i)) :
    Calls Try.prog 7 #[.slice a n cap] w fun e w' => UnionPost w n N gf gm e w' := by
  by_cases h : n = 1
  · subst h
    exact union_one a cap p N gf gm w hp (hs 0 (by omega))
  · exact union_more a n cap p N gf gm w hn (by simp; omega) hN hp hs
end Go.Proofs.Qxb6612575a
