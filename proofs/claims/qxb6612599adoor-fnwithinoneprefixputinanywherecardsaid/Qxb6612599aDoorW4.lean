/- ZZwithin4 (6). -/
import Derived.Test.Qxb6612599aDoorW3
import Derived.Deep.OwnRows
import Derived.Deep.RegionHeld3
import Derived.Deep.DrawnRows
namespace Go.Proofs.Qxb6612599aDoor
open Go.RowKit
attribute [local go_sem ↓] Go.wp_at_zero Go.wp_at_succ

theorem Tryd.info41 : (Tryd.prog.info? 41).map (fun i => (i.zero, i.size, i.bytes)) = some (some (.agg #[.int .u64 0, .int .u64 0, .pointer .none, .int .u8 0]), 4, 32) := by kernel_rfl

/-- a [][4]byte as it lies -/
def AddrsAt (w : World) (a : Option Addr) (n : Nat) (X : Nat → Nat → Nat) : Prop :=
  ∀ i, i < n → ∃ b o, a = some ⟨b, o, .none⟩ ∧ w.cell? ⟨b, o + i * 4, .none⟩ = some (.int .u8 (X i 0)) ∧ w.cell? ⟨b, o + i * 4 + 1, .none⟩ = some (.int .u8 (X i 1)) ∧ w.cell? ⟨b, o + i * 4 + 2, .none⟩ = some (.int .u8 (X i 2)) ∧ w.cell? ⟨b, o + i * 4 + 3, .none⟩ = some (.int .u8 (X i 3))
/-- a []int as it lies -/
def BitsAt (w : World) (a : Option Addr) (n : Nat) (C : Nat → Int) : Prop :=
  ∀ i, i < n → ∃ b o, a = some ⟨b, o, .none⟩ ∧ w.cell? ⟨b, o + i, .none⟩ = some (.int .i64 (C i))

theorem run_make41 (n : Nat) (hn : n ≤ 1048576) (w : World) : (Instr.makeSlice 31 (.int .i64 (n : Int)) (.int .i64 (n : Int))).run Tryd.prog w = .ok (.slice (some ⟨w.heap.size, 0, .none⟩) n n) (w.alloc (.cells (madeCells #[.int .u64 0, .int .u64 0, .pointer .none, .int .u8 0] (n * 4)) 41)) := by
  obtain ⟨i, hi, hz0, hz1, hz2⟩ := info_parts Tryd.info41
  have hr := run_make (P := Tryd.prog) w 31 41 i _ Tryd.underlying31 hi hz0 .i64 .i64 n n (by omega) (Int.le_refl _) (by rw [hz2]; omega) (by omega)
  simp only [Int.toNat_natCast, hz1, Value.cells] at hr
  exact hr

/-- what the loop has laid -/
def Done (f : Nat → Value) (k : Nat) (X : Nat → Nat → Nat) (C : Nat → Int) (z : Addr) : Prop :=
  ∀ j, j < k → f (j * 4) = .int .u64 0 ∧ f (j * 4 + 1) = .int .u64 (lo (X j) : Int) ∧ f (j * 4 + 2) = .pointer (some z) ∧ f (j * 4 + 3) = .int .u8 (bp (C j) : Int)

theorem PrefsAt.kept {w w' : World} {g n : Nat} {X : Nat → Nat → Nat} {C : Nat → Int} {z : Addr} (h : PrefsAt w g n X C z) (hb : Below w.heap.size w w') : PrefsAt w' g n X C z := fun i hi => by
  obtain ⟨p0, p1, p2, p3⟩ := h i hi
  exact ⟨below_cell hb p0 (cell_lt p0), below_cell hb p1 (cell_lt p1), below_cell hb p2 (cell_lt p2), below_cell hb p3 (cell_lt p3)⟩

/-- four bytes in a block of their own -/
def Box4 (w : World) (b : Nat) (a : Nat → Nat) : Prop := w.cell? ⟨b, 0, .none⟩ = some (.int .u8 (a 0)) ∧ w.cell? ⟨b, 1, .none⟩ = some (.int .u8 (a 1)) ∧ w.cell? ⟨b, 2, .none⟩ = some (.int .u8 (a 2)) ∧ w.cell? ⟨b, 3, .none⟩ = some (.int .u8 (a 3))
theorem Box4.lt {w : World} {b : Nat} {a : Nat → Nat} (h : Box4 w b a) : b < w.heap.size := cell_lt h.1
theorem Box4.kept {w w' : World} {b : Nat} {a : Nat → Nat} (h : Box4 w b a) (hb : Below w.heap.size w w') : Box4 w' b a := ⟨below_cell hb h.1 h.lt, below_cell hb h.2.1 h.lt, below_cell hb h.2.2.1 h.lt, below_cell hb h.2.2.2 h.lt⟩
theorem Box4.set {w : World} {b : Nat} {a : Nat → Nat} (h : Box4 w b a) {p : Addr} (hp : p.block ≠ b) (v : Value) : Box4 (w.setCell p v) b a := by
  unfold Box4
  rw [World.cell?_setCell_far _ _ _ _ hp, World.cell?_setCell_far _ _ _ _ hp, World.cell?_setCell_far _ _ _ _ hp, World.cell?_setCell_far _ _ _ _ hp]
  exact h
theorem rowIs_below {w w' : World} {b n : Nat} {t : TypeId} {f : Nat → Value} (h : w.rowIs b t n f) (hb : Below w.heap.size w w') : w'.rowIs b t n f := h.of_block (hb.block b h.lt)

set_option maxRecDepth 100000 in
set_option maxHeartbeats 1000000 in
theorem within4_any (a0 b0 : Option Addr) (n c0 c1 m : Nat) (X : Nat → Nat → Nat) (C : Nat → Int) (a : Nat → Nat) (z : Addr) (w : World) (hn : n ≤ 1048576) (hm : n ≤ m) (hm2 : m ≤ 1048576) (hX : ∀ i, i < n → Bytes (X i)) (ha : Bytes a) (hz : Laid w z) (hA : AddrsAt w a0 n X) (hB : BitsAt w b0 m C) :
    Calls Tryd.prog 6 #[.slice a0 n c0, .slice b0 m c1, .agg #[.int .u8 (a 0), .int .u8 (a 1), .int .u8 (a 2), .int .u8 (a 3)]] w fun e w' => e = .returned (.bool ((List.range n).any fun i => holds (X i) (C i) a)) ∧ Below w.heap.size w w' := by
  have hmk := run_make41 n hn
  go_enter Tryd.func6, Tryd.ntmps6
  go_wp2
  obtain ⟨W0, hW0⟩ : ∃ W, W = (w.alloc (.cells #[.int .u8 (a 0), .int .u8 (a 1), .int .u8 (a 2), .int .u8 (a 3)] 24)).alloc (.cells (madeCells #[.int .u64 0, .int .u64 0, .pointer .none, .int .u8 0] (n * 4)) 41) := ⟨_, rfl⟩
  have e1 : (w.alloc (.cells #[.int .u8 (a 0), .int .u8 (a 1), .int .u8 (a 2), .int .u8 (a 3)] 24)).heap.size = w.heap.size + 1 := by simp
  have hbox : Box4 W0 w.heap.size a := by rw [hW0]; exact ⟨by go_simp, by go_simp, by go_simp, by go_simp⟩
  obtain ⟨f0, hrow0⟩ : ∃ f0, W0.rowIs (w.heap.size + 1) 41 (n * 4) f0 := by
    rw [hW0, ← e1]
    refine ⟨fun i => (madeCells #[.int .u64 0, .int .u64 0, .pointer .none, .int .u8 0] (n * 4)).getD i undef, ?_⟩
    have := World.rowIs_alloc (w.alloc (.cells #[.int .u8 (a 0), .int .u8 (a 1), .int .u8 (a 2), .int .u8 (a 3)] 24)) (madeCells #[.int .u64 0, .int .u64 0, .pointer .none, .int .u8 0] (n * 4)) 41 (fun i => (madeCells #[.int .u64 0, .int .u64 0, .pointer .none, .int .u8 0] (n * 4)).getD i undef) (fun i hi => by simp [Array.getD, hi])
    rw [size_madeCells] at this
    exact this
  have hb0 : Below w.heap.size w W0 := by rw [hW0]; exact Below.al (Below.al (Below.refl _ _) _) _
  rw [← hW0]
  clear hW0 hmk
  go_loopw [8, 14] (fun _ i wr => ∃ k : Nat, k ≤ n ∧ i = .int .i64 k ∧ (∃ f, wr.rowIs (w.heap.size + 1) 41 (n * 4) f ∧ Done f k X C z) ∧ Box4 wr w.heap.size a ∧ Below w.heap.size w wr) (fun _ i _ => n - (intOf i).toNat)
  case atStart => exact ⟨0, Nat.zero_le _, rfl, ⟨f0, hrow0, fun j hj => by omega⟩, hbox, hb0⟩
  case round =>
    obtain ⟨k, hk, rfl, ⟨f, hrow, hdone⟩, hbx, hbl⟩ := hrel
    rename World => W1
    by_cases hlt : k < n
    · obtain ⟨b, o, rfl, x0, x1, x2, x3⟩ := hA k hlt
      obtain ⟨b', o', rfl, y0⟩ := hB k (by omega)
      have hl1 : b < w.heap.size := cell_lt x0
      have hl2 : b' < w.heap.size := cell_lt y0
      have u0 := below_cell hbl x0 hl1
      have u1 := below_cell hbl x1 hl1
      have u2 := below_cell hbl x2 hl1
      have u3 := below_cell hbl x3 hl1
      have v0 := below_cell hbl y0 hl2
      have hz1 : Laid W1.drew z := hz.kept hbl.drew hz.lt
      have hs1 := hbl.size
      have cF := from4_any (X k) (hX k hlt) z W1.drew hz1
      have keep : ∀ w2, Below W1.drew.heap.size W1.drew w2 → w2.cell? ⟨b, o + k * 4, .none⟩ = some (.int .u8 (X k 0)) ∧ w2.cell? ⟨b, o + k * 4 + 1, .none⟩ = some (.int .u8 (X k 1)) ∧ w2.cell? ⟨b, o + k * 4 + 2, .none⟩ = some (.int .u8 (X k 2)) ∧ w2.cell? ⟨b, o + k * 4 + 3, .none⟩ = some (.int .u8 (X k 3)) ∧ w2.cell? ⟨b', o' + k, .none⟩ = some (.int .i64 (C k)) := fun w2 hb =>
        ⟨below_cell hb u0 (by show b < W1.heap.size; omega), below_cell hb u1 (by show b < W1.heap.size; omega), below_cell hb u2 (by show b < W1.heap.size; omega), below_cell hb u3 (by show b < W1.heap.size; omega), below_cell hb v0 (by show b' < W1.heap.size; omega)⟩
      have row : ∀ w2, Below W1.drew.heap.size W1.drew w2 → w2.cell? ⟨w.heap.size + 1, k * 4, .none⟩ = some (f (k * 4)) ∧ w2.cell? ⟨w.heap.size + 1, k * 4 + 1, .none⟩ = some (f (k * 4 + 1)) ∧ w2.cell? ⟨w.heap.size + 1, k * 4 + 2, .none⟩ = some (f (k * 4 + 2)) ∧ w2.cell? ⟨w.heap.size + 1, k * 4 + 3, .none⟩ = some (f (k * 4 + 3)) ∧
          w2.frozen? ⟨w.heap.size + 1, k * 4, .none⟩ = false ∧ w2.frozen? ⟨w.heap.size + 1, k * 4 + 1, .none⟩ = false ∧ w2.frozen? ⟨w.heap.size + 1, k * 4 + 2, .none⟩ = false ∧ w2.frozen? ⟨w.heap.size + 1, k * 4 + 3, .none⟩ = false := fun w2 hb => by
        have hr := rowIs_below hrow.drew hb
        exact ⟨hr.cell (by omega), hr.cell (by omega), hr.cell (by omega), hr.cell (by omega), hr.frozen _, hr.frozen _, hr.frozen _, hr.frozen _⟩
      have i1 : (k : Int) < n := by omega
      have i2 : (k : Int) < m := by omega
      go_wp2
      go_region_held3 (fun w' => w'.cell? ⟨b, o + k * 4, .none⟩ = some (.int .u8 (X k 0)) ∧ w'.cell? ⟨b, o + k * 4 + 1, .none⟩ = some (.int .u8 (X k 1)) ∧ w'.cell? ⟨b, o + k * 4 + 2, .none⟩ = some (.int .u8 (X k 2)) ∧ w'.cell? ⟨b, o + k * 4 + 3, .none⟩ = some (.int .u8 (X k 3)) ∧ w'.cell? ⟨b', o' + k, .none⟩ = some (.int .i64 (C k))) (first | go_keep | (refine ⟨?_, ?_, ?_, ?_, ?_⟩ <;> (rw [World.cell?_setCell_far _ _ _ _ (by dsimp only; omega), World.cell?_setCell_far _ _ _ _ (by dsimp only; omega), World.cell?_setCell_far _ _ _ _ (by dsimp only; omega), World.cell?_setCell_far _ _ _ _ (by dsimp only; omega)]; assumption)))
        (first | (go_at_call 12; go_fit cF; rintro e w2 ⟨rfl, hb2⟩; obtain ⟨s0, s1, s2, s3, s4⟩ := keep _ hb2) | (go_at_call 11; go_fit (prefixFrom_any _ z _ _ (hz1.kept hb2 (by have := hz.lt; show 1 < W1.heap.size; omega))); rintro e w3 ⟨rfl, hb3⟩; have hb23 := hb2.trans (hb3.mono hb2.size); obtain ⟨t0, t1, t2, t3, t4⟩ := keep _ hb23; obtain ⟨m0, m1, m2, m3, m4, m5, m6, m7⟩ := row _ hb23))
      go_wp2
      go_roundw
      case rel =>
        have hr3 := rowIs_below hrow.drew hb23
        have hb3' : Below w.heap.size w w3 := hbl.drew.trans (hb23.mono hbl.size)
        refine ⟨k + 1, by omega, by go_num, ⟨_, (((hr3.set (k * 4) _).set (k * 4 + 1) _).set (k * 4 + 2) _).set (k * 4 + 3) _, fun j hj => ?_⟩, ?_, ?_⟩
        · by_cases e : j = k
          · subst e
            refine ⟨?_, ?_, ?_, ?_⟩ <;> simp
          · obtain ⟨d0, d1, d2, d3⟩ := hdone j (by omega)
            refine ⟨?_, ?_, ?_, ?_⟩
            · rw [if_neg (by omega), if_neg (by omega), if_neg (by omega), if_neg (by omega)]; exact d0
            · rw [if_neg (by omega), if_neg (by omega), if_neg (by omega), if_neg (by omega)]; exact d1
            · rw [if_neg (by omega), if_neg (by omega), if_neg (by omega), if_neg (by omega)]; exact d2
            · rw [if_neg (by omega), if_neg (by omega), if_neg (by omega), if_neg (by omega)]; exact d3
        · exact ((((Box4.kept (w := W1.drew) hbx hb23).set (by dsimp only; omega) _).set (by dsimp only; omega) _).set (by dsimp only; omega) _).set (by dsimp only; omega) _
        · exact (((hb3'.setCell (by dsimp only; omega) _).setCell (by dsimp only; omega) _).setCell (by dsimp only; omega) _).setCell (by dsimp only; omega) _
      case measure => simp [intOf]; omega
    · have hkn : k = n := by omega
      subst hkn
      obtain ⟨k0, k1, k2, k3⟩ := hbx
      have hz1 := hz.kept hbl hz.lt
      have hp1 : PrefsAt W1 (w.heap.size + 1) k X C z := fun i hi => by
        obtain ⟨d0, d1, d2, d3⟩ := hdone i hi
        exact ⟨by rw [hrow.cell (by omega), d0], by rw [hrow.cell (by omega), d1], by rw [hrow.cell (by omega), d2], by rw [hrow.cell (by omega), d3]⟩
      go_wp2_with (first | (go_at_call 12; go_fit (from4_any a ha z _ hz1); rintro e w2 ⟨rfl, hb2⟩) | (go_at_call 13; go_fit (within_any (w.heap.size + 1) k X C a z _ hn hX ha (hz1.kept hb2 hz1.lt) (hp1.kept hb2)); rintro e w3 ⟨rfl, hb3⟩))
      go_ret
      exact ⟨rfl, (hbl.trans (hb2.mono hbl.size)).trans (hb3.mono (Nat.le_trans hbl.size hb2.size))⟩
end Go.Proofs.Qxb6612599aDoor
