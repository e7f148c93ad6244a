/- within: the closure (19), slices.IndexFunc (22), ContainsFunc (18), within (13). -/
import Derived.Test.Qxb6612599aDoorW2
namespace Go.Proofs.Qxb6612599aDoor
open Go.RowKit

/-- a []netip.Prefix as it lies: prefix i is X i / C i -/
def PrefsAt (w : World) (g n : Nat) (X : Nat → Nat → Nat) (C : Nat → Int) (z : Addr) : Prop :=
  ∀ i, i < n → w.cell? ⟨g, i * 4, .none⟩ = some (.int .u64 0) ∧ w.cell? ⟨g, i * 4 + 1, .none⟩ = some (.int .u64 (lo (X i) : Int)) ∧ w.cell? ⟨g, i * 4 + 2, .none⟩ = some (.pointer (some z)) ∧ w.cell? ⟨g, i * 4 + 3, .none⟩ = some (.int .u8 (bp (C i) : Int))

set_option maxRecDepth 100000 in
set_option maxHeartbeats 1000000 in
theorem clos_any (cp : Nat) (x a : Nat → Nat) (hx : Bytes x) (ha : Bytes a) (c : Int) (z : Addr) (w : World) (hz : Laid w z)
    (c0 : w.cell? ⟨cp, 0, .none⟩ = some (.int .u64 0)) (c1 : w.cell? ⟨cp, 1, .none⟩ = some (.int .u64 (lo a : Int))) (c2 : w.cell? ⟨cp, 2, .none⟩ = some (.pointer (some z))) :
    Calls Tryd.prog 19 #[.agg #[.int .u64 0, .int .u64 (lo x : Int), .pointer (some z), .int .u8 (bp c : Int)], .pointer (some ⟨cp, 0, .none⟩)] w fun e w' => e = .returned (.bool (holds x c a)) ∧ Below w.heap.size w w' := by
  have hl : cp < w.heap.size := cell_lt c0
  go_enter Tryd.func19, Tryd.ntmps19
  go_wp2_with (first | (go_at_call 20; go_fit (contains_any x a hx ha c z _ (hz.alloc _)); rintro e w' ⟨rfl, hb⟩))
  go_ret
  exact ⟨rfl, (Below.al (Below.refl _ _) _).trans (hb.mono (by simp))⟩

def IdxPost (n : Nat) (X : Nat → Nat → Nat) (C : Nat → Int) (a : Nat → Nat) (e : Ending) : Prop := ∃ r : Int, e = .returned (.int .i64 r) ∧ decide (0 ≤ r) = (List.range n).any fun i => holds (X i) (C i) a

theorem any_hit {n k : Nat} {f : Nat → Bool} (hk : k < n) (h : f k = true) : (List.range n).any f = true := List.any_eq_true.2 ⟨k, List.mem_range.2 hk, h⟩
theorem any_miss {n : Nat} {f : Nat → Bool} (h : ∀ j, j < n → f j = false) : (List.range n).any f = false := List.any_eq_false.2 fun j hj => by rw [h j (List.mem_range.1 hj)]; simp

set_option maxRecDepth 100000 in
set_option maxHeartbeats 1000000 in
theorem index_any (g n cp : Nat) (X : Nat → Nat → Nat) (C : Nat → Int) (a : Nat → Nat) (z : Addr) (w : World) (hn : n ≤ 1048576) (hX : ∀ i, i < n → Bytes (X i)) (ha : Bytes a) (hz : Laid w z) (hp : PrefsAt w g n X C z)
    (c0 : w.cell? ⟨cp, 0, .none⟩ = some (.int .u64 0)) (c1 : w.cell? ⟨cp, 1, .none⟩ = some (.int .u64 (lo a : Int))) (c2 : w.cell? ⟨cp, 2, .none⟩ = some (.pointer (some z))) :
    Calls Tryd.prog 22 #[.slice (some ⟨g, 0, .none⟩) n n, .func (.func 19) #[] #[.pointer (some ⟨cp, 0, .none⟩)]] w fun e w' => IdxPost n X C a e ∧ Below w.heap.size w w' := by
  have hl : cp < w.heap.size := cell_lt c0
  go_enter Tryd.func22, Tryd.ntmps22
  go_wp2
  go_loopw [5, 8] (fun _ i wr => ∃ k : Nat, k ≤ n ∧ i = .int .i64 k ∧ (∀ j, j < k → holds (X j) (C j) a = false) ∧ Below w.heap.size w wr) (fun _ i _ => n - (intOf i).toNat)
  case atStart => exact ⟨0, Nat.zero_le _, rfl, fun j hj => by omega, Below.refl _ _⟩
  case round =>
    obtain ⟨k, hk, rfl, hno, hbl⟩ := hrel
    rename World => W1
    by_cases hlt : k < n
    · obtain ⟨p0, p1, p2, p3⟩ := hp k hlt
      have q0 := below_cell hbl p0 (cell_lt p0)
      have q1 := below_cell hbl p1 (cell_lt p1)
      have q2 := below_cell hbl p2 (cell_lt p2)
      have q3 := below_cell hbl p3 (cell_lt p3)
      have cC := clos_any cp (X k) a (hX k hlt) ha (C k) z W1 (hz.kept hbl hz.lt) (below_cell hbl c0 hl) (below_cell hbl c1 hl) (below_cell hbl c2 hl)
      have HN : Hid (∀ j, j < k → holds (X j) (C j) a = false) := hno
      clear hno
      cases hh : holds (X k) (C k) a
      · rw [hh] at cC
        go_wp2_with (first | (go_at_call 19; go_fit cC; rintro e w' ⟨rfl, hb⟩))
        go_roundw
        case rel =>
          refine ⟨k + 1, by omega, by go_num, fun j hj => ?_, hbl.trans (hb.mono hbl.size)⟩
          by_cases e : j = k
          · subst e; exact hh
          · exact HN.out j (by omega)
        case measure => simp [intOf]; omega
      · rw [hh] at cC
        go_wp2_with (first | (go_at_call 19; go_fit cC; rintro e w' ⟨rfl, hb⟩))
        go_ret
        exact ⟨⟨(k : Int), rfl, by rw [any_hit hlt hh]; simp⟩, hbl.trans (hb.mono hbl.size)⟩
    · have hkn : k = n := by omega
      subst hkn
      have HN : Hid (∀ j, j < k → holds (X j) (C j) a = false) := hno
      clear hno
      go_wp2
      go_ret
      exact ⟨⟨-1, rfl, by rw [any_miss HN.out]; rfl⟩, hbl⟩

set_option maxRecDepth 100000 in
set_option maxHeartbeats 1000000 in
theorem within_any (g n : Nat) (X : Nat → Nat → Nat) (C : Nat → Int) (a : Nat → Nat) (z : Addr) (w : World) (hn : n ≤ 1048576) (hX : ∀ i, i < n → Bytes (X i)) (ha : Bytes a) (hz : Laid w z) (hp : PrefsAt w g n X C z) :
    Calls Tryd.prog 13 #[.slice (some ⟨g, 0, .none⟩) n n, .agg #[.int .u64 0, .int .u64 (lo a : Int), .pointer (some z)]] w fun e w' => e = .returned (.bool ((List.range n).any fun i => holds (X i) (C i) a)) ∧ Below w.heap.size w w' := by
  have ba : Below w.heap.size w (w.alloc (.cells #[.int .u64 0, .int .u64 (lo a : Int), .pointer (some z)] 39)) := Below.al (Below.refl _ _) _
  have hp1 : PrefsAt (w.alloc (.cells #[.int .u64 0, .int .u64 (lo a : Int), .pointer (some z)] 39)) g n X C z := fun i hi => by
    obtain ⟨p0, p1, p2, p3⟩ := hp i hi
    exact ⟨below_cell ba p0 (cell_lt p0), below_cell ba p1 (cell_lt p1), below_cell ba p2 (cell_lt p2), below_cell ba p3 (cell_lt p3)⟩
  have cI := index_any g n w.heap.size X C a z _ hn hX ha (hz.alloc _) hp1 (by go_simp) (by go_simp) (by go_simp)
  clear hp1
  go_enter Tryd.func13, Tryd.ntmps13
  go_wp2_with (first | (go_at_call 22; go_fit cI; rintro e w' ⟨⟨r, rfl, hr⟩, hb⟩) | go_in)
  go_ret
  exact ⟨rfl, ba.trans (hb.mono ba.size)⟩
end Go.Proofs.Qxb6612599aDoor
