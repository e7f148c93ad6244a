/- What zzb1UnionMatches calls (16, 17, 18, 19), and its look-ups. -/
import Derived.Test.Qxb6612575aB
import Derived.Maps.OwnSet
namespace Go.Proofs.Qxb6612575a
open Go.RowKit Go.Maps

theorem zero46 (w : World) : (zeroValue 46).run Try.prog w = .ok (mkF ByteArray.empty) w := by kernel_rfl
theorem zero20 (w : World) : (zeroValue 20).run Try.prog w = .ok .nilIface w := by kernel_rfl
theorem zero9 (w : World) : (zeroValue 9).run Try.prog w = .ok (.string ByteArray.empty) w := by kernel_rfl

theorem eq39 (w : World) : (binOp .eql 39 (.map .none) (.map .none)).run Try.prog w = .ok (.bool true) w := by kernel_rfl
theorem assert9 (u : ByteArray) (w : World) : (Instr.typeAssert (.iface 9 (.string u)) 20 9 true).run Try.prog w = .ok (.tuple #[.string u, .bool true]) w := by kernel_rfl

theorem lookF {w : World} {fb N n i j : Nat} {f : Nat → Nm} (h : w.ownsMap Try.prog 9 RF fb N (allN f n)) (hi : i < n) (hj : j < (f i).n) (hs : ((f i).s j).size ≤ maxLen) {u : ByteArray} (hu : ∀ z, (allN f n).atKey (kOf ((f i).s j)) z = dOf u) :
    (Instr.lookup 37 (.map (some fb)) (.string ((f i).s j)) true).run Try.prog w = .ok (.tuple #[mkF u, .bool true]) w := by
  obtain ⟨v, ps, hrun, hv⟩ := h.look_ok law9 Try.underlying37 (zero46 w) (RF_mk (s := ByteArray.empty) (by unfold maxLen; decide)) (key9 hs)
  rw [has_allN f i j hj n hi] at hrun
  obtain ⟨s, rfl, hy, _⟩ := RF_inv hv
  have e : dOf u = dOf s := by
    rw [← hu (dOf ByteArray.empty)]
    exact congrArg Prod.fst hy
  rw [dOf_inj e]
  exact hrun

theorem lookA {w : World} {mb N n i j : Nat} {m : Nat → Nm} (h : w.ownsMap Try.prog 9 RA mb N (allN m n)) (hi : i < n) (hj : j < (m i).n) (hs : ((m i).s j).size ≤ maxLen) {u : ByteArray} (hu : ∀ z, (allN m n).atKey (kOf ((m i).s j)) z = dOf u) :
    (Instr.lookup 39 (.map (some mb)) (.string ((m i).s j)) true).run Try.prog w = .ok (.tuple #[.iface 9 (.string u), .bool true]) w := by
  obtain ⟨v, ps, hrun, hv⟩ := h.look_ok law9 Try.underlying39 (zero20 w) (show RA .nilIface = some (.nil, []) from rfl) (key9 hs)
  rw [has_allN m i j hj n hi] at hrun
  have hv' := hv
  rw [hu .nil] at hv'
  rcases RA_inv hv' with ⟨_, hy⟩ | ⟨s, rfl, hy, _⟩
  · have := congrArg Prod.fst hy
    simp [dOf] at this
  · have e : dOf u = dOf s := congrArg Prod.fst hy
    rw [dOf_inj e]
    exact hrun

theorem lookS {w : World} {b N n i j : Nat} {f : Nat → Nm} (h : w.ownsMap Try.prog 9 RS b N (allN f n)) (hs : ((f i).s j).size ≤ maxLen) {u : ByteArray} (hu : ∀ z, (allN f n).atKey (kOf ((f i).s j)) z = dOf u) :
    (Instr.lookup 55 (.map (some b)) (.string ((f i).s j)) false).run Try.prog w = .ok (.string u) w := by
  obtain ⟨v, ps, hrun, hv⟩ := h.lookup law9 Try.underlying55 (zero9 w) (RS_mk (s := ByteArray.empty) (by unfold maxLen; decide)) (key9 hs)
  obtain ⟨s, rfl, hy, _⟩ := RS_inv hv
  have e : dOf u = dOf s := by
    rw [← hu (dOf ByteArray.empty)]
    exact congrArg Prod.fst hy
  rw [dOf_inj e]
  exact hrun

set_option maxRecDepth 100000 in
theorem setMeta_any (sb mb : Nat) (w : World) (c : w.cell? ⟨sb, 1, .none⟩ = some (.map (some mb))) : Calls Try.prog 16 #[.pointer (some ⟨sb, 0, .none⟩)] w fun e w' => e = .returned (.pointer (some ⟨w.heap.size, 0, .none⟩)) ∧ w' = w.alloc (.cells #[.map (some mb)] 64) := by
  go_enter Try.func16, Try.ntmps16
  go_wp2
  go_ret
  exact ⟨rfl, rfl⟩

set_option maxRecDepth 100000 in
theorem anyLen_any (xb mb N : Nat) (E : DataW Unit) (w : World) (c : w.cell? ⟨xb, 0, .none⟩ = some (.map (some mb))) (h : w.ownsMap Try.prog 9 RA mb N E) : Calls Try.prog 17 #[.pointer (some ⟨xb, 0, .none⟩)] w fun e w' => e = .returned (.int .i64 (Maps.size E)) ∧ w' = w := by
  go_enter Try.func17, Try.ntmps17
  go_wp2_with (first | (at_len; refine wpList_len_own _ rfl _ 39 rfl 9 20 Try.underlying39 _ mb N E rfl h ?_) | go_in)
  go_ret
  exact ⟨rfl, rfl⟩

set_option maxRecDepth 100000 in
theorem bare_any (s : ByteArray) (w : World) : Calls Try.prog 18 #[.agg #[.string s, .map .none, .pointer .none, .map .none, .map .none, .pointer .none, .nilIface, .pointer .none]] w fun e w' => e = .returned (.bool true) ∧ w' = w.alloc (.cells #[.string s, .map .none, .pointer .none, .map .none, .map .none, .pointer .none, .nilIface, .pointer .none] 46) := by
  have q1 := eq39
  go_enter Try.func18, Try.ntmps18
  go_wp2
  go_ret
  exact ⟨rfl, rfl⟩

set_option maxRecDepth 100000 in
theorem anyString_any (xb mb : Nat) (k u : ByteArray) (w : World) (c : w.cell? ⟨xb, 0, .none⟩ = some (.map (some mb))) (h : (Instr.lookup 39 (.map (some mb)) (.string k) true).run Try.prog w = .ok (.tuple #[.iface 9 (.string u), .bool true]) w) :
    Calls Try.prog 19 #[.pointer (some ⟨xb, 0, .none⟩), .string k] w fun e w' => e = .returned (.tuple #[.string u, .bool true]) ∧ w' = w := by
  have q1 := assert9
  go_enter Try.func19, Try.ntmps19
  go_wp2
  go_ret2
  exact ⟨rfl, rfl⟩
end Go.Proofs.Qxb6612575a
