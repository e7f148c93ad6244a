/- How the elements of the three kinds of map read, and maps.Copy (14, 15). -/
import Derived.Test.Qxb6612575aD
import Derived.Maps.RangeWalk
import Derived.Maps.StringElems
namespace Go.Proofs.Qxb6612575a
open Go.RowKit Go.Maps

/-- a bare flag of a state -/
def mkF (s : ByteArray) : Value := .agg #[.string s, .map .none, .pointer .none, .map .none, .map .none, .pointer .none, .nilIface, .pointer .none]
/-- a string in an interface -/
def mkA (s : ByteArray) : Value := .iface 9 (.string s)

def RFl : List Value → Option (DataW Unit × List MemPlace)
  | [.string s, .map .none, .pointer .none, .map .none, .map .none, .pointer .none, .nilIface, .pointer .none] => if s.size ≤ maxLen then some (dOf s, []) else .none
  | _ => .none
/-- how a flag reads -/
def RF : Value → Option (DataW Unit × List MemPlace)
  | .agg cs => RFl cs.toList
  | _ => .none
/-- how an interface value reads that is nil or holds a string -/
def RA : Value → Option (DataW Unit × List MemPlace)
  | .nilIface => some (.nil, [])
  | .iface 9 (.string s) => if s.size ≤ maxLen then some (dOf s, []) else .none
  | _ => .none
/-- how a string reads -/
def RS : Value → Option (DataW Unit × List MemPlace)
  | .string s => if s.size ≤ maxLen then some (dOf s, []) else .none
  | _ => .none

theorem RF_mk {s : ByteArray} (h : s.size ≤ maxLen) : RF (mkF s) = some (dOf s, []) := by simp [RF, mkF, RFl, h]
theorem RA_mk {s : ByteArray} (h : s.size ≤ maxLen) : RA (mkA s) = some (dOf s, []) := by simp [RA, mkA, h]
theorem RS_mk {s : ByteArray} (h : s.size ≤ maxLen) : RS (.string s) = some (dOf s, []) := by simp [RS, h]
theorem RF_inv {v : Value} {y : DataW Unit × List MemPlace} (h : RF v = some y) : ∃ s : ByteArray, v = mkF s ∧ y = (dOf s, []) ∧ s.size ≤ maxLen := by
  unfold RF at h
  split at h
  · rename_i cs
    unfold RFl at h
    split at h
    · rename_i s e
      split at h
      · exact ⟨s, by rw [mkF]; congr 1; rw [← Array.toList_inj]; exact e, (Option.some.inj h).symm, by assumption⟩
      · cases h
    · cases h
  · cases h
theorem RA_inv {v : Value} {y : DataW Unit × List MemPlace} (h : RA v = some y) : (v = .nilIface ∧ y = (.nil, [])) ∨ ∃ s : ByteArray, v = mkA s ∧ y = (dOf s, []) ∧ s.size ≤ maxLen := by
  unfold RA at h
  split at h
  · exact Or.inl ⟨rfl, (Option.some.inj h).symm⟩
  · split at h
    · exact Or.inr ⟨_, rfl, (Option.some.inj h).symm, by assumption⟩
    · cases h
  · cases h
theorem RS_inv {v : Value} {y : DataW Unit × List MemPlace} (h : RS v = some y) : ∃ s : ByteArray, v = .string s ∧ y = (dOf s, []) ∧ s.size ≤ maxLen := by
  unfold RS at h
  split at h
  · split at h
    · exact ⟨_, rfl, (Option.some.inj h).symm, by assumption⟩
    · cases h
  · cases h

theorem law9 : Keyed Try.prog 9 := string_keyed Try.underlying9
theorem key9 {s : ByteArray} (h : s.size ≤ maxLen) : keyOf Try.prog 9 (.string s) = some (kOf s)   := WideMaps.keyOf_string_mk Try.underlying9 h
theorem key9_inv {v : Value} {l : Lit} (h : keyOf Try.prog 9 v = some l) : ∃ s : ByteArray, v = .string s ∧ l = kOf s ∧ s.size ≤ maxLen := by
  cases v <;> simp [keyOf, Try.underlying9, mapKey] at h
  exact ⟨_, rfl, h.2.symm, h.1⟩

theorem merged_look {Dout Dd Ds : DataW Unit} {left : Lit → Bool} (hM : Merged Dout Dd Ds left) (hl : ∀ k, left k = false) (k : Lit) : look Dout k = (look Ds k).or (look Dd k) := by
  have h1 := hM.1 k
  have h2 := hM.2 k .nil
  rw [hl k] at h1 h2
  unfold look
  rw [h1, h2]
  cases hs : has Ds k <;> cases hd : has Dd k <;> simp

set_option maxRecDepth 100000 in
set_option maxHeartbeats 1000000 in
theorem copyA_any (bd bs nd ns : Nat) (Dd Ds : DataW Unit) (w : World) (hd : w.ownsMap Try.prog 9 RA bd nd Dd) (hs : w.ownsMap Try.prog 9 RA bs ns Ds) (hne : bd ≠ bs) (hb : nd + ns ≤ 2 ^ 61) :
    Calls Try.prog 15 #[.map (some bd), .map (some bs)] w fun e w' => e = .returned (.tuple #[]) ∧ (∃ Dout, w'.ownsMap Try.prog 9 RA bd (nd + ns) Dout ∧ ∀ k, look Dout k = (look Ds k).or (look Dd k)) ∧ w.grownBy w' (some bd) := by
  have hbd := hd.lt
  have hbs := hs.lt
  have hsz := hs.size_le
  go_enter Try.func15, Try.ntmps15
  go_wp2_with (first
    | (at_range; refine wpList_range_own _ rfl _ 39 rfl 9 20 law9 Try.underlying39 _ bs ns _ rfl hs ?_; intro w0 hrg0 hg0 hs0)
    | go_in)
  go_frame
  go_loopw [4, 5] (fun _ _ wr => ∃ (left : Lit → Bool) (cnt : Nat) (Dout : DataW Unit), wr.ranges Try.prog 9 RA bs w.heap.size ns Ds left cnt ∧ cnt ≤ Maps.size Ds ∧
      wr.ownsMap Try.prog 9 RA bd (nd + (Maps.size Ds - cnt)) Dout ∧ Merged Dout Dd Ds left ∧ w.grownBy wr (some bd))
    (fun _ _ wr => wr.rangeLeft bs w.heap.size)
  case atStart =>
    exact ⟨_, _, Dd, hrg0, Nat.le_refl _, (hd.kept hg0 (by simp)).mono (by omega), merged_start Dd Ds, hg0.but _⟩
  case round =>
    obtain ⟨left, cnt, Dout, hrg, hcs, hout, hA, hgw⟩ := hrel
    go_wp2_with (first
      | (at_next; refine wpList_next_ranges _ rfl _ rfl 9 law9 RA Value.string (fun v => v) (fun key kl h => by obtain ⟨x, rfl, _⟩ := key9_inv h; exact ⟨x, rfl⟩) (fun v y _ => ⟨v, rfl⟩) bs w.heap.size ns _ _ _ rfl hrg ?_ ?_)
      | go_in)
    · intro hc0 hl0
      go_wp2
      go_end0
      subst hc0
      exact ⟨rfl, ⟨Dout, hout.mono (by omega), merged_look hA hl0⟩, hgw⟩
    · intro x c kl yd yp w1 cnt1 hkey hlx hv hat hrg1 hlt hg1 hs1 hen
      obtain ⟨x', ex, rfl, hxs⟩ := key9_inv hkey
      cases ex
      have hout1 := hout.kept hg1 (by simp; omega)
      go_wp2_with (first
        | (at_mapUpdate; refine wpList_mapUpdate_own _ rfl _ _ _ 39 rfl 9 20 law9 Try.underlying39 _ bd _ _ rfl hout1 (by unfold maxLen; omega) _ _ _ rfl rfl hkey _ yp hv ?_; intro w2 hout2 hg2; go_frame)
        | go_in)
      have hrg2 := hrg1.kept hg2 (fun e => by have := Option.some.inj e; omega) (fun e => by have := Option.some.inj e; omega)
      go_roundw
      case rel =>
        exact ⟨_, cnt1, _, hrg2, by omega, hout2.mono (by omega), merged_step hA hout.isMap trivial hat,
          (hgw.andThen hg1 (fun j hj => by cases hj; exact Or.inl (Nat.le_refl _))).andThen hg2 (fun j hj => Or.inr hj)⟩
      case measure => rw [hrg2.left_eq, hrg.left_eq]; exact hlt
end Go.Proofs.Qxb6612575a
