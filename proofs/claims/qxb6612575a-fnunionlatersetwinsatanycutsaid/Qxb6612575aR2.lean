import Derived.Test.Qxb6612575aR
namespace Go.Proofs.Qxb6612575a
open Go.RowKit Go.Maps
theorem Try.cells46 : Try.prog.cellsOf 46 = 8 := by kernel_rfl

set_option maxRecDepth 100000 in
set_option maxHeartbeats 1000000 in
theorem copyF_any (bd bs nd ns : Nat) (Dd Ds : DataW Unit) (w : World) (hd : w.ownsMap Try.prog 9 RF bd nd Dd) (hs : w.ownsMap Try.prog 9 RF bs ns Ds) (hne : bd ≠ bs) (hb : nd + ns ≤ 2 ^ 61) :
    Calls Try.prog 14 #[.map (some bd), .map (some bs)] w fun e w' => e = .returned (.tuple #[]) ∧ (∃ Dout, w'.ownsMap Try.prog 9 RF bd (nd + ns) Dout ∧ ∀ k, look Dout k = (look Ds k).or (look Dd k)) ∧ w.grownBy w' (some bd) := by
  have hbd := hd.lt
  have hbs := hs.lt
  have hsz := hs.size_le
  go_enter Try.func14, Try.ntmps14
  go_wp2_with (first
    | (at_range; refine wpList_range_own _ rfl _ 37 rfl 9 46 law9 Try.underlying37 _ bs ns _ rfl hs ?_; intro w0 hrg0 hg0 hs0)
    | go_in)
  go_frame
  go_loopw [4, 5] (fun _ _ wr => ∃ (left : Lit → Bool) (cnt : Nat) (Dout : DataW Unit), wr.ranges Try.prog 9 RF bs w.heap.size ns Ds left cnt ∧ cnt ≤ Maps.size Ds ∧
      wr.ownsMap Try.prog 9 RF bd (nd + (Maps.size Ds - cnt)) Dout ∧ Merged Dout Dd Ds left ∧ w.grownBy wr (some bd))
    (fun _ _ wr => wr.rangeLeft bs w.heap.size)
  case atStart =>
    exact ⟨_, _, Dd, hrg0, Nat.le_refl _, (hd.kept hg0 (by simp)).mono (by omega), merged_start Dd Ds, hg0.but _⟩
  case round =>
    obtain ⟨left, cnt, Dout, hrg, hcs, hout, hA, hgw⟩ := hrel
    go_wp2_with (first
      | (at_next; refine wpList_next_ranges _ rfl _ rfl 9 law9 RF Value.string (fun s => .agg #[.string s, .map .none, .pointer .none, .map .none, .map .none, .pointer .none, .nilIface, .pointer .none]) (fun key kl h => by obtain ⟨x, rfl, _⟩ := key9_inv h; exact ⟨x, rfl⟩) (fun v y hv => by obtain ⟨s, rfl, _⟩ := RF_inv hv; exact ⟨s, rfl⟩) bs w.heap.size ns _ _ _ rfl hrg ?_ ?_)
      | go_in)
    · intro hc0 hl0
      go_wp2
      go_end0
      subst hc0
      exact ⟨rfl, ⟨Dout, hout.mono (by omega), merged_look hA hl0⟩, hgw⟩
    · intro x c kl yd yp w1 cnt1 hkey hlx hv hat hrg1 hlt hg1 hs1 hen
      obtain ⟨x', ex, rfl, hxs⟩ := key9_inv hkey
      cases ex
      have hout1 := hout.kept hg1 (by simp; omega)
      go_wp2_with (first
        | (at_mapUpdate; refine wpList_mapUpdate_own _ rfl _ _ _ 37 rfl 9 46 law9 Try.underlying37 _ bd _ _ rfl (hout1.alloc _) (by unfold maxLen; omega) _ _ _ rfl rfl hkey _ yp hv ?_; intro w2 hout2 hg2; go_frame)
        | go_in)
      have hrg2 := (hrg1.alloc _).kept hg2 (fun e => by have := Option.some.inj e; omega) (fun e => by have := Option.some.inj e; omega)
      go_roundw
      case rel =>
        exact ⟨_, cnt1, _, hrg2, by omega, hout2.mono (by omega), merged_step hA hout.isMap trivial hat,
          ((hgw.andThen hg1 (fun j hj => by cases hj; exact Or.inl (Nat.le_refl _))).andThen (World.grownBy_alloc _ _ .none) (fun j hj => by cases hj)).andThen hg2 (fun j hj => Or.inr hj)⟩
      case measure => rw [hrg2.left_eq, hrg.left_eq]; exact hlt
end Go.Proofs.Qxb6612575a
