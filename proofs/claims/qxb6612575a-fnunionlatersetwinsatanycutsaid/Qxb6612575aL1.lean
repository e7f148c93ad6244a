/- The law (3) at an empty list of sets that is not nil. -/
import Derived.Test.Qxb6612575aL0
namespace Go.Proofs.Qxb6612575a
open Go.RowKit Go.Maps

set_option maxRecDepth 100000 in
set_option maxHeartbeats 1000000 in
theorem law_walk_zero (x : Addr) (cap : Nat) (cut : Int) (w : World) :
    Calls Try.prog 3 #[.slice (some x) 0 cap, .int .i64 cut] w fun e w' => e = .returned (.bool true) ∧ Below w.heap.size w w' := by
  have cB := zzBytes_any (some x) 0 cap cut nm0 nm0 w (by unfold maxLen; decide) (sets0 w _)
  have cS := setsBytes_any 0 (some x) 0 cap nm0 nm0 w (by unfold maxLen; decide) (sets0 w _)
  go_enter Try.func3, Try.ntmps3
  go_wp2_with (first | (go_at_call 4; go_fit cB; rintro e w' ⟨⟨q, rfl, hq⟩, rfl⟩) | (go_at_call 5; go_fit cS; rintro e w' ⟨⟨r, rfl⟩, rfl⟩))
  all_goals try (go_ret; exact ⟨rfl, Below.refl _ _⟩)
  obtain rfl : cut = 0 := by omega
  clear cB cS hq
  rename World => W0
  go_fit (buildSets_any _ 0 _ nm0 nm0 _ (by omega) (sets0 _ _) (fun i hi => by omega) (fun i hi => by omega))
  rintro e w1 ⟨p, rfl, hp, hs, hb1⟩
  go_wp2_with fail
  go_fit (union_any _ 0 0 p 0 (fun i => oneN (nm0 i)) (fun i => oneN (nm0 i)) w1 (by omega) (by omega) hp (fun i hi => by omega))
  rintro e w2 ⟨r1, D1, E1, rfl, hs1, lD1, lE1, hb2⟩
  go_wp2_with fail
  go_fit (union_any _ 0 0 p 0 (fun i => oneN (nm0 i)) (fun i => oneN (nm0 i)) w2 (by omega) (by omega) (fun i hi => by omega) (fun i hi => by omega))
  rintro e w3 ⟨r2, D2, E2, rfl, hs2, lD2, lE2, hb3⟩
  go_wp2_with fail
  go_fit (union_any _ 0 0 p 0 (fun i => oneN (nm0 i)) (fun i => oneN (nm0 i)) w3 (by omega) (by omega) (fun i hi => by omega) (fun i hi => by omega))
  rintro e w4 ⟨r3, D3, E3, rfl, hs3, lD3, lE3, hb4⟩
  have t1 := ((hs1.all lD1 lE1).kept hb3).kept hb4
  have t2 := (hs2.all lD2 lE2).kept hb4
  have t3 := hs3.all lD3 lE3
  clear hs1 lD1 lE1 hs2 lD2 lE2 hs3 lD3 lE3
  have hb14 : Below W0.heap.size W0 w4 := ((hb1.trans (hb2.mono hb1.size)).trans (hb3.mono (Nat.le_trans hb1.size hb2.size))).trans (hb4.mono (Nat.le_trans hb1.size (Nat.le_trans hb2.size hb3.size)))
  go_wp2_with fail
  go_fit (matches_any _ 0 _ nm0 nm0 r1 _ w4 0 (by omega) (by omega) (sets0 _ _) (fun i hi => by omega) (fun i hi => by omega) t1)
  rintro e w5 ⟨rfl, hb5⟩
  have hb15 := hb14.trans (hb5.mono hb14.size)
  go_wp2_with fail
  go_fit (matches_any _ 0 _ nm0 nm0 r2 _ w5 0 (by omega) (by omega) (sets0 _ _) (fun i hi => by omega) (fun i hi => by omega) (t2.kept hb5))
  rintro e w6 ⟨rfl, hb6⟩
  have hb16 := hb15.trans (hb6.mono hb15.size)
  go_wp2_with fail
  go_fit (matches_any _ 0 _ nm0 nm0 r3 _ w6 0 (by omega) (by omega) (sets0 _ _) (fun i hi => by omega) (fun i hi => by omega) ((t3.kept hb5).kept hb6))
  rintro e w7 ⟨rfl, hb7⟩
  have hb17 := hb16.trans (hb7.mono hb16.size)
  have a2 := ((t2.kept hb5).kept hb6).kept hb7
  have a3 := ((t3.kept hb5).kept hb6).kept hb7
  have ba : Below w7.heap.size w7 (w7.alloc (.cells #[.pointer (some ⟨r2, 0, .none⟩), .pointer (some ⟨r3, 0, .none⟩)] 27)) := (Below.refl _ _).alloc (Nat.le_refl _) _
  have cJ := union_any _ 2 2 (fun i => if i = 0 then r2 else r3) 0 (fun _ => allN nm0 0) (fun _ => allN nm0 0) _ (by omega) (by omega) (PtrsAt.pair w7 r2 r3 27) (fun i hi => by
    by_cases e : i = 0
    · subst e; exact (a2.kept ba).mono (by omega)
    · simp only [e, if_false]; exact (a3.kept ba).mono (by omega))
  go_wp2_with fail
  go_fit cJ
  rintro e w8 ⟨r4, D4, E4, rfl, hs4, lD4, lE4, hb8⟩
  have t4 := hs4.join (f := nm0) (m := nm0) (n := 0) (c := 0) (Nat.le_refl _) lD4 lE4
  have hb18 := (hb17.trans (ba.mono hb17.size)).trans (hb8.mono (Nat.le_trans hb17.size ba.size))
  clear cJ
  go_wp2_with fail
  go_fit (matches_any _ 0 _ nm0 nm0 r4 _ w8 0 (by omega) (by omega) (sets0 _ _) (fun i hi => by omega) (fun i hi => by omega) t4)
  rintro e w9 ⟨rfl, hb9⟩
  go_wp2
  go_ret
  exact ⟨rfl, hb18.trans (hb9.mono hb18.size)⟩
end Go.Proofs.Qxb6612575a
