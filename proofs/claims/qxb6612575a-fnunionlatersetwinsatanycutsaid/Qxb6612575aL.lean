/- The law (3), walked. -/
import Derived.Test.Qxb6612575aW3
import Derived.Test.Qxb6612575aM2
namespace Go.Proofs.Qxb6612575a
open Go.RowKit Go.Maps

theorem tot_le (f m : Nat → Nm) (i : Nat) : ∀ n, i < n → (f i).n ≤ tot f m n ∧ (m i).n ≤ tot f m n
  | n + 1, h => by
    simp only [tot]
    by_cases e : i = n
    · subst e; omega
    · have := tot_le f m i n (by omega); omega

theorem NamedAt.kept {w w' : World} {a : Option Addr} {n : Nat} {s t : Nat → ByteArray} (h : NamedAt w a n s t) (hb : Below w.heap.size w w') : NamedAt w' a n s t := fun j hj => by
  obtain ⟨b, o, h1, h2, h3, h4⟩ := h j hj
  exact ⟨b, o, h1, below_cell hb h2 (cell_lt h2), below_cell hb h3 (cell_lt h3), h4⟩
theorem SetsAt.kept {w w' : World} {a : Option Addr} {n : Nat} {f m : Nat → Nm} (h : SetsAt w a n f m) (hb : Below w.heap.size w w') : SetsAt w' a n f m := fun i hi => by
  obtain ⟨b, o, h1, h2, h3, h4, h5, h6, h7⟩ := h i hi
  exact ⟨b, o, h1, below_cell hb h2 (cell_lt h2), below_cell hb h3 (cell_lt h3), h4, h5, h6.kept hb, h7.kept hb⟩
theorem PtrsAt.kept {w w' : World} {a : Option Addr} {n : Nat} {p : Nat → Nat} (h : PtrsAt w a n p) (hb : Below w.heap.size w w') : PtrsAt w' a n p := fun i hi => by
  obtain ⟨b, o, h1, h2⟩ := h i hi
  exact ⟨b, o, h1, below_cell hb h2 (cell_lt h2)⟩

theorem SetIs.all {w : World} {r N d : Nat} {D E : DataW Unit} {f m : Nat → Nm} (h : SetIs w r N D E) (lD : ∀ k, look D k = foldLook (fun i => oneN (f i)) k d) (lE : ∀ k, look E k = foldLook (fun i => oneN (m i)) k d) : SetIs w r N (allN f d) (allN m d) := by
  obtain ⟨fb, mb, h1, h2, h3, h4⟩ := h
  have e1 : D = allN f d := ext_look (h3.canon law9) ((canon_allN f d).canon oneStr) (fun k => by rw [lD k, look_allN])
  have e2 : E = allN m d := ext_look (h4.canon law9) ((canon_allN m d).canon oneStr) (fun k => by rw [lE k, look_allN])
  subst e1 e2
  exact ⟨fb, mb, h1, h2, h3, h4⟩
theorem SetIs.join {w : World} {r N n c : Nat} {D E : DataW Unit} {f m : Nat → Nm} (h : SetIs w r N D E) (hc : c ≤ n) (lD : ∀ k, look D k = (look (allN (fun i => f (c + i)) (n - c)) k).or ((look (allN f c) k).or .none))
    (lE : ∀ k, look E k = (look (allN (fun i => m (c + i)) (n - c)) k).or ((look (allN m c) k).or .none)) : SetIs w r N (allN f n) (allN m n) := by
  obtain ⟨fb, mb, h1, h2, h3, h4⟩ := h
  have e1 : D = allN f n := ext_look (h3.canon law9) ((canon_allN f n).canon oneStr) (fun k => by rw [lD k, look_join f k c n hc])
  have e2 : E = allN m n := ext_look (h4.canon law9) ((canon_allN m n).canon oneStr) (fun k => by rw [lE k, look_join m k c n hc])
  subst e1 e2
  exact ⟨fb, mb, h1, h2, h3, h4⟩

theorem PtrsAt.tail {w : World} {B n c : Nat} {p : Nat → Nat} (h : PtrsAt w (some ⟨B, 0, .none⟩) n p) {ao : Option Addr} {d : Nat} (hd : d = n - c) (hao : c < n → ao = some ⟨B, c, .none⟩) : PtrsAt w ao d (fun i => p (c + i)) := fun i hi => by
  obtain ⟨b, o, e, hc⟩ := h (c + i) (by omega)
  cases e
  exact ⟨B, c, hao (by omega), by rw [← hc, Nat.zero_add]⟩
theorem SetsAt.tail {w : World} {b o n c : Nat} {f m : Nat → Nm} (h : SetsAt w (some ⟨b, o, .none⟩) n f m) {ao : Option Addr} {d : Nat} (hd : d = n - c) (hao : c < n → ao = some ⟨b, o + c * 2, .none⟩) : SetsAt w ao d (fun i => f (c + i)) (fun i => m (c + i)) := fun i hi => by
  obtain ⟨b', o', e, h1, h2, r⟩ := h (c + i) (by omega)
  cases e
  have e1 : o + (c + i) * 2 = o + c * 2 + i * 2 := by omega
  rw [e1] at h1 h2
  exact ⟨b, o + c * 2, hao (by omega), h1, h2, r⟩

theorem PtrsAt.pair (w : World) (r2 r3 : Nat) (t : TypeId) : PtrsAt (w.alloc (.cells #[.pointer (some ⟨r2, 0, .none⟩), .pointer (some ⟨r3, 0, .none⟩)] t)) (some ⟨w.heap.size, 0, .none⟩) 2 (fun i => if i = 0 then r2 else r3) := fun i hi => by
  refine ⟨_, _, rfl, ?_⟩
  match i, hi with
  | 0, _ => go_simp
  | 1, _ => go_simp

set_option maxRecDepth 100000 in
set_option maxHeartbeats 1000000 in
theorem law_walk (b o n cap : Nat) (f m : Nat → Nm) (cut : Int) (w : World) (hn : n ≤ maxLen) (hcap : n ≤ cap) (hcap2 : cap ≤ maxLen) (h : SetsAt w (some ⟨b, o, .none⟩) n f m) (wc : (Lit.int .i64 cut).wf = true) :
    Calls Try.prog 3 #[.slice (some ⟨b, o, .none⟩) n cap, .int .i64 cut] w fun e w' => e = .returned (.bool true) ∧ Below w.heap.size w w' := by
  have cB := zzBytes_any _ n cap cut f m w hn h
  have cS := setsBytes_any 0 _ n cap f m w hn h
  unfold maxLen at hn hcap2
  go_enter Try.func3, Try.ntmps3
  go_wp2_with (first | (go_at_call 4; go_fit cB; rintro e w' ⟨⟨q, rfl, hq⟩, rfl⟩) | (go_at_call 5; go_fit cS; rintro e w' ⟨⟨r, rfl⟩, rfl⟩))
  all_goals try (go_ret; exact ⟨rfl, Below.refl _ _⟩)
  have hq' := hq (by simpa using ‹(!q) = false›)
  obtain ⟨c, rfl⟩ : ∃ c : Nat, cut = c := ⟨cut.toNat, by omega⟩
  have hcn : c ≤ n := by omega
  have hn' : n ≤ 1048576 := hq'.2
  have hf : ∀ i, i < n → (f i).n ≤ 1048576 := fun i hi => Nat.le_trans (tot_le f m i n hi).1 hq'.1
  have hm : ∀ i, i < n → (m i).n ≤ 1048576 := fun i hi => Nat.le_trans (tot_le f m i n hi).2 hq'.1
  have HC : Hid ((0 : Int) ≤ c) := by unfold Hid; omega
  clear cB cS hq hq'
  rename World => W0
  go_fit (buildSets_any _ n cap f m _ hn' h hf hm)
  rintro e w1 ⟨p, rfl, hp, hs0, hb1⟩
  obtain ⟨M, hM⟩ : ∃ M : Nat, M = 1048576 := ⟨_, rfl⟩
  have hM1 : M ≤ 1048576 := by omega
  have hs : ∀ i, i < n → SetIs w1 (p i) M (oneN (f i)) (oneN (m i)) := fun i hi => (hs0 i hi).mono (by omega)
  have hfM : ∀ i, i < n → (f i).n ≤ M := fun i hi => by have := hf i hi; omega
  have hmM : ∀ i, i < n → (m i).n ≤ M := fun i hi => by have := hm i hi; omega
  clear hs0 hf hm hM
  go_wp2_with fail
  go_fit (union_any _ n n p M (fun i => oneN (f i)) (fun i => oneN (m i)) w1 hn' (by omega) hp hs)
  rintro e w2 ⟨r1, D1, E1, rfl, hs1, lD1, lE1, hb2⟩
  have hp2 := hp.kept hb2
  have hS2 : ∀ i, i < n → SetIs w2 (p i) M (oneN (f i)) (oneN (m i)) := fun i hi => (hs i hi).kept hb2
  go_wp2_with fail
  go_fit (union_any _ c n p M (fun i => oneN (f i)) (fun i => oneN (m i)) w2 (by omega) (by omega) (fun i hi => hp2 i (by omega)) (fun i hi => hS2 i (by omega)))
  rintro e w3 ⟨r2, D2, E2, rfl, hs2, lD2, lE2, hb3⟩
  have hp3 := hp2.kept hb3
  have hS3 : ∀ i, i < n → SetIs w3 (p i) M (oneN (f i)) (oneN (m i)) := fun i hi => (hS2 i hi).kept hb3
  have t1 := (hs1.all lD1 lE1).kept hb3
  have t2 := hs2.all lD2 lE2
  clear hs1 lD1 lE1 hs2 lD2 lE2 hS2 hp2
  have tk : ∀ (w4 : World) (r3 d : Nat), d = n - c → SetIs w4 r3 (d * M) (allN (fun i => f (c + i)) d) (allN (fun i => m (c + i)) d) → SetIs w4 r3 (n * M) (allN (fun i => f (c + i)) (n - c)) (allN (fun i => m (c + i)) (n - c)) := by
    rintro w4 r3 d rfl h; exact h.mono (Nat.mul_le_mul (by omega) (Nat.le_refl _))
  have mk : ∀ (w6 : World) (r3 d : Nat), d = n - c → SetIs w6 r3 (n * M) (allN (fun i => f (c + i)) (n - c)) (allN (fun i => m (c + i)) (n - c)) → SetIs w6 r3 (n * M) (allN (fun i => f (c + i)) d) (allN (fun i => m (c + i)) d) := by
    rintro w6 r3 d rfl h; exact h
  rcases Nat.lt_or_ge c n with hlt | hge
  all_goals
    go_wp2_with fail
    go_fit (union_any _ _ _ (fun i => p (c + i)) M (fun i => oneN (f (c + i))) (fun i => oneN (m (c + i))) w3 (by omega) (by omega) (hp3.tail (by omega) (by intro hh; first | rfl | omega)) (fun i hi => hS3 (c + i) (by omega)))
    rintro e w4 ⟨r3, D3, E3, rfl, hs3, lD3, lE3, hb4⟩
    have t3 := tk _ _ _ (by omega) (hs3.all lD3 lE3)
    clear hs3 lD3 lE3
    have hb14 : Below W0.heap.size W0 w4 := ((hb1.trans (hb2.mono hb1.size)).trans (hb3.mono (Nat.le_trans hb1.size hb2.size))).trans (hb4.mono (Nat.le_trans hb1.size (Nat.le_trans hb2.size hb3.size)))
    go_wp2_with fail
    go_fit (matches_any _ n cap f m r1 (n * M) w4 M hn' hM1 (h.kept hb14) hfM hmM (t1.kept hb4))
    rintro e w5 ⟨rfl, hb5⟩
    have hb15 := hb14.trans (hb5.mono hb14.size)
    go_wp2_with fail
    go_fit (matches_any _ c cap f m r2 (c * M) w5 M (by omega) hM1 (fun i hi => h.kept hb15 i (by omega)) (fun i hi => hfM i (by omega)) (fun i hi => hmM i (by omega)) ((t2.kept hb4).kept hb5))
    rintro e w6 ⟨rfl, hb6⟩
    have hb16 := hb15.trans (hb6.mono hb15.size)
    rcases Nat.lt_or_ge c cap with hcc | hcc
    all_goals try (exfalso; omega)
    all_goals
      go_wp2_with fail
      go_fit (matches_any _ _ _ (fun i => f (c + i)) (fun i => m (c + i)) r3 (n * M) w6 M (by omega) hM1 ((h.kept hb16).tail (by omega) (by intro hh; first | rfl | omega)) (fun i hi => hfM (c + i) (by omega)) (fun i hi => hmM (c + i) (by omega)) (mk _ _ _ (by omega) ((t3.kept hb5).kept hb6)))
      rintro e w7 ⟨rfl, hb7⟩
      have hb17 := hb16.trans (hb7.mono hb16.size)
      have a2 := (((t2.kept hb4).kept hb5).kept hb6).kept hb7
      have a3 := ((t3.kept hb5).kept hb6).kept hb7
      have ba : Below w7.heap.size w7 (w7.alloc (.cells #[.pointer (some ⟨r2, 0, .none⟩), .pointer (some ⟨r3, 0, .none⟩)] 27)) := (Below.refl _ _).alloc (Nat.le_refl _) _
      have hnM : n * M ≤ 2 ^ 40 := Nat.le_trans (Nat.mul_le_mul hn' hM1) (by decide)
      have cJ := union_any _ 2 2 (fun i => if i = 0 then r2 else r3) (n * M) (fun i => if i = 0 then allN f c else allN (fun i => f (c + i)) (n - c)) (fun i => if i = 0 then allN m c else allN (fun i => m (c + i)) (n - c)) _ (by omega) hnM (PtrsAt.pair w7 r2 r3 27) (fun i hi => by
        by_cases e : i = 0
        · subst e; exact (a2.kept ba).mono (Nat.mul_le_mul hcn (Nat.le_refl _))
        · simp only [e, if_false]; exact a3.kept ba)
      go_wp2_with fail
      go_fit cJ
      rintro e w8 ⟨r4, D4, E4, rfl, hs4, lD4, lE4, hb8⟩
      have t4 := hs4.join hcn lD4 lE4
      have hb18 := (hb17.trans (ba.mono hb17.size)).trans (hb8.mono (Nat.le_trans hb17.size ba.size))
      clear cJ
      go_wp2_with fail
      go_fit (matches_any _ n cap f m r4 _ w8 M hn' hM1 (h.kept hb18) hfM hmM t4)
      rintro e w9 ⟨rfl, hb9⟩
      go_wp2
      go_ret
      exact ⟨rfl, hb18.trans (hb9.mono hb18.size)⟩
end Go.Proofs.Qxb6612575a
