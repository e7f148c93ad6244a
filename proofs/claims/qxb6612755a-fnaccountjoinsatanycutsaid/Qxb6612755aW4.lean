/- ZZAccount (9). -/
import Derived.Test.Qxb6612755aW3
import Derived.Maps.AppendAt
namespace Go.Proofs.Qxb6612755a
open Go.RowKit
attribute [local go_sem ↓] Go.wp_at_zero Go.wp_at_succ

/-- m slices of ints lie behind a -/
def HeldAt (w : World) (a : Option Addr) (m : Nat) (A : Nat → Option Addr) (L cp : Nat → Nat) (X : Nat → Nat → Int) : Prop := ∀ i, i < m → (∃ b o, a = some ⟨b, o, .none⟩ ∧ w.cell? ⟨b, o + i, .none⟩ = some (.slice (A i) (L i) (cp i))) ∧ IntsAt w (A i) (L i) (X i)
theorem HeldAt.kept {w w' : World} {a : Option Addr} {m : Nat} {A : Nat → Option Addr} {L cp : Nat → Nat} {X : Nat → Nat → Int} (h : HeldAt w a m A L cp X) (hb : Below w.heap.size w w') : HeldAt w' a m A L cp X := fun i hi => by
  obtain ⟨⟨b, o, e, h0⟩, h1⟩ := h i hi
  exact ⟨⟨b, o, e, below_cell hb h0 (cell_lt h0)⟩, h1.kept hb (Nat.le_refl _)⟩
theorem Try.info52 : (Try.prog.info? 52).map (fun i => (i.zero, i.size, i.bytes)) = some (some .nilIface, 1, 16) := by kernel_rfl
theorem map_snoc {β : Type} (F : Nat → β) (k : Nat) : (List.range k).map F ++ [F k] = (List.range (k + 1)).map F := by rw [List.range_succ, List.map_append]; rfl
theorem iface_oneCell (a : Option Addr) (n c : Nat) : ∀ u ∈ [Value.iface 39 (.slice a n c)], u.oneCell' = true := by
  intro u hu
  simp at hu
  subst hu
  rfl

/-- what the row that ZZAccount builds reads as -/
theorem owns_deps {w : World} {base k : Nat} {v : Value} {A : Nat → Option Addr} {L cp : Nat → Nat} {X : Nat → Nat → Int} (h : w.ownsRow base 52 1 v k ((List.range k).map fun i => .iface 39 (.slice (A i) (L i) (cp i)))) (hX : ∀ i, i < k → IntsAt w (A i) (L i) (X i)) :
    ∃ a hc, v = .slice a k hc ∧ DepsAt w a k A L cp X := by
  obtain ⟨hl, ⟨rfl, rfl⟩ | ⟨g, cap, cur, rfl, _⟩⟩ := h
  · exact ⟨.none, 0, rfl, fun i hi => by omega⟩
  · refine ⟨_, _, rfl, fun i hi => ⟨⟨g, 0, rfl, ?_⟩, hX i hi⟩⟩
    have := World.ownsRow.cells (w := w) (base := base) (e := 52) (size := 1) (v := .slice (some ⟨g, 0, .none⟩) k cap) (n := k) ⟨hl, .inr ⟨g, cap, cur, rfl, by assumption⟩⟩ (g := g) rfl i (.iface 39 (.slice (A i) (L i) (cp i))) (by simp [hi])
    rw [WideShapes.add_plain] at this
    exact this

/-- how ZZAccount ends -/
def ZZPost (n : Nat) (mine : Int) (Y : Nat → Int) (w : World) (e : Ending) (w' : World) : Prop := ∃ g, e = .returned (.tuple #[.slice (some ⟨g, 0, .none⟩) n n, .int .i64 mine]) ∧ IntsAt w' (some ⟨g, 0, .none⟩) n Y ∧ Below w.heap.size w w'

set_option maxRecDepth 100000 in
set_option maxHeartbeats 4000000 in
theorem zz_nil (s n p : Nat) (pa : Option Addr) (pc : Nat) (a : Option Addr) (m hc : Nat) (A : Nat → Option Addr) (L cp : Nat → Nat) (P : Nat → Int) (X : Nat → Nat → Int) (fa : Option Addr) (fl fc : Nat) (w : World) (hP : IntsAt w pa (n * n) P) (hH : HeldAt w a m A L cp X)
    (hn1 : 1 ≤ n) (hn : n ≤ 1024) (hs : s < n) (hp : p < n) (hm : m ≤ 131072) (hL : ∀ i, i < m → L i = n ∨ L i = n * n) :
    Calls Try.prog 9 #[.int .i64 (s : Int), .int .i64 (n : Int), .slice pa (n * n) pc, .int .i64 (p : Int), .slice a m hc, .bool false, .slice fa fl fc] w fun e w' => ZZPost n (P (p * n + s)) (fun k => best (P (k * n + p)) (cand n s p L X k) m) w e w' := by
  obtain ⟨i, hi, hz0, hz1, hz2⟩ := info_parts Try.info52
  have ba : Below w.heap.size w (w.alloc (.cells #[.int .i64 (s : Int), .int .i64 (n : Int), .slice pa (n * n) pc, .slice .none 0 0, .int .i64 0, .int .i64 0, .int .i64 0, .int .i64 0, .slice .none 0 0, .slice .none 0 0, .slice .none 0 0, .slice .none 0 0] 46)) := Below.al (Below.refl _ _) _
  have hta : Track (w.alloc (.cells #[.int .i64 (s : Int), .int .i64 (n : Int), .slice pa (n * n) pc, .slice .none 0 0, .int .i64 0, .int .i64 0, .int .i64 0, .int .i64 0, .slice .none 0 0, .slice .none 0 0, .slice .none 0 0, .slice .none 0 0] 46)) w.heap.size s n pa (n * n) pc := ⟨by go_simp, by go_simp, by go_simp⟩
  have hPa := hP.kept ba (Nat.le_refl _)
  have hHa := hH.kept ba
  go_enter Try.func9, Try.ntmps9
  go_wp2
  generalize w.alloc (.cells #[.int .i64 (s : Int), .int .i64 (n : Int), .slice pa (n * n) pc, .slice .none 0 0, .int .i64 0, .int .i64 0, .int .i64 0, .int .i64 0, .slice .none 0 0, .slice .none 0 0, .slice .none 0 0, .slice .none 0 0] 46) = Wa at *
  go_loopw [17, 29] (fun hs i wr => ∃ k : Nat, k ≤ m ∧ i = .int .i64 k ∧ wr.ownsRow Wa.heap.size 52 1 hs k ((List.range k).map fun i => .iface 39 (.slice (A i) (L i) (cp i))) ∧ Below Wa.heap.size Wa wr) (fun _ i _ => m - (intOf i).toNat)
  case atStart => exact ⟨0, Nat.zero_le _, rfl, World.ownsRow_nil _ _ _ _, Below.refl _ _⟩
  case round =>
    obtain ⟨k, hk, rfl, hown, hbl⟩ := hrel
    rename World => W1
    rename_i hsv _
    have hs1 := hbl.size
    by_cases hlt : k < m
    · obtain ⟨⟨b, o, rfl, c0⟩, _⟩ := hHa k hlt
      have y0 := below_cell hbl c0 (cell_lt c0)
      have i0 : (k : Int) < m := by omega
      have HM : Hid _ := map_snoc (fun i => Value.iface 39 (.slice (A i) (L i) (cp i))) k
      go_wp2_with (first
        | (at_builtin; refine wpList_append_own _ rfl _ _ 47 rfl Wa.heap.size 52 i .nilIface 1 16 Try.underlying47 hi hz0 hz1 hz2 rfl (by decide) _ k _ rfl (hown.alloc _) ⟨W1.heap.size, 0, .none⟩ 1 1 [.iface 39 (.slice (A k) (L k) (cp k))] rfl rfl (cell_one_new _ _ _) (iface_oneCell _ _ _) (by unfold maxLen; omega) (by omega) (by simp; omega) ?_; intro v' w2 hown2 hg2 _)
        | go_in)
      go_roundw
      case rel =>
        refine ⟨k + 1, by omega, by go_num, ?_, (Below.al hbl _).grown hg2 (by simp; omega) (fun j hj => (hown.lt j hj).1)⟩
        rw [← HM.out]
        exact hown2
      case measure => simp [intOf]; omega
    · obtain rfl : k = m := by omega
      obtain ⟨da, dc, rfl, hD⟩ := owns_deps hown (fun i hi => (hHa i hi).2.kept hbl (Nat.le_refl _))
      have htD := hta.kept hbl
      have hPD := hPa.kept hbl (Nat.le_refl _)
      clear hown
      go_wp2_with fail
      go_fit (account_nil w.heap.size s n p pa pc da k dc A L cp P X W1 htD hPD hD hn1 hn hs hp hm hL)
      rintro e w3 ⟨g, rfl, hY, hb3⟩
      have hbF : Below w.heap.size w w3 := (ba.trans (hbl.mono ba.size)).trans (hb3.mono (Nat.le_trans ba.size hbl.size))
      go_wp2
      go_quiet (fail)
      go_wp2
      go_ret2
      exact ⟨g, rfl, hY.kept (Below.drewN (Below.al (Below.refl w3.heap.size w3) _) _) (Nat.le_refl _), Below.drewN (Below.al hbF _) _⟩

set_option maxRecDepth 100000 in
set_option maxHeartbeats 4000000 in
theorem zz_some (s n p : Nat) (pa : Option Addr) (pc : Nat) (a : Option Addr) (m hc : Nat) (A : Nat → Option Addr) (L cp : Nat → Nat) (P : Nat → Int) (X : Nat → Nat → Int) (b' o' fc : Nat) (F : Nat → Int) (w : World) (hP : IntsAt w pa (n * n) P) (hH : HeldAt w a m A L cp X)
    (hn1 : 1 ≤ n) (hn : n ≤ 1024) (hs : s < n) (hp : p < n) (hm : m ≤ 131072) (hL : ∀ i, i < m → L i = n ∨ L i = n * n) (hFi : IntsAt w (some ⟨b', o', .none⟩) (n * n) F) (hfc : n * n ≤ fc) :
    Calls Try.prog 9 #[.int .i64 (s : Int), .int .i64 (n : Int), .slice pa (n * n) pc, .int .i64 (p : Int), .slice a m hc, .bool true, .slice (some ⟨b', o', .none⟩) (n * n) fc] w fun e w' => ZZPost n (wrap64 (F (p * n + s) - 1)) (fun k => best (P (k * n + p)) (cand n s p L X k) m) w e w' := by
  obtain ⟨i, hi, hz0, hz1, hz2⟩ := info_parts Try.info52
  have ba : Below w.heap.size w (w.alloc (.cells #[.int .i64 (s : Int), .int .i64 (n : Int), .slice pa (n * n) pc, .slice .none 0 0, .int .i64 0, .int .i64 0, .int .i64 0, .int .i64 0, .slice .none 0 0, .slice .none 0 0, .slice .none 0 0, .slice .none 0 0] 46)) := Below.al (Below.refl _ _) _
  have hta : Track (w.alloc (.cells #[.int .i64 (s : Int), .int .i64 (n : Int), .slice pa (n * n) pc, .slice .none 0 0, .int .i64 0, .int .i64 0, .int .i64 0, .int .i64 0, .slice .none 0 0, .slice .none 0 0, .slice .none 0 0, .slice .none 0 0] 46)) w.heap.size s n pa (n * n) pc := ⟨by go_simp, by go_simp, by go_simp⟩
  have hPa := hP.kept ba (Nat.le_refl _)
  have hHa := hH.kept ba
  have hFa := hFi.kept ba (Nat.le_refl _)
  go_enter Try.func9, Try.ntmps9
  go_wp2
  generalize w.alloc (.cells #[.int .i64 (s : Int), .int .i64 (n : Int), .slice pa (n * n) pc, .slice .none 0 0, .int .i64 0, .int .i64 0, .int .i64 0, .int .i64 0, .slice .none 0 0, .slice .none 0 0, .slice .none 0 0, .slice .none 0 0] 46) = Wa at *
  go_loopw [17, 29] (fun hs i wr => ∃ k : Nat, k ≤ m ∧ i = .int .i64 k ∧ wr.ownsRow Wa.heap.size 52 1 hs k ((List.range k).map fun i => .iface 39 (.slice (A i) (L i) (cp i))) ∧ Below Wa.heap.size Wa wr) (fun _ i _ => m - (intOf i).toNat)
  case atStart => exact ⟨0, Nat.zero_le _, rfl, World.ownsRow_nil _ _ _ _, Below.refl _ _⟩
  case round =>
    obtain ⟨k, hk, rfl, hown, hbl⟩ := hrel
    rename World => W1
    rename_i hsv _
    have hs1 := hbl.size
    by_cases hlt : k < m
    · obtain ⟨⟨b, o, rfl, c0⟩, _⟩ := hHa k hlt
      have y0 := below_cell hbl c0 (cell_lt c0)
      have i0 : (k : Int) < m := by omega
      have HM : Hid _ := map_snoc (fun i => Value.iface 39 (.slice (A i) (L i) (cp i))) k
      go_wp2_with (first
        | (at_builtin; refine wpList_append_own _ rfl _ _ 47 rfl Wa.heap.size 52 i .nilIface 1 16 Try.underlying47 hi hz0 hz1 hz2 rfl (by decide) _ k _ rfl (hown.alloc _) ⟨W1.heap.size, 0, .none⟩ 1 1 [.iface 39 (.slice (A k) (L k) (cp k))] rfl rfl (cell_one_new _ _ _) (iface_oneCell _ _ _) (by unfold maxLen; omega) (by omega) (by simp; omega) ?_; intro v' w2 hown2 hg2 _)
        | go_in)
      go_roundw
      case rel =>
        refine ⟨k + 1, by omega, by go_num, ?_, (Below.al hbl _).grown hg2 (by simp; omega) (fun j hj => (hown.lt j hj).1)⟩
        rw [← HM.out]
        exact hown2
      case measure => simp [intOf]; omega
    · obtain rfl : k = m := by omega
      obtain ⟨da, dc, rfl, hD⟩ := owns_deps hown (fun i hi => (hHa i hi).2.kept hbl (Nat.le_refl _))
      have htD := hta.kept hbl
      have hPD := hPa.kept hbl (Nat.le_refl _)
      clear hown
      go_wp2_with fail
      have bf : Below W1.heap.size W1 (W1.alloc (.cells #[.int .i64 0, .int .i64 0, .int .i64 0, .string ByteArray.empty, .string ByteArray.empty, .bool false, .bool false, .slice .none 0 0, .bool false, .int .u64 0, .bool false, .nilIface, .iface 39 (.slice (some ⟨b', o', .none⟩) (n * n) fc), .int .i64 0, .pointer .none] 55)) := Below.al (Below.refl _ _) _
      have hF : (W1.alloc (.cells #[.int .i64 0, .int .i64 0, .int .i64 0, .string ByteArray.empty, .string ByteArray.empty, .bool false, .bool false, .slice .none 0 0, .bool false, .int .u64 0, .bool false, .nilIface, .iface 39 (.slice (some ⟨b', o', .none⟩) (n * n) fc), .int .i64 0, .pointer .none] 55)).cell? ⟨W1.heap.size, 12, .none⟩ = some (.iface 39 (.slice (some ⟨b', o', .none⟩) (n * n) fc)) := by go_simp
      go_fit (account_some w.heap.size s n p pa pc da k dc A L cp P X W1.heap.size b' o' fc F (W1.alloc (.cells #[.int .i64 0, .int .i64 0, .int .i64 0, .string ByteArray.empty, .string ByteArray.empty, .bool false, .bool false, .slice .none 0 0, .bool false, .int .u64 0, .bool false, .nilIface, .iface 39 (.slice (some ⟨b', o', .none⟩) (n * n) fc), .int .i64 0, .pointer .none] 55)) (htD.kept bf) (hPD.kept bf (Nat.le_refl _)) (hD.kept bf) hn1 hn hs hp hm hL hF ((hFa.kept hbl (Nat.le_refl _)).kept bf (Nat.le_refl _)) hfc)
      rintro e w3 ⟨g, rfl, hY, hb3⟩
      have hbF : Below w.heap.size w w3 := (ba.trans (hbl.mono ba.size)).trans ((bf.trans (hb3.mono bf.size)).mono (Nat.le_trans ba.size hbl.size))
      go_wp2
      go_quiet (fail)
      go_wp2
      go_ret2
      exact ⟨g, rfl, hY.kept (Below.drewN (Below.al (Below.refl w3.heap.size w3) _) _) (Nat.le_refl _), Below.drewN (Below.al hbF _) _⟩

end Go.Proofs.Qxb6612755a
