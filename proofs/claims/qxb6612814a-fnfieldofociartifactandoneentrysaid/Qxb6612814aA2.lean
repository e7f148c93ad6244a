/- The makers of accesses (6, 9, 10, 11), the size guards (5, 8). -/
import Derived.Test.Qxb6612814aA1
namespace Go.Proofs.Qxb6612814a
open Go.RowKit Go.Maps

theorem Below.al {w w' : World} (h : Below w.heap.size w w') (o : Obj) : Below w.heap.size w (w'.alloc o) := h.alloc h.size o
theorem below_grown {w w1 w2 : World} {g : Nat} (hb : Below w.heap.size w w1) (hg : w1.grownBy w2 (some g)) (hl : w.heap.size ≤ g) : Below w.heap.size w w2 := hb.grown hg hb.size (fun k hk => by cases hk; exact hl)
def SaysBool (e : Ending) : Prop := ∃ b, e = .returned (.bool b)
/-- a maker's ending: a map of the call's own that reads as D -/
def MakesMap (N : Nat) (D : DataW Unit) (w : World) (e : Ending) (w' : World) : Prop := e = .returned (.map (some w.heap.size)) ∧ w'.ownsMap Try.prog 9 RA w.heap.size N D ∧ Below w.heap.size w w'

abbrev tyB : ByteArray := ⟨#[116, 121, 112, 101]⟩
abbrev lrB : ByteArray := ⟨#[108, 111, 99, 97, 108, 82, 101, 102, 101, 114, 101, 110, 99, 101]⟩
abbrev mtB : ByteArray := ⟨#[109, 101, 100, 105, 97, 84, 121, 112, 101]⟩
abbrev irB : ByteArray := ⟨#[105, 109, 97, 103, 101, 82, 101, 102, 101, 114, 101, 110, 99, 101]⟩
abbrev lbB : ByteArray := ⟨#[108, 111, 99, 97, 108, 66, 108, 111, 98]⟩
abbrev ociB : ByteArray := ⟨#[79, 67, 73, 65, 114, 116, 105, 102, 97, 99, 116, 47, 118, 49]⟩

set_option maxRecDepth 100000 in
theorem localBlob_any (g t : ByteArray) (w : World) (h1 : g.size ≤ maxLen) (h2 : t.size ≤ maxLen) :
    Calls Try.prog 6 #[.string g, .string t] w fun e w' => MakesMap 3 ((((DataW.map []).put (kOf tyB) (dOf lbB)).put (kOf lrB) (dOf g)).put (kOf mtB) (dOf t)) w e w' := by
  have hmm := @run_makeMap Try.prog
  go_enter Try.func6, Try.ntmps6
  go_wp2_with (first
    | (refine wpList_insert_own _ rfl _ _ _ 24 rfl 9 20 law9 Try.underlying24 RA w.heap.size 0 _ rfl (World.ownsMap_made w Try.prog 9 RA) (by unfold maxLen; omega) _ _ _ rfl rfl (key9 (by unfold maxLen; decide)) _ [] (RA_mk (by unfold maxLen; decide)) ?_; intro w1 hown1 hg1; have hb1 := below_grown (Below.al (Below.refl w.heap.size w) _) hg1 (Nat.le_refl _))
    | (refine wpList_insert_own _ rfl _ _ _ 24 rfl 9 20 law9 Try.underlying24 RA w.heap.size 1 _ rfl hown1 (by unfold maxLen; omega) _ _ _ rfl rfl (key9 (by unfold maxLen; decide)) _ [] (RA_mk h1) ?_; intro w2 hown2 hg2; have hb2 := below_grown hb1 hg2 (Nat.le_refl _))
    | (refine wpList_insert_own _ rfl _ _ _ 24 rfl 9 20 law9 Try.underlying24 RA w.heap.size 2 _ rfl hown2 (by unfold maxLen; omega) _ _ _ rfl rfl (key9 (by unfold maxLen; decide)) _ [] (RA_mk h2) ?_; intro w3 hown3 hg3; have hb3 := below_grown hb2 hg3 (Nat.le_refl _)))
  go_ret
  exact ⟨rfl, hown3, hb3⟩

set_option maxRecDepth 100000 in
theorem oci_any (g : ByteArray) (w : World) (h1 : g.size ≤ maxLen) :
    Calls Try.prog 9 #[.string g] w fun e w' => MakesMap 2 (((DataW.map []).put (kOf tyB) (dOf ociB)).put (kOf irB) (dOf g)) w e w' := by
  have hmm := @run_makeMap Try.prog
  go_enter Try.func9, Try.ntmps9
  go_wp2_with (first
    | (refine wpList_insert_own _ rfl _ _ _ 24 rfl 9 20 law9 Try.underlying24 RA w.heap.size 0 _ rfl (World.ownsMap_made w Try.prog 9 RA) (by unfold maxLen; omega) _ _ _ rfl rfl (key9 (by unfold maxLen; decide)) _ [] (RA_mk (by unfold maxLen; decide)) ?_; intro w1 hown1 hg1; have hb1 := below_grown (Below.al (Below.refl w.heap.size w) _) hg1 (Nat.le_refl _))
    | (refine wpList_insert_own _ rfl _ _ _ 24 rfl 9 20 law9 Try.underlying24 RA w.heap.size 1 _ rfl hown1 (by unfold maxLen; omega) _ _ _ rfl rfl (key9 (by unfold maxLen; decide)) _ [] (RA_mk h1) ?_; intro w2 hown2 hg2; have hb2 := below_grown hb1 hg2 (Nat.le_refl _)))
  go_ret
  exact ⟨rfl, hown2, hb2⟩

set_option maxRecDepth 100000 in
theorem one_any (k v : ByteArray) (w : World) (h1 : k.size ≤ maxLen) (h2 : v.size ≤ maxLen) :
    Calls Try.prog 10 #[.string k, .string v] w fun e w' => MakesMap 1 ((DataW.map []).put (kOf k) (dOf v)) w e w' := by
  have hmm := @run_makeMap Try.prog
  go_enter Try.func10, Try.ntmps10
  go_wp2_with (first
    | (refine wpList_insert_own _ rfl _ _ _ 24 rfl 9 20 law9 Try.underlying24 RA w.heap.size 0 _ rfl (World.ownsMap_made w Try.prog 9 RA) (by unfold maxLen; omega) _ _ _ rfl rfl (key9 h1) _ [] (RA_mk h2) ?_; intro w1 hown1 hg1; have hb1 := below_grown (Below.al (Below.refl w.heap.size w) _) hg1 (Nat.le_refl _)))
  go_ret
  exact ⟨rfl, hown1, hb1⟩

set_option maxRecDepth 100000 in
theorem oneInt_any (k : ByteArray) (n : Int) (w : World) (h1 : k.size ≤ maxLen) :
    Calls Try.prog 11 #[.string k, .int .i64 n] w fun e w' => MakesMap 1 ((DataW.map []).put (kOf k) (.lit (.int .i64 n))) w e w' := by
  have hmm := @run_makeMap Try.prog
  go_enter Try.func11, Try.ntmps11
  go_wp2_with (first
    | (refine wpList_insert_own _ rfl _ _ _ 24 rfl 9 20 law9 Try.underlying24 RA w.heap.size 0 _ rfl (World.ownsMap_made w Try.prog 9 RA) (by unfold maxLen; omega) _ _ _ rfl rfl (key9 h1) _ [] (RA_int n) ?_; intro w1 hown1 hg1; have hb1 := below_grown (Below.al (Below.refl w.heap.size w) _) hg1 (Nat.le_refl _)))
  go_ret
  exact ⟨rfl, hown1, hb1⟩

set_option maxRecDepth 100000 in
theorem zzBytes5_any (a b c : ByteArray) (w : World) (h1 : a.size ≤ maxLen) (h2 : b.size ≤ maxLen) (h3 : c.size ≤ maxLen) : Calls Try.prog 5 #[.string a, .string b, .string c] w fun e w' => SaysBool e ∧ w' = w := by
  unfold maxLen at h1 h2 h3
  go_enter Try.func5, Try.ntmps5
  go_wp2
  all_goals (go_ret; exact ⟨⟨_, rfl⟩, rfl⟩)
set_option maxRecDepth 100000 in
theorem zzBytes8_any (a b c d : ByteArray) (n : Int) (w : World) (h1 : a.size ≤ maxLen) (h2 : b.size ≤ maxLen) (h3 : c.size ≤ maxLen) (h4 : d.size ≤ maxLen) : Calls Try.prog 8 #[.string a, .string b, .string c, .string d, .int .i64 n] w fun e w' => SaysBool e ∧ w' = w := by
  unfold maxLen at h1 h2 h3 h4
  go_enter Try.func8, Try.ntmps8
  go_wp2
  all_goals (go_ret; exact ⟨⟨_, rfl⟩, rfl⟩)
end Go.Proofs.Qxb6612814a
