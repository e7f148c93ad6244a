/- The law FnFieldOfLocalBlob (3), walked. -/
import Derived.Test.Qxb6612814aA2
namespace Go.Proofs.Qxb6612814a
open Go.RowKit Go.Maps

theorem ne_toList {s : ByteArray} {l : List UInt8} (h : ¬ s = ⟨l.toArray⟩) : (s.toList == l) = false := by
  rw [beq_eq_false_iff_ne]
  intro e
  rw [ByteArray.toList_eq] at e
  apply h
  subst e
  cases s
  rfl

/-- what LocalBlob(g, t) reads as -/
def lbD (g t : ByteArray) : DataW Unit := (((DataW.map []).put (kOf tyB) (dOf lbB)).put (kOf lrB) (dOf g)).put (kOf mtB) (dOf t)
theorem lb_mt (g t : ByteArray) : (lbD g t).atKey (kOf mtB) .nil = dOf t := atKey_put_same ((isMap_empty.put _ _).put _ _) (kOf_key _) _ _
theorem lb_lr (g t : ByteArray) : (lbD g t).atKey (kOf lrB) .nil = dOf g := by
  unfold lbD
  rw [atKey_put_other (kOf_ne (by decide)), atKey_put_same (isMap_empty.put _ _) (kOf_key _)]
theorem lb_ty (g t : ByteArray) : (lbD g t).atKey (kOf tyB) .nil = dOf lbB := by
  unfold lbD
  rw [atKey_put_other (kOf_ne (by decide)), atKey_put_other (kOf_ne (by decide)), atKey_put_same isMap_empty (kOf_key _)]
theorem lb_other (g t : ByteArray) {name : ByteArray} (h1 : ¬ name = tyB) (h2 : ¬ name = lrB) (h3 : ¬ name = mtB) : (lbD g t).atKey (kOf name) .nil = .nil := by
  unfold lbD
  rw [atKey_put_other (kOf_ne h3), atKey_put_other (kOf_ne h2), atKey_put_other (kOf_ne h1)]
  rfl

set_option maxRecDepth 100000 in
set_option maxHeartbeats 1000000 in
theorem law3_ty (g t : ByteArray) (w : World) (h1 : g.size ≤ 262144) (h2 : t.size ≤ 262144) : Calls Try.prog 3 #[.string g, .string t, .string tyB] w fun e w' => e = .returned (.bool true) ∧ Below w.heap.size w w' := by
  have d1 : decide ((262144 : Int) < (g.size : Int)) = false := by simp; omega
  have d2 : decide ((262144 : Int) < (t.size : Int)) = false := by simp; omega
  have cZ := zzBytes5_any g t tyB w (by unfold maxLen; omega) (by unfold maxLen; omega) (by unfold maxLen; decide)
  have cM := localBlob_any g t w (by unfold maxLen; omega) (by unfold maxLen; omega)
  go_enter Try.func3, Try.ntmps3
  go_wp2_with (first
    | (go_at_call 5; go_fit cZ; rintro e w1 ⟨⟨q, rfl⟩, hw⟩; replace hw := hw.symm; subst hw)
    | (go_at_call 6; go_fit cM; rintro e w2 ⟨rfl, hown, hb⟩; have hown' : w2.ownsMap Try.prog 9 RA w.heap.size 3 (lbD g t) := hown; clear hown)
    | (go_at_call 7; go_fit (zzfield_any w.heap.size 3 (lbD g t) tyB lbB w2 hown' (by unfold maxLen; decide) (.inl (lb_ty g t))); rintro e w3 ⟨rfl, hw⟩; replace hw := hw.symm; subst hw)
    | (go_at_call 7; go_fit (zzfield_any w.heap.size 3 (lbD g t) lrB g w2 hown' (by unfold maxLen; decide) (.inl (lb_lr g t))); rintro e w3 ⟨rfl, hw⟩; replace hw := hw.symm; subst hw)
    | (go_at_call 7; go_fit (zzfield_any w.heap.size 3 (lbD g t) mtB t w2 hown' (by unfold maxLen; decide) (.inl (lb_mt g t))); rintro e w3 ⟨rfl, hw⟩; replace hw := hw.symm; subst hw)
    | (go_at_call 7; go_fit (zzfield_any w.heap.size 3 (lbD g t) tyB lbB w2 hown' (by unfold maxLen; decide) (.inl (lb_ty g t))); rintro e w3 ⟨rfl, hw⟩; replace hw := hw.symm; subst hw))
  · go_ret; exact ⟨rfl, Below.refl _ _⟩
  · go_ret; exact ⟨rfl, hb⟩

set_option maxRecDepth 100000 in
set_option maxHeartbeats 1000000 in
theorem law3_lr (g t : ByteArray) (w : World) (h1 : g.size ≤ 262144) (h2 : t.size ≤ 262144) : Calls Try.prog 3 #[.string g, .string t, .string lrB] w fun e w' => e = .returned (.bool true) ∧ Below w.heap.size w w' := by
  have d1 : decide ((262144 : Int) < (g.size : Int)) = false := by simp; omega
  have d2 : decide ((262144 : Int) < (t.size : Int)) = false := by simp; omega
  have cZ := zzBytes5_any g t lrB w (by unfold maxLen; omega) (by unfold maxLen; omega) (by unfold maxLen; decide)
  have cM := localBlob_any g t w (by unfold maxLen; omega) (by unfold maxLen; omega)
  go_enter Try.func3, Try.ntmps3
  go_wp2_with (first
    | (go_at_call 5; go_fit cZ; rintro e w1 ⟨⟨q, rfl⟩, hw⟩; replace hw := hw.symm; subst hw)
    | (go_at_call 6; go_fit cM; rintro e w2 ⟨rfl, hown, hb⟩; have hown' : w2.ownsMap Try.prog 9 RA w.heap.size 3 (lbD g t) := hown; clear hown)
    | (go_at_call 7; go_fit (zzfield_any w.heap.size 3 (lbD g t) lrB g w2 hown' (by unfold maxLen; decide) (.inl (lb_lr g t))); rintro e w3 ⟨rfl, hw⟩; replace hw := hw.symm; subst hw)
    | (go_at_call 7; go_fit (zzfield_any w.heap.size 3 (lbD g t) lrB g w2 hown' (by unfold maxLen; decide) (.inl (lb_lr g t))); rintro e w3 ⟨rfl, hw⟩; replace hw := hw.symm; subst hw)
    | (go_at_call 7; go_fit (zzfield_any w.heap.size 3 (lbD g t) mtB t w2 hown' (by unfold maxLen; decide) (.inl (lb_mt g t))); rintro e w3 ⟨rfl, hw⟩; replace hw := hw.symm; subst hw)
    | (go_at_call 7; go_fit (zzfield_any w.heap.size 3 (lbD g t) tyB lbB w2 hown' (by unfold maxLen; decide) (.inl (lb_ty g t))); rintro e w3 ⟨rfl, hw⟩; replace hw := hw.symm; subst hw))
  · go_ret; exact ⟨rfl, Below.refl _ _⟩
  · go_ret; exact ⟨rfl, hb⟩

set_option maxRecDepth 100000 in
set_option maxHeartbeats 1000000 in
theorem law3_mt (g t : ByteArray) (w : World) (h1 : g.size ≤ 262144) (h2 : t.size ≤ 262144) : Calls Try.prog 3 #[.string g, .string t, .string mtB] w fun e w' => e = .returned (.bool true) ∧ Below w.heap.size w w' := by
  have d1 : decide ((262144 : Int) < (g.size : Int)) = false := by simp; omega
  have d2 : decide ((262144 : Int) < (t.size : Int)) = false := by simp; omega
  have cZ := zzBytes5_any g t mtB w (by unfold maxLen; omega) (by unfold maxLen; omega) (by unfold maxLen; decide)
  have cM := localBlob_any g t w (by unfold maxLen; omega) (by unfold maxLen; omega)
  go_enter Try.func3, Try.ntmps3
  go_wp2_with (first
    | (go_at_call 5; go_fit cZ; rintro e w1 ⟨⟨q, rfl⟩, hw⟩; replace hw := hw.symm; subst hw)
    | (go_at_call 6; go_fit cM; rintro e w2 ⟨rfl, hown, hb⟩; have hown' : w2.ownsMap Try.prog 9 RA w.heap.size 3 (lbD g t) := hown; clear hown)
    | (go_at_call 7; go_fit (zzfield_any w.heap.size 3 (lbD g t) mtB t w2 hown' (by unfold maxLen; decide) (.inl (lb_mt g t))); rintro e w3 ⟨rfl, hw⟩; replace hw := hw.symm; subst hw)
    | (go_at_call 7; go_fit (zzfield_any w.heap.size 3 (lbD g t) lrB g w2 hown' (by unfold maxLen; decide) (.inl (lb_lr g t))); rintro e w3 ⟨rfl, hw⟩; replace hw := hw.symm; subst hw)
    | (go_at_call 7; go_fit (zzfield_any w.heap.size 3 (lbD g t) mtB t w2 hown' (by unfold maxLen; decide) (.inl (lb_mt g t))); rintro e w3 ⟨rfl, hw⟩; replace hw := hw.symm; subst hw)
    | (go_at_call 7; go_fit (zzfield_any w.heap.size 3 (lbD g t) tyB lbB w2 hown' (by unfold maxLen; decide) (.inl (lb_ty g t))); rintro e w3 ⟨rfl, hw⟩; replace hw := hw.symm; subst hw))
  · go_ret; exact ⟨rfl, Below.refl _ _⟩
  · go_ret; exact ⟨rfl, hb⟩

set_option maxRecDepth 100000 in
set_option maxHeartbeats 1000000 in
theorem law3_other (g t name : ByteArray) (w : World) (h1 : g.size ≤ 262144) (h2 : t.size ≤ 262144) (h3 : name.size ≤ 262144) (n1 : ¬ name = tyB) (n2 : ¬ name = lrB) (n3 : ¬ name = mtB) : Calls Try.prog 3 #[.string g, .string t, .string name] w fun e w' => e = .returned (.bool true) ∧ Below w.heap.size w w' := by
  have d1 : decide ((262144 : Int) < (g.size : Int)) = false := by simp; omega
  have d2 : decide ((262144 : Int) < (t.size : Int)) = false := by simp; omega
  have d3 : decide ((262144 : Int) < (name.size : Int)) = false := by simp; omega
  have e1 : (name.toList == [116, 121, 112, 101]) = false := ne_toList n1
  have e2 : (name.toList == [108, 111, 99, 97, 108, 82, 101, 102, 101, 114, 101, 110, 99, 101]) = false := ne_toList n2
  have e3 : (name.toList == [109, 101, 100, 105, 97, 84, 121, 112, 101]) = false := ne_toList n3
  have cZ := zzBytes5_any g t name w (by unfold maxLen; omega) (by unfold maxLen; omega) (by unfold maxLen; omega)
  have cM := localBlob_any g t w (by unfold maxLen; omega) (by unfold maxLen; omega)
  go_enter Try.func3, Try.ntmps3
  go_wp2_with (first
    | (go_at_call 5; go_fit cZ; rintro e w1 ⟨⟨q, rfl⟩, hw⟩; replace hw := hw.symm; subst hw)
    | (go_at_call 6; go_fit cM; rintro e w2 ⟨rfl, hown, hb⟩; have hown' : w2.ownsMap Try.prog 9 RA w.heap.size 3 (lbD g t) := hown; clear hown)
    | (go_at_call 7; go_fit (zzfield_any w.heap.size 3 (lbD g t) name ByteArray.empty w2 hown' (by unfold maxLen; omega) (.inr ⟨rfl, .inl (lb_other g t n1 n2 n3)⟩)); rintro e w3 ⟨rfl, hw⟩; replace hw := hw.symm; subst hw)
    | (go_at_call 7; go_fit (zzfield_any w.heap.size 3 (lbD g t) lrB g w2 hown' (by unfold maxLen; decide) (.inl (lb_lr g t))); rintro e w3 ⟨rfl, hw⟩; replace hw := hw.symm; subst hw)
    | (go_at_call 7; go_fit (zzfield_any w.heap.size 3 (lbD g t) mtB t w2 hown' (by unfold maxLen; decide) (.inl (lb_mt g t))); rintro e w3 ⟨rfl, hw⟩; replace hw := hw.symm; subst hw)
    | (go_at_call 7; go_fit (zzfield_any w.heap.size 3 (lbD g t) tyB lbB w2 hown' (by unfold maxLen; decide) (.inl (lb_ty g t))); rintro e w3 ⟨rfl, hw⟩; replace hw := hw.symm; subst hw))
  · go_ret; exact ⟨rfl, Below.refl _ _⟩
  · go_ret; exact ⟨rfl, hb⟩

set_option maxRecDepth 100000 in
set_option maxHeartbeats 1000000 in
theorem law3_out (g t name : ByteArray) (w : World) (h1 : g.size ≤ maxLen) (h2 : t.size ≤ maxLen) (h3 : name.size ≤ maxLen) (ho : 262144 < g.size ∨ 262144 < t.size ∨ 262144 < name.size) : Calls Try.prog 3 #[.string g, .string t, .string name] w fun e w' => e = .returned (.bool true) ∧ Below w.heap.size w w' := by
  have cZ := zzBytes5_any g t name w h1 h2 h3
  by_cases g1 : 262144 < g.size
  · have d1 : decide ((262144 : Int) < (g.size : Int)) = true := by simp; omega
    go_enter Try.func3, Try.ntmps3
    go_wp2_with (first | (go_at_call 5; go_fit cZ; rintro e w1 ⟨⟨q, rfl⟩, hw⟩; replace hw := hw.symm; subst hw))
    all_goals (go_ret; exact ⟨rfl, Below.refl _ _⟩)
  have d1 : decide ((262144 : Int) < (g.size : Int)) = false := by simp; omega
  by_cases g2 : 262144 < t.size
  · have d2 : decide ((262144 : Int) < (t.size : Int)) = true := by simp; omega
    go_enter Try.func3, Try.ntmps3
    go_wp2_with (first | (go_at_call 5; go_fit cZ; rintro e w1 ⟨⟨q, rfl⟩, hw⟩; replace hw := hw.symm; subst hw))
    all_goals (go_ret; exact ⟨rfl, Below.refl _ _⟩)
  have d2 : decide ((262144 : Int) < (t.size : Int)) = false := by simp; omega
  have d3 : decide ((262144 : Int) < (name.size : Int)) = true := by simp; omega
  go_enter Try.func3, Try.ntmps3
  go_wp2_with (first | (go_at_call 5; go_fit cZ; rintro e w1 ⟨⟨q, rfl⟩, hw⟩; replace hw := hw.symm; subst hw))
  all_goals (go_ret; exact ⟨rfl, Below.refl _ _⟩)

theorem law3_walk (g t name : ByteArray) (w : World) (h1 : g.size ≤ maxLen) (h2 : t.size ≤ maxLen) (h3 : name.size ≤ maxLen) : Calls Try.prog 3 #[.string g, .string t, .string name] w fun e w' => e = .returned (.bool true) ∧ Below w.heap.size w w' := by
  by_cases ho : 262144 < g.size ∨ 262144 < t.size ∨ 262144 < name.size
  · exact law3_out g t name w h1 h2 h3 ho
  by_cases n1 : name = tyB
  · subst n1; exact law3_ty g t w (by omega) (by omega)
  by_cases n2 : name = lrB
  · subst n2; exact law3_lr g t w (by omega) (by omega)
  by_cases n3 : name = mtB
  · subst n3; exact law3_mt g t w (by omega) (by omega)
  exact law3_other g t name w (by omega) (by omega) (by omega) n1 n2 n3
end Go.Proofs.Qxb6612814a
