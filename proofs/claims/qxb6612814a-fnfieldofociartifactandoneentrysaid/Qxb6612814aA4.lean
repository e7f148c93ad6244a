/- The law FnFieldOfOCIArtifactAndOneEntry (4), walked. -/
import Derived.Test.Qxb6612814aA3
namespace Go.Proofs.Qxb6612814a
open Go.RowKit Go.Maps

def ociD (g : ByteArray) : DataW Unit := ((DataW.map []).put (kOf tyB) (dOf ociB)).put (kOf irB) (dOf g)
def oneD (k v : ByteArray) : DataW Unit := (DataW.map []).put (kOf k) (dOf v)
def numD (k : ByteArray) (n : Int) : DataW Unit := (DataW.map []).put (kOf k) (.lit (.int .i64 n))
theorem oci_ir (g : ByteArray) : (ociD g).atKey (kOf irB) .nil = dOf g := atKey_put_same (isMap_empty.put _ _) (kOf_key _) _ _
theorem oci_ty (g : ByteArray) : (ociD g).atKey (kOf tyB) .nil = dOf ociB := by
  unfold ociD
  rw [atKey_put_other (kOf_ne (by decide)), atKey_put_same isMap_empty (kOf_key _)]
theorem oci_lr (g : ByteArray) : (ociD g).atKey (kOf lrB) .nil = .nil := by
  unfold ociD
  rw [atKey_put_other (kOf_ne (by decide)), atKey_put_other (kOf_ne (by decide))]
  rfl
theorem oci_mt (g : ByteArray) : (ociD g).atKey (kOf mtB) .nil = .nil := by
  unfold ociD
  rw [atKey_put_other (kOf_ne (by decide)), atKey_put_other (kOf_ne (by decide))]
  rfl
theorem one_at (k v : ByteArray) : (oneD k v).atKey (kOf k) .nil = dOf v := atKey_put_same isMap_empty (kOf_key _) _ _
theorem one_off {k o : ByteArray} (v : ByteArray) (h : ¬ o = k) : (oneD k v).atKey (kOf o) .nil = .nil := by
  unfold oneD
  rw [atKey_put_other (kOf_ne h)]
  rfl
theorem num_at (k : ByteArray) (n : Int) : (numD k n).atKey (kOf k) .nil = .lit (.int .i64 n) := atKey_put_same isMap_empty (kOf_key _) _ _
theorem own_below {w w' : World} {b N : Nat} {D : DataW Unit} (h : w.ownsMap Try.prog 9 RA b N D) (hb : Below w.heap.size w w') : w'.ownsMap Try.prog 9 RA b N D := by
  have hl := h.lt
  obtain ⟨es, clock, e, rest⟩ := h
  exact ⟨es, clock, (hb.block b hl).trans e, rest⟩

set_option maxRecDepth 100000 in
set_option maxHeartbeats 1000000 in
theorem law4_same (g k v : ByteArray) (n : Int) (w : World) (h1 : g.size ≤ 262144) (h2 : k.size ≤ 262144) (h4 : v.size ≤ 262144) : Calls Try.prog 4 #[.string g, .string k, .string k, .string v, .int .i64 n] w fun e w' => e = .returned (.bool true) ∧ Below w.heap.size w w' := by
  have d1 : decide ((262144 : Int) < (g.size : Int)) = false := by simp; omega
  have d2 : decide ((262144 : Int) < (k.size : Int)) = false := by simp; omega
  have d4 : decide ((262144 : Int) < (v.size : Int)) = false := by simp; omega
  have cZ := zzBytes8_any g k k v n w (by unfold maxLen; omega) (by unfold maxLen; omega) (by unfold maxLen; omega) (by unfold maxLen; omega)
  have cO := oci_any g w (by unfold maxLen; omega)
  go_enter Try.func4, Try.ntmps4
  go_wp2_with (first
    | (go_at_call 8; go_fit cZ; rintro e w1 ⟨⟨q, rfl⟩, hw⟩; replace hw := hw.symm; subst hw)
    | (go_at_call 9; go_fit cO; rintro e w2 ⟨rfl, hown1, hb1⟩; have o1' : w2.ownsMap Try.prog 9 RA w.heap.size 2 (ociD g) := hown1; clear hown1)
    | (go_at_call 10; go_fit (one_any k v w2 (by unfold maxLen; omega) (by unfold maxLen; omega)); rintro e w3 ⟨rfl, hown2, hb2⟩; have o2' : w3.ownsMap Try.prog 9 RA w2.heap.size 1 (oneD k v) := hown2; clear hown2)
    | (go_at_call 11; go_fit (oneInt_any k n w3 (by unfold maxLen; omega)); rintro e w4 ⟨rfl, hown3, hb3⟩; have o3 : w4.ownsMap Try.prog 9 RA w3.heap.size 1 (numD k n) := hown3; clear hown3; have o2 := own_below o2' hb3; have o1 := own_below (own_below o1' hb2) hb3; have hbF : Below w.heap.size w w4 := (hb1.trans (hb2.mono hb1.size)).trans (hb3.mono (Nat.le_trans hb1.size hb2.size)))
    | (go_at_call 7; go_fit (zzfield_any w.heap.size 2 (ociD g) irB g w4 o1 (by unfold maxLen; decide) (.inl (oci_ir g))); rintro e w5 ⟨rfl, hw⟩; replace hw := hw.symm; subst hw)
    | (go_at_call 7; go_fit (zzfield_any w.heap.size 2 (ociD g) tyB ociB w4 o1 (by unfold maxLen; decide) (.inl (oci_ty g))); rintro e w5 ⟨rfl, hw⟩; replace hw := hw.symm; subst hw)
    | (go_at_call 7; go_fit (zzfield_any w.heap.size 2 (ociD g) lrB ByteArray.empty w4 o1 (by unfold maxLen; decide) (.inr ⟨rfl, .inl (oci_lr g)⟩)); rintro e w5 ⟨rfl, hw⟩; replace hw := hw.symm; subst hw)
    | (go_at_call 7; go_fit (zzfield_any w.heap.size 2 (ociD g) mtB ByteArray.empty w4 o1 (by unfold maxLen; decide) (.inr ⟨rfl, .inl (oci_mt g)⟩)); rintro e w5 ⟨rfl, hw⟩; replace hw := hw.symm; subst hw)
    | (go_at_call 7; go_fit (zzfield_any w2.heap.size 1 (oneD k v) k v w4 o2 (by unfold maxLen; omega) (.inl (one_at k v))); rintro e w5 ⟨rfl, hw⟩; replace hw := hw.symm; subst hw)
    | (go_at_call 7; go_fit (zzfield_any w3.heap.size 1 (numD k n) k ByteArray.empty w4 o3 (by unfold maxLen; omega) (.inr ⟨rfl, .inr ⟨n, num_at k n⟩⟩)); rintro e w5 ⟨rfl, hw⟩; replace hw := hw.symm; subst hw)
    | (go_at_call 7; go_fit (zzfield_nil k w4); rintro e w5 ⟨rfl, hw⟩; replace hw := hw.symm; subst hw))
  · go_ret; exact ⟨rfl, Below.refl _ _⟩
  · go_ret; exact ⟨rfl, hbF⟩

set_option maxRecDepth 100000 in
set_option maxHeartbeats 1000000 in
theorem law4_other (g k o v : ByteArray) (n : Int) (w : World) (h1 : g.size ≤ 262144) (h2 : k.size ≤ 262144) (h3 : o.size ≤ 262144) (ne : ¬ o = k) (h4 : v.size ≤ 262144) : Calls Try.prog 4 #[.string g, .string k, .string o, .string v, .int .i64 n] w fun e w' => e = .returned (.bool true) ∧ Below w.heap.size w w' := by
  have d1 : decide ((262144 : Int) < (g.size : Int)) = false := by simp; omega
  have d2 : decide ((262144 : Int) < (k.size : Int)) = false := by simp; omega
  have d4 : decide ((262144 : Int) < (v.size : Int)) = false := by simp; omega
  have d3 : decide ((262144 : Int) < (o.size : Int)) = false := by simp; omega
  have e3 : (o.toList == k.toList) = false := by rw [beq_eq_false_iff_ne]; intro e; rw [ByteArray.toList_eq, ByteArray.toList_eq] at e; apply ne; cases o; cases k; simp at e; rw [e]
  have cZ := zzBytes8_any g k o v n w (by unfold maxLen; omega) (by unfold maxLen; omega) (by unfold maxLen; omega) (by unfold maxLen; omega)
  have cO := oci_any g w (by unfold maxLen; omega)
  go_enter Try.func4, Try.ntmps4
  go_wp2_with (first
    | (go_at_call 8; go_fit cZ; rintro e w1 ⟨⟨q, rfl⟩, hw⟩; replace hw := hw.symm; subst hw)
    | (go_at_call 9; go_fit cO; rintro e w2 ⟨rfl, hown1, hb1⟩; have o1' : w2.ownsMap Try.prog 9 RA w.heap.size 2 (ociD g) := hown1; clear hown1)
    | (go_at_call 10; go_fit (one_any k v w2 (by unfold maxLen; omega) (by unfold maxLen; omega)); rintro e w3 ⟨rfl, hown2, hb2⟩; have o2' : w3.ownsMap Try.prog 9 RA w2.heap.size 1 (oneD k v) := hown2; clear hown2)
    | (go_at_call 11; go_fit (oneInt_any k n w3 (by unfold maxLen; omega)); rintro e w4 ⟨rfl, hown3, hb3⟩; have o3 : w4.ownsMap Try.prog 9 RA w3.heap.size 1 (numD k n) := hown3; clear hown3; have o2 := own_below o2' hb3; have o1 := own_below (own_below o1' hb2) hb3; have hbF : Below w.heap.size w w4 := (hb1.trans (hb2.mono hb1.size)).trans (hb3.mono (Nat.le_trans hb1.size hb2.size)))
    | (go_at_call 7; go_fit (zzfield_any w.heap.size 2 (ociD g) irB g w4 o1 (by unfold maxLen; decide) (.inl (oci_ir g))); rintro e w5 ⟨rfl, hw⟩; replace hw := hw.symm; subst hw)
    | (go_at_call 7; go_fit (zzfield_any w.heap.size 2 (ociD g) tyB ociB w4 o1 (by unfold maxLen; decide) (.inl (oci_ty g))); rintro e w5 ⟨rfl, hw⟩; replace hw := hw.symm; subst hw)
    | (go_at_call 7; go_fit (zzfield_any w.heap.size 2 (ociD g) lrB ByteArray.empty w4 o1 (by unfold maxLen; decide) (.inr ⟨rfl, .inl (oci_lr g)⟩)); rintro e w5 ⟨rfl, hw⟩; replace hw := hw.symm; subst hw)
    | (go_at_call 7; go_fit (zzfield_any w.heap.size 2 (ociD g) mtB ByteArray.empty w4 o1 (by unfold maxLen; decide) (.inr ⟨rfl, .inl (oci_mt g)⟩)); rintro e w5 ⟨rfl, hw⟩; replace hw := hw.symm; subst hw)
    | (go_at_call 7; go_fit (zzfield_any w2.heap.size 1 (oneD k v) k v w4 o2 (by unfold maxLen; omega) (.inl (one_at k v))); rintro e w5 ⟨rfl, hw⟩; replace hw := hw.symm; subst hw)
    | (go_at_call 7; go_fit (zzfield_any w2.heap.size 1 (oneD k v) o ByteArray.empty w4 o2 (by unfold maxLen; omega) (.inr ⟨rfl, .inl (one_off v ne)⟩)); rintro e w5 ⟨rfl, hw⟩; replace hw := hw.symm; subst hw)
    | (go_at_call 7; go_fit (zzfield_any w3.heap.size 1 (numD k n) k ByteArray.empty w4 o3 (by unfold maxLen; omega) (.inr ⟨rfl, .inr ⟨n, num_at k n⟩⟩)); rintro e w5 ⟨rfl, hw⟩; replace hw := hw.symm; subst hw)
    | (go_at_call 7; go_fit (zzfield_nil k w4); rintro e w5 ⟨rfl, hw⟩; replace hw := hw.symm; subst hw))
  · go_ret; exact ⟨rfl, Below.refl _ _⟩
  · go_ret; exact ⟨rfl, hbF⟩

set_option maxRecDepth 100000 in
set_option maxHeartbeats 1000000 in
theorem law4_out (g k o v : ByteArray) (n : Int) (w : World) (h1 : g.size ≤ maxLen) (h2 : k.size ≤ maxLen) (h3 : o.size ≤ maxLen) (h4 : v.size ≤ maxLen) (ho : 262144 < g.size ∨ 262144 < k.size ∨ 262144 < o.size ∨ 262144 < v.size) : Calls Try.prog 4 #[.string g, .string k, .string o, .string v, .int .i64 n] w fun e w' => e = .returned (.bool true) ∧ Below w.heap.size w w' := by
  have cZ := zzBytes8_any g k o v n w h1 h2 h3 h4
  by_cases g1 : 262144 < g.size
  · have d1 : decide ((262144 : Int) < (g.size : Int)) = true := by simp; omega
    go_enter Try.func4, Try.ntmps4
    go_wp2_with (first | (go_at_call 8; go_fit cZ; rintro e w1 ⟨⟨q, rfl⟩, hw⟩; replace hw := hw.symm; subst hw))
    all_goals (go_ret; exact ⟨rfl, Below.refl _ _⟩)
  have d1 : decide ((262144 : Int) < (g.size : Int)) = false := by simp; omega
  by_cases g2 : 262144 < k.size
  · have d2 : decide ((262144 : Int) < (k.size : Int)) = true := by simp; omega
    go_enter Try.func4, Try.ntmps4
    go_wp2_with (first | (go_at_call 8; go_fit cZ; rintro e w1 ⟨⟨q, rfl⟩, hw⟩; replace hw := hw.symm; subst hw))
    all_goals (go_ret; exact ⟨rfl, Below.refl _ _⟩)
  have d2 : decide ((262144 : Int) < (k.size : Int)) = false := by simp; omega
  by_cases g3 : 262144 < o.size
  · have d3 : decide ((262144 : Int) < (o.size : Int)) = true := by simp; omega
    go_enter Try.func4, Try.ntmps4
    go_wp2_with (first | (go_at_call 8; go_fit cZ; rintro e w1 ⟨⟨q, rfl⟩, hw⟩; replace hw := hw.symm; subst hw))
    all_goals (go_ret; exact ⟨rfl, Below.refl _ _⟩)
  have d3 : decide ((262144 : Int) < (o.size : Int)) = false := by simp; omega
  have d4 : decide ((262144 : Int) < (v.size : Int)) = true := by simp; omega
  go_enter Try.func4, Try.ntmps4
  go_wp2_with (first | (go_at_call 8; go_fit cZ; rintro e w1 ⟨⟨q, rfl⟩, hw⟩; replace hw := hw.symm; subst hw))
  all_goals (go_ret; exact ⟨rfl, Below.refl _ _⟩)

theorem law4_walk (g k o v : ByteArray) (n : Int) (w : World) (h1 : g.size ≤ maxLen) (h2 : k.size ≤ maxLen) (h3 : o.size ≤ maxLen) (h4 : v.size ≤ maxLen) : Calls Try.prog 4 #[.string g, .string k, .string o, .string v, .int .i64 n] w fun e w' => e = .returned (.bool true) ∧ Below w.heap.size w w' := by
  by_cases ho : 262144 < g.size ∨ 262144 < k.size ∨ 262144 < o.size ∨ 262144 < v.size
  · exact law4_out g k o v n w h1 h2 h3 h4 ho
  by_cases ne : o = k
  · subst ne; exact law4_same g o v n w (by omega) (by omega) (by omega)
  · exact law4_other g k o v n w (by omega) (by omega) (by omega) ne (by omega)
end Go.Proofs.Qxb6612814a
