/- The plain mathematics of maps as read: what stands at each key behind a fold of stores, and behind a merge. -/
import Derived.Test.Qxb6612575aW2
import Derived.Lib.SlMapMerge
namespace Go.Proofs.Qxb6612575a
open Go.RowKit Go.Maps

def kOf (s : ByteArray) : Lit := .string s.data.toList
def dOf (s : ByteArray) : DataW Unit := .lit (.string s.data.toList)

theorem kOf_key (s : ByteArray) : WideAt.IsKeyLit (kOf s) := trivial
theorem dOf_inj {s t : ByteArray} (h : dOf s = dOf t) : s = t := by
  unfold dOf at h
  have h1 : s.data.toList = t.data.toList := by
    injection h with h
    injection h
  cases s; cases t
  simp at h1
  subst h1; rfl

/-- what stands at a key -/
def look (D : DataW Unit) (k : Lit) : Option (DataW Unit) := if has D k = true then some (D.atKey k .nil) else none

theorem look_empty (k : Lit) : look (.map []) k = none := rfl
theorem look_some {D : DataW Unit} {k : Lit} (h : has D k = true) : look D k = some (D.atKey k .nil) := by simp [look, h]
theorem look_none {D : DataW Unit} {k : Lit} (h : has D k = false) : look D k = none := by simp [look, h]
theorem has_of_look {D : DataW Unit} {k : Lit} {d : DataW Unit} (h : look D k = some d) : has D k = true := by
  unfold look at h; split at h
  · assumption
  · cases h
theorem look_put_same {D : DataW Unit} {k : Lit} (hD : IsMap D) (hk : WideAt.IsKeyLit k) (d : DataW Unit) : look (D.put k d) k = some d := by
  rw [look_some (has_put_same hD hk d), atKey_put_same hD hk]
theorem look_put_other {D : DataW Unit} {k k' : Lit} (hne : k' ≠ k) (d : DataW Unit) : look (D.put k d) k' = look D k' := by
  unfold look; rw [has_put_other hne, atKey_put_other hne]

/-- where the key is there the default does not matter -/
theorem atKey_any {D : DataW Unit} {k : Lit} (h : has D k = true) (z z' : DataW Unit) : D.atKey k z = D.atKey k z' := by
  cases D <;> try (cases h; done)
  rename_i es
  obtain ⟨p, hp, hpk⟩ := List.any_eq_true.1 h
  have hs : (es.find? (fun p => p.1.sameKey k)).isSome = true := List.find?_isSome.2 ⟨p, hp, hpk⟩
  obtain ⟨x, hx⟩ := Option.isSome_iff_exists.1 hs
  simp [DataW.atKey, hx]

theorem atKey_of_look {D : DataW Unit} {k : Lit} {d : DataW Unit} (h : look D k = some d) (z : DataW Unit) : D.atKey k z = d := by
  have hh := has_of_look h
  rw [look_some hh] at h
  rw [atKey_any hh z .nil]
  exact Option.some.inj h

theorem ext_look {D₁ D₂ : DataW Unit} (c₁ : Canon D₁) (c₂ : Canon D₂) (h : ∀ k, look D₁ k = look D₂ k) : D₁ = D₂ := by
  refine ext c₁ c₂ (fun k => ?_) (fun k z hk => ?_)
  · have := h k
    unfold look at this
    cases h1 : has D₁ k <;> cases h2 : has D₂ k <;> simp [h1, h2] at this ⊢
  · have e := h k
    rw [look_some hk] at e
    rw [atKey_any hk z .nil, atKey_of_look e.symm z]

/-! ### folds of stores -/
def putN (D : DataW Unit) (s t : Nat → ByteArray) : Nat → DataW Unit
  | 0 => D
  | k + 1 => (putN D s t k).put (kOf (s k)) (dOf (t k))
def oneN (x : Nm) : DataW Unit := putN (.map []) x.s x.t x.n
def allN (f : Nat → Nm) : Nat → DataW Unit
  | 0 => .map []
  | i + 1 => putN (allN f i) (f i).s (f i).t (f i).n

theorem isMap_putN {D : DataW Unit} (h : IsMap D) (s t : Nat → ByteArray) : ∀ n, IsMap (putN D s t n)
  | 0 => h
  | k + 1 => (isMap_putN h s t k).put _ _
theorem isMap_allN (f : Nat → Nm) : ∀ n, IsMap (allN f n)
  | 0 => isMap_empty
  | i + 1 => isMap_putN (isMap_allN f i) _ _ _

def Str (l : Lit) : Prop := ∃ s, l = .string s
theorem oneStr : OneKind Str := ⟨fun ⟨_, h⟩ => by subst h; trivial, fun ha hb hne => ChangeMaps.before_total ha hb hne⟩
theorem canon_putN {D : DataW Unit} (h : CanonK Str D) (s t : Nat → ByteArray) : ∀ n, CanonK Str (putN D s t n)
  | 0 => h
  | k + 1 => canonK_put oneStr ⟨_, rfl⟩ _ (canon_putN h s t k)
theorem canon_empty' : CanonK Str (.map [] : DataW Unit) := ⟨[], rfl, List.Pairwise.nil, fun p hp => by simp at hp⟩
theorem canon_allN (f : Nat → Nm) : ∀ n, CanonK Str (allN f n)
  | 0 => canon_empty'
  | i + 1 => canon_putN (canon_allN f i) _ _ _

theorem look_putN {D : DataW Unit} (h : IsMap D) (s t : Nat → ByteArray) (k : Lit) : ∀ n, look (putN D s t n) k = (look (putN (.map []) s t n) k).or (look D k)
  | 0 => by simp [putN, look_empty]
  | n + 1 => by
    simp only [putN]
    by_cases e : k = kOf (s n)
    · subst e
      rw [look_put_same (isMap_putN h s t n) (kOf_key _), look_put_same (isMap_putN isMap_empty s t n) (kOf_key _)]; rfl
    · rw [look_put_other e, look_put_other e, look_putN h s t k n]

/-- what stands at a key behind n merges, later ones winning -/
def foldLook (g : Nat → DataW Unit) (k : Lit) : Nat → Option (DataW Unit)
  | 0 => none
  | i + 1 => (look (g i) k).or (foldLook g k i)

theorem look_allN (f : Nat → Nm) (k : Lit) : ∀ n, look (allN f n) k = foldLook (fun i => oneN (f i)) k n
  | 0 => rfl
  | i + 1 => by
    simp only [allN, foldLook]
    rw [look_putN (isMap_allN f i), look_allN f k i]; rfl

theorem foldLook_congr {g g' : Nat → DataW Unit} {k : Lit} : ∀ n, (∀ i, i < n → g i = g' i) → foldLook g k n = foldLook g' k n
  | 0, _ => rfl
  | i + 1, h => by simp only [foldLook]; rw [h i (by omega), foldLook_congr i (fun j hj => h j (by omega))]

theorem foldLook_add (g : Nat → DataW Unit) (k : Lit) (c : Nat) : ∀ d, foldLook g k (c + d) = (foldLook (fun i => g (c + i)) k d).or (foldLook g k c)
  | 0 => by simp [foldLook]
  | d + 1 => by
    show (look (g (c + d)) k).or (foldLook g k (c + d)) = _
    rw [foldLook_add g k c d]
    simp only [foldLook]
    rw [Option.or_assoc]

/-- the union of the two parts' unions holds what the whole holds -/
theorem look_join (f : Nat → Nm) (k : Lit) (c n : Nat) (hc : c ≤ n) : look (allN f n) k = (look (allN (fun i => f (c + i)) (n - c)) k).or ((look (allN f c) k).or none) := by
  obtain ⟨d, rfl⟩ : ∃ d, n = c + d := ⟨n - c, by omega⟩
  rw [look_allN, look_allN, look_allN, foldLook_add, Nat.add_sub_cancel_left]
  simp

/-- each name that the list bears stands in the fold, with a string -/
theorem look_putN_str {D : DataW Unit} (s t : Nat → ByteArray) (k : Lit) (hD : ∀ d, look D k = some d → ∃ u, d = dOf u) (hm : IsMap D) : ∀ n d, look (putN D s t n) k = some d → ∃ u, d = dOf u
  | 0, d, h => hD d h
  | n + 1, d, h => by
    simp only [putN] at h
    by_cases e : k = kOf (s n)
    · subst e
      rw [look_put_same (isMap_putN hm s t n) (kOf_key _)] at h
      exact ⟨_, (Option.some.inj h).symm⟩
    · rw [look_put_other e] at h
      exact look_putN_str s t k hD hm n d h
theorem look_allN_str (f : Nat → Nm) (k : Lit) : ∀ n d, look (allN f n) k = some d → ∃ u, d = dOf u
  | 0, d, h => by rw [allN, look_empty] at h; cases h
  | i + 1, d, h => look_putN_str _ _ k (look_allN_str f k i) (isMap_allN f i) _ d h

theorem has_put_mono {D : DataW Unit} (hm : IsMap D) (k : Lit) (s : ByteArray) (d : DataW Unit) (h : has D k = true) : has (D.put (kOf s) d) k = true := by
  by_cases e : k = kOf s
  · subst e; exact has_put_same hm (kOf_key _) d
  · rw [has_put_other e]; exact h
theorem has_putN_mono {D : DataW Unit} (hm : IsMap D) (k : Lit) (s t : Nat → ByteArray) (h : has D k = true) : ∀ n, has (putN D s t n) k = true
  | 0 => h
  | n + 1 => has_put_mono (isMap_putN hm s t n) k _ _ (has_putN_mono hm k s t h n)
theorem has_putN {D : DataW Unit} (hm : IsMap D) (s t : Nat → ByteArray) (j : Nat) : ∀ n, j < n → has (putN D s t n) (kOf (s j)) = true
  | n + 1, h => by
    simp only [putN]
    by_cases e : j = n
    · subst e; exact has_put_same (isMap_putN hm s t j) (kOf_key _) _
    · exact has_put_mono (isMap_putN hm s t n) _ _ _ (has_putN hm s t j n (by omega))
theorem has_allN (f : Nat → Nm) (i j : Nat) (hj : j < (f i).n) : ∀ n, i < n → has (allN f n) (kOf ((f i).s j)) = true
  | n + 1, h => by
    simp only [allN]
    by_cases e : i = n
    · subst e; exact has_putN (isMap_allN f i) _ _ j _ hj
    · exact has_putN_mono (isMap_allN f n) _ _ _ (has_allN f i j hj n (by omega)) _

/-- .. and so it reads as a string -/
theorem atKey_allN (f : Nat → Nm) (i j n : Nat) (hi : i < n) (hj : j < (f i).n) : ∃ u, ∀ z, (allN f n).atKey (kOf ((f i).s j)) z = dOf u := by
  have h := look_some (has_allN f i j hj n hi)
  obtain ⟨u, hu⟩ := look_allN_str f _ n _ h
  exact ⟨u, fun z => by rw [atKey_any (has_allN f i j hj n hi) z .nil, hu]⟩
end Go.Proofs.Qxb6612575a
