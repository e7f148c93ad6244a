/- The size guards (7, 10) and the domain (8). -/
import Derived.Test.Qxb6612755aW4
namespace Go.Proofs.Qxb6612755a
open Go.RowKit
attribute [local go_sem ↓] Go.wp_at_zero Go.wp_at_succ

def SaysBool (e : Ending) : Prop := ∃ b, e = .returned (.bool b)

set_option maxRecDepth 100000 in
set_option maxHeartbeats 1000000 in
theorem zzBytes7_any (site n : Int) (pa : Option Addr) (pn pc : Nat) (peer : Int) (a : Option Addr) (m hc : Nat) (A : Nat → Option Addr) (L cp : Nat → Nat) (X : Nat → Nat → Int) (hf : Bool) (fa : Option Addr) (fl fc : Nat) (w : World) (hH : HeldAt w a m A L cp X) (h1 : pn ≤ maxLen) (h2 : m ≤ maxLen) (h3 : fl ≤ maxLen) (h4 : ∀ i, i < m → L i ≤ maxLen) :
    Calls Try.prog 7 #[.int .i64 site, .int .i64 n, .slice pa pn pc, .int .i64 peer, .slice a m hc, .bool hf, .slice fa fl fc] w fun e w' => SaysBool e ∧ w' = w := by
  unfold maxLen at h1 h2 h3 h4
  go_enter Try.func7, Try.ntmps7
  go_wp2
  · go_ret; exact ⟨⟨_, rfl⟩, rfl⟩
  · go_ret; exact ⟨⟨_, rfl⟩, rfl⟩
  · go_ret; exact ⟨⟨_, rfl⟩, rfl⟩
  go_loop [15, 16] (fun r i => ∃ k : Nat, k ≤ m ∧ i = .int .i64 k ∧ ∃ q : Int, r = .int .i64 q ∧ 0 ≤ q ∧ q ≤ 1048576) (fun _ i => m - (intOf i).toNat)
  case atStart => exact ⟨0, Nat.zero_le _, rfl, _, rfl, by omega, by omega⟩
  case round =>
    obtain ⟨k, hk, rfl, q, rfl, hq1, hq2⟩ := hrel
    by_cases hlt : k < m
    · obtain ⟨⟨b, o, rfl, c0⟩, _⟩ := hH k hlt
      have hLk := h4 k hlt
      have i0 : (k : Int) < m := by omega
      go_wp2
      · go_ret; exact ⟨⟨_, rfl⟩, rfl⟩
      · go_ret; exact ⟨⟨_, rfl⟩, rfl⟩
      go_round
      case rel => exact ⟨k + 1, by omega, by go_num, _, rfl, by omega, by omega⟩
      case measure => simp [intOf]; omega
    · go_wp2
      all_goals (go_ret; exact ⟨⟨_, rfl⟩, rfl⟩)

set_option maxRecDepth 100000 in
set_option maxHeartbeats 1000000 in
theorem zzBytes10_any (site n : Int) (pa : Option Addr) (pn pc : Nat) (peer : Int) (a : Option Addr) (m hc : Nat) (A : Nat → Option Addr) (L cp : Nat → Nat) (X : Nat → Nat → Int) (hf : Bool) (fa : Option Addr) (fl fc : Nat) (cut : Int) (w : World) (hH : HeldAt w a m A L cp X) (h1 : pn ≤ maxLen) (h2 : m ≤ maxLen) (h3 : fl ≤ maxLen) (h4 : ∀ i, i < m → L i ≤ maxLen) :
    Calls Try.prog 10 #[.int .i64 site, .int .i64 n, .slice pa pn pc, .int .i64 peer, .slice a m hc, .bool hf, .slice fa fl fc, .int .i64 cut] w fun e w' => SaysBool e ∧ w' = w := by
  unfold maxLen at h1 h2 h3 h4
  go_enter Try.func10, Try.ntmps10
  go_wp2
  · go_ret; exact ⟨⟨_, rfl⟩, rfl⟩
  · go_ret; exact ⟨⟨_, rfl⟩, rfl⟩
  · go_ret; exact ⟨⟨_, rfl⟩, rfl⟩
  go_loop [17, 18] (fun r i => ∃ k : Nat, k ≤ m ∧ i = .int .i64 k ∧ ∃ q : Int, r = .int .i64 q ∧ 0 ≤ q ∧ q ≤ 1048576) (fun _ i => m - (intOf i).toNat)
  case atStart => exact ⟨0, Nat.zero_le _, rfl, _, rfl, by omega, by omega⟩
  case round =>
    obtain ⟨k, hk, rfl, q, rfl, hq1, hq2⟩ := hrel
    by_cases hlt : k < m
    · obtain ⟨⟨b, o, rfl, c0⟩, _⟩ := hH k hlt
      have hLk := h4 k hlt
      have i0 : (k : Int) < m := by omega
      go_wp2
      · go_ret; exact ⟨⟨_, rfl⟩, rfl⟩
      · go_ret; exact ⟨⟨_, rfl⟩, rfl⟩
      go_round
      case rel => exact ⟨k + 1, by omega, by go_num, _, rfl, by omega, by omega⟩
      case measure => simp [intOf]; omega
    · go_wp2
      all_goals (go_ret; exact ⟨⟨_, rfl⟩, rfl⟩)

/-- the domain -/
structure Dom (site n : Int) (pn : Nat) (peer : Int) (m : Nat) (L : Nat → Nat) (hf : Bool) (fl : Nat) : Prop where
  n1 : 1 ≤ n
  n2 : n ≤ 1024
  past : (pn : Int) = n * n
  s1 : 0 ≤ site
  s2 : site < n
  p1 : 0 ≤ peer
  p2 : peer < n
  held : ∀ i, i < m → (L i : Int) = n ∨ (L i : Int) = n * n
  first : hf = true → (fl : Int) = n * n

def DomPost (D : Prop) (w : World) (e : Ending) (w' : World) : Prop := ∃ d, e = .returned (.bool d) ∧ (d = true → D) ∧ w' = w
theorem domPost_false {D : Prop} {w : World} : DomPost D w (.returned (.bool false)) w := ⟨false, rfl, (fun h => by cases h), rfl⟩

set_option maxRecDepth 100000 in
set_option maxHeartbeats 1000000 in
theorem domain_any (site n : Int) (pa : Option Addr) (pn pc : Nat) (peer : Int) (a : Option Addr) (m hc : Nat) (A : Nat → Option Addr) (L cp : Nat → Nat) (X : Nat → Nat → Int) (hf : Bool) (fa : Option Addr) (fl fc : Nat) (w : World) (hH : HeldAt w a m A L cp X) (h2 : m ≤ 131072) (h4 : ∀ i, i < m → L i ≤ maxLen) :
    Calls Try.prog 8 #[.int .i64 site, .int .i64 n, .slice pa pn pc, .int .i64 peer, .slice a m hc, .bool hf, .slice fa fl fc] w fun e w' => DomPost (Dom site n pn peer m L hf fl) w e w' := by
  unfold maxLen at h4
  by_cases g1 : n < 1
  · have d1 : decide (n < 1) = true := by simp; omega
    go_enter Try.func8, Try.ntmps8
    go_wp2
    go_ret; exact domPost_false
  have d1 : decide (n < 1) = false := by simp; omega
  by_cases g2 : 1024 < n
  · have d2 : decide (1024 < n) = true := by simp; omega
    go_enter Try.func8, Try.ntmps8
    go_wp2
    go_ret; exact domPost_false
  have d2 : decide (1024 < n) = false := by simp; omega
  obtain ⟨k, rfl⟩ : ∃ k : Nat, n = k := ⟨n.toNat, by omega⟩
  obtain ⟨N, hN⟩ : ∃ N, N = k * k := ⟨_, rfl⟩
  have hN1 : N ≤ 1048576 := by rw [hN]; exact Nat.mul_le_mul (show k ≤ 1024 by omega) (show k ≤ 1024 by omega)
  have hNi : (N : Int) = (k : Int) * (k : Int) := by rw [hN]; simp
  have kN : IntKind.i64.wrap ((k : Int) * (k : Int)) = (N : Int) := by rw [← hNi]; exact IntWalk.i64_in _ (by omega)
  have HN : Hid _ := hNi
  clear hN hNi
  by_cases g3 : pn = N
  · subst g3
    by_cases g4 : site < 0
    · have d3 : decide (site < 0) = true := by simp; omega
      go_enter Try.func8, Try.ntmps8
      go_wp2
      go_ret; exact domPost_false
    have d3 : decide (site < 0) = false := by simp; omega
    by_cases g5 : (k : Int) ≤ site
    · have d4 : decide ((k : Int) ≤ site) = true := by simp; omega
      go_enter Try.func8, Try.ntmps8
      go_wp2
      go_ret; exact domPost_false
    have d4 : decide ((k : Int) ≤ site) = false := by simp; omega
    by_cases g6 : peer < 0
    · have d5 : decide (peer < 0) = true := by simp; omega
      go_enter Try.func8, Try.ntmps8
      go_wp2
      go_ret; exact domPost_false
    have d5 : decide (peer < 0) = false := by simp; omega
    by_cases g7 : (k : Int) ≤ peer
    · have d6 : decide ((k : Int) ≤ peer) = true := by simp; omega
      go_enter Try.func8, Try.ntmps8
      go_wp2
      go_ret; exact domPost_false
    have d6 : decide ((k : Int) ≤ peer) = false := by simp; omega
    go_enter Try.func8, Try.ntmps8
    go_wp2
    go_loop [15] (fun i => ∃ t : Nat, t ≤ m ∧ i = .int .i64 t ∧ ∀ i, i < t → (L i : Int) = k ∨ (L i : Int) = pn) (fun i => m - (intOf i).toNat)
    case atStart => exact ⟨0, Nat.zero_le _, rfl, fun i hi => by omega⟩
    case round =>
      obtain ⟨t, ht, rfl, hall⟩ := hrel
      by_cases hlt : t < m
      · obtain ⟨⟨b, o, rfl, c0⟩, _⟩ := hH t hlt
        have hLk := h4 t hlt
        have i0 : (t : Int) < m := by omega
        by_cases g8 : (L t : Int) = k
        · have e8 : ((L t : Int) != (k : Int)) = false := by simp [g8]
          have HG : Hid _ := g8
          clear g8
          go_wp2
          go_round
          case rel => exact ⟨t + 1, by omega, by go_num, fun i hi => by
            by_cases e : i = t
            · subst e; exact .inl HG.out
            · exact hall i (by omega)⟩
          case measure => simp [intOf]; omega
        · have e8 : ((L t : Int) != (k : Int)) = true := by simp; omega
          by_cases g9 : (L t : Int) = pn
          · have e9 : ((L t : Int) != (pn : Int)) = false := by simp [g9]
            have HG : Hid _ := g9
            clear g9
            go_wp2
            go_round
            case rel => exact ⟨t + 1, by omega, by go_num, fun i hi => by
              by_cases e : i = t
              · subst e; exact .inr HG.out
              · exact hall i (by omega)⟩
            case measure => simp [intOf]; omega
          · have e9 : ((L t : Int) != (pn : Int)) = true := by simp; omega
            go_wp2
            go_ret; exact domPost_false
      · obtain rfl : t = m := by omega
        have HD : Hid (∀ (f : hf = true → (fl : Int) = pn), Dom site k pn peer t L hf fl) := fun f => ⟨by omega, by omega, HN.out, by omega, by omega, by omega, by omega, fun i hi => by rw [← HN.out]; exact hall i hi, fun h => by rw [← HN.out]; exact f h⟩
        cases hf with
        | false =>
          go_wp2
          go_ret
          exact ⟨true, rfl, fun _ => HD.out (fun h => by cases h), rfl⟩
        | true =>
          by_cases g10 : (fl : Int) = pn
          · have e10 : ((fl : Int) != (pn : Int)) = false := by simp [g10]
            have HG : Hid _ := g10
            clear g10
            go_wp2
            go_ret
            exact ⟨true, rfl, fun _ => HD.out (fun _ => HG.out), rfl⟩
          · have e10 : ((fl : Int) != (pn : Int)) = true := by simp; omega
            go_wp2
            go_ret; exact domPost_false
  · have e3 : ((pn : Int) != (N : Int)) = true := by simp; omega
    go_enter Try.func8, Try.ntmps8
    go_wp2
    go_ret; exact domPost_false
end Go.Proofs.Qxb6612755a
