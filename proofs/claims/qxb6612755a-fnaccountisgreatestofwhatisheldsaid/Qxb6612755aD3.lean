/- The law FnAccountIsGreatestOfWhatIsHeld (3), walked within the domain. -/
import Derived.Test.Qxb6612755aL3
namespace Go.Proofs.Qxb6612755a
open Go.RowKit
attribute [local go_sem ↓] Go.wp_at_zero Go.wp_at_succ

theorem att_off {bt : Bool} {V x : Int} {t : Nat} {c : Nat → Option Int} (h : bt = true ↔ (V = x ∨ ∃ i, i < t ∧ c i = some V)) (hc : ¬ c t = some V) : bt = true ↔ (V = x ∨ ∃ i, i < t + 1 ∧ c i = some V) := by
  rw [h]
  constructor
  · rintro (e | ⟨i, hi, e⟩)
    · exact .inl e
    · exact .inr ⟨i, by omega, e⟩
  · rintro (e | ⟨i, hi, e⟩)
    · exact .inl e
    · by_cases ei : i = t
      · subst ei; exact absurd e hc
      · exact .inr ⟨i, by omega, e⟩

set_option maxRecDepth 100000 in
set_option maxHeartbeats 4000000 in
theorem law3_fn (s n p : Nat) (N pc fl fc : Nat) (x : Addr) (P : Nat → Int) (a : Option Addr) (m hc : Nat) (A : Nat → Option Addr) (L cp : Nat → Nat) (X : Nat → Nat → Int) (w : World) (hH : HeldAt w a m A L cp X) (h1 : N ≤ 131072) (h2 : m ≤ 131072) (h3 : fl ≤ 131072) (h4 : ∀ i, i < m → L i ≤ maxLen) (hP : IntCells w x N P) (hN : N = n * n) (hn1 : 1 ≤ n) (hn : n ≤ 1024) (hs : s < n) (hp : p < n) (hL : ∀ i, i < m → L i = n ∨ L i = n * n) :
    Calls Try.prog 3 #[.int .i64 (s : Int), .int .i64 (n : Int), .slice (some x) N pc, .int .i64 (p : Int), .slice a m hc, .bool false, .slice none fl fc] w fun e w' => e = .returned (.bool true) ∧ Below w.heap.size w w' := by
  have cZ := zzBytes7_any (s : Int) (n : Int) (some x) N pc (p : Int) a m hc A L cp X false none fl fc w hH (by unfold maxLen; omega) (by unfold maxLen; omega) (by unfold maxLen; omega) h4
  have hmk1 := run_make22 N (by omega)
  have d1 : decide ((131072 : Int) < (N : Int)) = false := by simp; omega
  have d2 : decide ((131072 : Int) < (fl : Int)) = false := by simp; omega
  have d3 : decide ((131072 : Int) < (m : Int)) = false := by simp; omega
  have HN : Hid (N = n * n) := hN
  clear hN
  go_enter Try.func3, Try.ntmps3
  go_wp2_with (first
    | (go_at_call 7; go_fit cZ; rintro e w1 ⟨⟨q, rfl⟩, hw⟩; replace hw := hw.symm; subst hw)
    | (refine wpList_copy_one _ rfl _ _ 22 22 rfl 3 Try.underlying22 Try.size3 w.heap.size N (some x) pc rfl rfl 3 _ (fun j => .int .i64 (P j)) (World.rowIs_made _ _ N 3) (fun _ => ⟨x, rfl, hP.kept (Below.al (Below.refl _ _) _)⟩) (fun j _ => rfl) ?_; intro w2 hrow2 hg2; have hb2 := below_grown (Below.al (Below.refl w.heap.size w) _) hg2 (Nat.le_refl _)))
  · go_ret; exact ⟨rfl, Below.refl _ _⟩
  · (go_ret; exact ⟨rfl, hb2⟩)
  have gP : IntsAt w2 (some ⟨w.heap.size, 0, .none⟩) N P := intsAt_row hrow2
  have gH := hH.kept hb2
  clear cZ hmk1 d1 d2 d3
  go_loop [17, 18] (fun r i => ∃ k : Nat, k ≤ m ∧ i = .int .i64 k ∧ ∃ q : Int, r = .int .i64 q ∧ 0 ≤ q ∧ q ≤ 1048576) (fun _ i => m - (intOf i).toNat)
  case atStart => exact ⟨0, Nat.zero_le _, rfl, _, rfl, by omega, by omega⟩
  case round =>
    obtain ⟨k, hk, rfl, q, rfl, hq1, hq2⟩ := hrel
    by_cases hlt : k < m
    · obtain ⟨⟨b, o, rfl, c0⟩, _⟩ := gH k hlt
      have hLk := h4 k hlt
      unfold maxLen at hLk
      have i0 : (k : Int) < m := by omega
      go_wp2
      · (go_ret; exact ⟨rfl, hb2⟩)
      · (go_ret; exact ⟨rfl, hb2⟩)
      go_round
      case rel => exact ⟨k + 1, by omega, by go_num, _, rfl, by omega, by omega⟩
      case measure => simp [intOf]; omega
    · obtain rfl : k = m := by omega
      have cA := zz_nil s n p (some ⟨w.heap.size, 0, .none⟩) N a k hc A L cp P X none fl fc w2 (by rw [← HN.out]; exact gP) gH hn1 hn hs hp h2 hL
      rw [← HN.out] at cA
      have hLN : ∀ i, i < k → L i = n ∨ L i = N := by rw [HN.out]; exact hL
      have HLN : Hid _ := hLN
      clear hL hLN
      go_wp2_with (first
        | (go_at_call 8; go_fit (domain_any (s : Int) (n : Int) (some ⟨w.heap.size, 0, .none⟩) N N (p : Int) a k hc A L cp X false none fl fc w2 gH h2 h4); rintro e w4 ⟨d, rfl, hd, hw⟩; replace hw := hw.symm; subst hw; clear hd)
        | (go_at_call 9; go_fit cA; rintro e w5 ⟨g, rfl, hY, hb5⟩))
      · (go_ret; exact ⟨rfl, hb2⟩)
      clear cA
      have hLN := HLN.out
      have gP5 := gP.kept hb5 (Nat.le_refl _)
      have gH5 := gH.kept hb5
      have hbF : Below w.heap.size w w5 := hb2.trans (hb5.mono hb2.size)
      have hN1 : N ≤ 1048576 := by omega
      go_loop [21] (fun i => ∃ u : Nat, u ≤ n ∧ i = .int .i64 u) (fun i => n - (intOf i).toNat)
      case atStart => exact ⟨0, Nat.zero_le _, rfl⟩
      case round =>
        obtain ⟨u, hu, rfl⟩ := hrel
        by_cases hut : u < n
        · obtain ⟨q1, r, hqp, HR, _, k1, k2⟩ := idx hut hp HN hN1
          obtain ⟨bp, op, eP, cP⟩ := gP5 r hqp
          cases eP
          rw [Nat.zero_add] at cP
          obtain ⟨bg, og, eG, cG⟩ := hY u hut
          cases eG
          rw [Nat.zero_add] at cG
          have hVge := best_ge (P (u * n + p)) (cand n s p L X u) k
          have hVc : ∀ i, i < k → ∀ x, cand n s p L X u i = some x → x ≤ best (P (u * n + p)) (cand n s p L X u) k := fun i hi x h => best_cand _ _ hi h
          have hVat := best_at (P (u * n + p)) (cand n s p L X u) k
          dsimp only at cG
          rw [← HR.out] at hVge hVc hVat cG
          generalize best (P r) (cand n s p L X u) k = V at *
          have i1 : (u : Int) < n := by omega
          have i2 : (r : Int) < N := by omega
          have i3 : (0 : Int) ≤ (r : Int) := by omega
          have e0 : decide (V < P r) = false := by simp; exact hVge
          by_cases e1 : V = P r
          · have e2 : (V == P r) = true := by simp [e1]
            have HE1 : Hid _ := e1
            clear e1
            go_wp2
            go_loop [23, 25] (fun att i => ∃ (t : Nat) (bt : Bool), t ≤ k ∧ i = .int .i64 t ∧ att = .bool bt ∧ (bt = true ↔ (V = P r ∨ ∃ i, i < t ∧ cand n s p L X u i = some V))) (fun _ i => k - (intOf i).toNat)
            case atStart => exact ⟨0, _, Nat.zero_le _, rfl, rfl, ⟨fun _ => .inl HE1.out, fun _ => rfl⟩⟩
            case round =>
              obtain ⟨t, bt, ht, rfl, rfl, hiff⟩ := hrel
              have HI : Hid _ := hiff
              clear hiff
              by_cases htt : t < k
              · obtain ⟨⟨b, o, rfl, c0⟩, hX⟩ := gH5 t htt
                have i0 : (t : Int) < k := by omega
                by_cases hLn : L t = n
                · rw [hLn] at c0 hX
                  have HL : Hid (L t = n) := hLn
                  clear hLn
                  by_cases hus : u = s
                  · obtain ⟨b2, o2, eA, d0⟩ := hX p hp
                    rw [eA] at c0
                    have HU : Hid (u = s) := hus
                    have HC : Hid (cand n s p L X u t = some (X t p)) := by rw [hus]; exact cand_col_at HL.out
                    have e5 : ((u : Int) != (s : Int)) = false := by simp [hus]
                    have e6 : decide (V < X t p) = false := by simp; exact hVc t htt _ HC.out
                    clear hus eA
                    by_cases e7 : V = X t p
                    · have e8 : (V == X t p) = true := by simp [e7]
                      have HE : Hid _ := e7
                      clear e7
                      go_wp2
                      go_round
                      case rel => exact ⟨t + 1, true, by omega, by go_num, rfl, ⟨fun _ => .inr ⟨t, by omega, by rw [HC.out, ← HE.out]⟩, fun _ => rfl⟩⟩
                      case measure => simp [intOf]; omega
                    · have e8 : (V == X t p) = false := by simp [e7]
                      have HE : Hid _ := e7
                      clear e7
                      go_wp2
                      go_round
                      case rel => exact ⟨t + 1, bt, by omega, by go_num, rfl, att_off HI.out (fun h => HE.out (Option.some.inj (HC.out.symm.trans h)).symm)⟩
                      case measure => simp [intOf]; omega
                  · have HC : Hid (cand n s p L X u t = .none) := cand_col_off HL.out hus
                    have e5 : ((u : Int) != (s : Int)) = true := by simp; omega
                    go_wp2
                    go_round
                    case rel => exact ⟨t + 1, bt, by omega, by go_num, rfl, att_off HI.out (fun h => by have := HC.out.symm.trans h; cases this)⟩
                    case measure => simp [intOf]; omega
                · have hLk : L t = N := by have := hLN t htt; omega
                  rw [hLk] at c0 hX
                  have hNk : ¬ (N : Int) = (n : Int) := by omega
                  obtain ⟨b2, o2, eA, d0⟩ := hX r hqp
                  rw [eA] at c0
                  have HC : Hid (cand n s p L X u t = some (X t r)) := by rw [HR.out]; exact cand_mat hLn
                  have e6 : decide (V < X t r) = false := by simp; exact hVc t htt _ HC.out
                  clear hLk eA hLn
                  by_cases e7 : V = X t r
                  · have e8 : (V == X t r) = true := by simp [e7]
                    have HE : Hid _ := e7
                    clear e7
                    go_wp2
                    go_round
                    case rel => exact ⟨t + 1, true, by omega, by go_num, rfl, ⟨fun _ => .inr ⟨t, by omega, by rw [HC.out, ← HE.out]⟩, fun _ => rfl⟩⟩
                    case measure => simp [intOf]; omega
                  · have e8 : (V == X t r) = false := by simp [e7]
                    have HE : Hid _ := e7
                    clear e7
                    go_wp2
                    go_round
                    case rel => exact ⟨t + 1, bt, by omega, by go_num, rfl, att_off HI.out (fun h => HE.out (Option.some.inj (HC.out.symm.trans h)).symm)⟩
                    case measure => simp [intOf]; omega
              · obtain rfl : t = k := by omega
                obtain rfl : bt = true := HI.out.2 hVat
                go_wp2
                go_round
                case rel => exact ⟨u + 1, by omega, by go_num⟩
                case measure => simp [intOf]; omega
          · have e2 : (V == P r) = false := by simp [e1]
            have HE1 : Hid _ := e1
            clear e1
            go_wp2
            go_loop [23, 25] (fun att i => ∃ (t : Nat) (bt : Bool), t ≤ k ∧ i = .int .i64 t ∧ att = .bool bt ∧ (bt = true ↔ (V = P r ∨ ∃ i, i < t ∧ cand n s p L X u i = some V))) (fun _ i => k - (intOf i).toNat)
            case atStart => exact ⟨0, _, Nat.zero_le _, rfl, rfl, ⟨(fun h => by cases h), (fun h => by rcases h with h | ⟨i, hi, _⟩; exact absurd h HE1.out; omega)⟩⟩
            case round =>
              obtain ⟨t, bt, ht, rfl, rfl, hiff⟩ := hrel
              have HI : Hid _ := hiff
              clear hiff
              by_cases htt : t < k
              · obtain ⟨⟨b, o, rfl, c0⟩, hX⟩ := gH5 t htt
                have i0 : (t : Int) < k := by omega
                by_cases hLn : L t = n
                · rw [hLn] at c0 hX
                  have HL : Hid (L t = n) := hLn
                  clear hLn
                  by_cases hus : u = s
                  · obtain ⟨b2, o2, eA, d0⟩ := hX p hp
                    rw [eA] at c0
                    have HU : Hid (u = s) := hus
                    have HC : Hid (cand n s p L X u t = some (X t p)) := by rw [hus]; exact cand_col_at HL.out
                    have e5 : ((u : Int) != (s : Int)) = false := by simp [hus]
                    have e6 : decide (V < X t p) = false := by simp; exact hVc t htt _ HC.out
                    clear hus eA
                    by_cases e7 : V = X t p
                    · have e8 : (V == X t p) = true := by simp [e7]
                      have HE : Hid _ := e7
                      clear e7
                      go_wp2
                      go_round
                      case rel => exact ⟨t + 1, true, by omega, by go_num, rfl, ⟨fun _ => .inr ⟨t, by omega, by rw [HC.out, ← HE.out]⟩, fun _ => rfl⟩⟩
                      case measure => simp [intOf]; omega
                    · have e8 : (V == X t p) = false := by simp [e7]
                      have HE : Hid _ := e7
                      clear e7
                      go_wp2
                      go_round
                      case rel => exact ⟨t + 1, bt, by omega, by go_num, rfl, att_off HI.out (fun h => HE.out (Option.some.inj (HC.out.symm.trans h)).symm)⟩
                      case measure => simp [intOf]; omega
                  · have HC : Hid (cand n s p L X u t = .none) := cand_col_off HL.out hus
                    have e5 : ((u : Int) != (s : Int)) = true := by simp; omega
                    go_wp2
                    go_round
                    case rel => exact ⟨t + 1, bt, by omega, by go_num, rfl, att_off HI.out (fun h => by have := HC.out.symm.trans h; cases this)⟩
                    case measure => simp [intOf]; omega
                · have hLk : L t = N := by have := hLN t htt; omega
                  rw [hLk] at c0 hX
                  have hNk : ¬ (N : Int) = (n : Int) := by omega
                  obtain ⟨b2, o2, eA, d0⟩ := hX r hqp
                  rw [eA] at c0
                  have HC : Hid (cand n s p L X u t = some (X t r)) := by rw [HR.out]; exact cand_mat hLn
                  have e6 : decide (V < X t r) = false := by simp; exact hVc t htt _ HC.out
                  clear hLk eA hLn
                  by_cases e7 : V = X t r
                  · have e8 : (V == X t r) = true := by simp [e7]
                    have HE : Hid _ := e7
                    clear e7
                    go_wp2
                    go_round
                    case rel => exact ⟨t + 1, true, by omega, by go_num, rfl, ⟨fun _ => .inr ⟨t, by omega, by rw [HC.out, ← HE.out]⟩, fun _ => rfl⟩⟩
                    case measure => simp [intOf]; omega
                  · have e8 : (V == X t r) = false := by simp [e7]
                    have HE : Hid _ := e7
                    clear e7
                    go_wp2
                    go_round
                    case rel => exact ⟨t + 1, bt, by omega, by go_num, rfl, att_off HI.out (fun h => HE.out (Option.some.inj (HC.out.symm.trans h)).symm)⟩
                    case measure => simp [intOf]; omega
              · obtain rfl : t = k := by omega
                obtain rfl : bt = true := HI.out.2 hVat
                go_wp2
                go_round
                case rel => exact ⟨u + 1, by omega, by go_num⟩
                case measure => simp [intOf]; omega
        · obtain rfl : u = n := by omega
          obtain ⟨q1, r, hqp, HR, _, k1, k2⟩ := idx hp hs HN hN1
          obtain ⟨bp, op, eP, cP⟩ := gP5 r hqp
          cases eP
          rw [Nat.zero_add] at cP
          rw [← HR.out]
          have i2 : (r : Int) < N := by omega
          have i3 : (0 : Int) ≤ (r : Int) := by omega
          go_wp2
          go_ret
          exact ⟨rfl, hbF⟩

set_option maxRecDepth 100000 in
set_option maxHeartbeats 4000000 in
theorem law3_fs (s n p : Nat) (N pc fl fc : Nat) (x : Addr) (P : Nat → Int) (y : Addr) (F : Nat → Int) (a : Option Addr) (m hc : Nat) (A : Nat → Option Addr) (L cp : Nat → Nat) (X : Nat → Nat → Int) (w : World) (hH : HeldAt w a m A L cp X) (h1 : N ≤ 131072) (h2 : m ≤ 131072) (h3 : fl ≤ 131072) (h4 : ∀ i, i < m → L i ≤ maxLen) (hP : IntCells w x N P) (hF : IntCells w y fl F) (hN : N = n * n) (hn1 : 1 ≤ n) (hn : n ≤ 1024) (hs : s < n) (hp : p < n) (hL : ∀ i, i < m → L i = n ∨ L i = n * n) :
    Calls Try.prog 3 #[.int .i64 (s : Int), .int .i64 (n : Int), .slice (some x) N pc, .int .i64 (p : Int), .slice a m hc, .bool false, .slice (some y) fl fc] w fun e w' => e = .returned (.bool true) ∧ Below w.heap.size w w' := by
  have cZ := zzBytes7_any (s : Int) (n : Int) (some x) N pc (p : Int) a m hc A L cp X false (some y) fl fc w hH (by unfold maxLen; omega) (by unfold maxLen; omega) (by unfold maxLen; omega) h4
  have hmk1 := run_make22 N (by omega)
  have hmk2 := run_make22 fl (by omega)
  have d1 : decide ((131072 : Int) < (N : Int)) = false := by simp; omega
  have d2 : decide ((131072 : Int) < (fl : Int)) = false := by simp; omega
  have d3 : decide ((131072 : Int) < (m : Int)) = false := by simp; omega
  have HN : Hid (N = n * n) := hN
  clear hN
  go_enter Try.func3, Try.ntmps3
  go_wp2_with (first
    | (go_at_call 7; go_fit cZ; rintro e w1 ⟨⟨q, rfl⟩, hw⟩; replace hw := hw.symm; subst hw)
    | (refine wpList_copy_one _ rfl _ _ 22 22 rfl 3 Try.underlying22 Try.size3 w.heap.size N (some x) pc rfl rfl 3 _ (fun j => .int .i64 (P j)) (World.rowIs_made _ _ N 3) (fun _ => ⟨x, rfl, hP.kept (Below.al (Below.refl _ _) _)⟩) (fun j _ => rfl) ?_; intro w2 hrow2 hg2; have hb2 := below_grown (Below.al (Below.refl w.heap.size w) _) hg2 (Nat.le_refl _))
    | (refine wpList_copy_one _ rfl _ _ 22 22 rfl 3 Try.underlying22 Try.size3 w2.heap.size fl (some y) fc rfl rfl 3 _ (fun j => .int .i64 (F j)) (World.rowIs_made _ _ fl 3) (fun _ => ⟨y, rfl, hF.kept (Below.al hb2 _)⟩) (fun j _ => rfl) ?_; intro w3 hrow3 hg3; have hb3 := below_grown (Below.al hb2 _) hg3 hb2.size))
  · go_ret; exact ⟨rfl, Below.refl _ _⟩
  · (go_ret; exact ⟨rfl, hb3⟩)
  have gP : IntsAt w3 (some ⟨w.heap.size, 0, .none⟩) N P := intsAt_row ((hrow2.alloc _).of_block (hg3.block _ (by have := hrow2.lt; simp; omega) (fun e => by have := Option.some.inj e; have := hrow2.lt; omega)))
  have gF : IntsAt w3 (some ⟨w2.heap.size, 0, .none⟩) fl F := intsAt_row hrow3
  have gH := hH.kept hb3
  clear cZ hmk1 hmk2 d1 d2 d3
  go_loop [17, 18] (fun r i => ∃ k : Nat, k ≤ m ∧ i = .int .i64 k ∧ ∃ q : Int, r = .int .i64 q ∧ 0 ≤ q ∧ q ≤ 1048576) (fun _ i => m - (intOf i).toNat)
  case atStart => exact ⟨0, Nat.zero_le _, rfl, _, rfl, by omega, by omega⟩
  case round =>
    obtain ⟨k, hk, rfl, q, rfl, hq1, hq2⟩ := hrel
    by_cases hlt : k < m
    · obtain ⟨⟨b, o, rfl, c0⟩, _⟩ := gH k hlt
      have hLk := h4 k hlt
      unfold maxLen at hLk
      have i0 : (k : Int) < m := by omega
      go_wp2
      · (go_ret; exact ⟨rfl, hb3⟩)
      · (go_ret; exact ⟨rfl, hb3⟩)
      go_round
      case rel => exact ⟨k + 1, by omega, by go_num, _, rfl, by omega, by omega⟩
      case measure => simp [intOf]; omega
    · obtain rfl : k = m := by omega
      have cA := zz_nil s n p (some ⟨w.heap.size, 0, .none⟩) N a k hc A L cp P X (some ⟨w2.heap.size, 0, .none⟩) fl fl w3 (by rw [← HN.out]; exact gP) gH hn1 hn hs hp h2 hL
      rw [← HN.out] at cA
      have hLN : ∀ i, i < k → L i = n ∨ L i = N := by rw [HN.out]; exact hL
      have HLN : Hid _ := hLN
      clear hL hLN
      go_wp2_with (first
        | (go_at_call 8; go_fit (domain_any (s : Int) (n : Int) (some ⟨w.heap.size, 0, .none⟩) N N (p : Int) a k hc A L cp X false (some ⟨w2.heap.size, 0, .none⟩) fl fl w3 gH h2 h4); rintro e w4 ⟨d, rfl, hd, hw⟩; replace hw := hw.symm; subst hw; clear hd)
        | (go_at_call 9; go_fit cA; rintro e w5 ⟨g, rfl, hY, hb5⟩))
      · (go_ret; exact ⟨rfl, hb3⟩)
      clear cA
      have hLN := HLN.out
      have gP5 := gP.kept hb5 (Nat.le_refl _)
      have gH5 := gH.kept hb5
      have hbF : Below w.heap.size w w5 := hb3.trans (hb5.mono hb3.size)
      have hN1 : N ≤ 1048576 := by omega
      go_loop [21] (fun i => ∃ u : Nat, u ≤ n ∧ i = .int .i64 u) (fun i => n - (intOf i).toNat)
      case atStart => exact ⟨0, Nat.zero_le _, rfl⟩
      case round =>
        obtain ⟨u, hu, rfl⟩ := hrel
        by_cases hut : u < n
        · obtain ⟨q1, r, hqp, HR, _, k1, k2⟩ := idx hut hp HN hN1
          obtain ⟨bp, op, eP, cP⟩ := gP5 r hqp
          cases eP
          rw [Nat.zero_add] at cP
          obtain ⟨bg, og, eG, cG⟩ := hY u hut
          cases eG
          rw [Nat.zero_add] at cG
          have hVge := best_ge (P (u * n + p)) (cand n s p L X u) k
          have hVc : ∀ i, i < k → ∀ x, cand n s p L X u i = some x → x ≤ best (P (u * n + p)) (cand n s p L X u) k := fun i hi x h => best_cand _ _ hi h
          have hVat := best_at (P (u * n + p)) (cand n s p L X u) k
          dsimp only at cG
          rw [← HR.out] at hVge hVc hVat cG
          generalize best (P r) (cand n s p L X u) k = V at *
          have i1 : (u : Int) < n := by omega
          have i2 : (r : Int) < N := by omega
          have i3 : (0 : Int) ≤ (r : Int) := by omega
          have e0 : decide (V < P r) = false := by simp; exact hVge
          by_cases e1 : V = P r
          · have e2 : (V == P r) = true := by simp [e1]
            have HE1 : Hid _ := e1
            clear e1
            go_wp2
            go_loop [23, 25] (fun att i => ∃ (t : Nat) (bt : Bool), t ≤ k ∧ i = .int .i64 t ∧ att = .bool bt ∧ (bt = true ↔ (V = P r ∨ ∃ i, i < t ∧ cand n s p L X u i = some V))) (fun _ i => k - (intOf i).toNat)
            case atStart => exact ⟨0, _, Nat.zero_le _, rfl, rfl, ⟨fun _ => .inl HE1.out, fun _ => rfl⟩⟩
            case round =>
              obtain ⟨t, bt, ht, rfl, rfl, hiff⟩ := hrel
              have HI : Hid _ := hiff
              clear hiff
              by_cases htt : t < k
              · obtain ⟨⟨b, o, rfl, c0⟩, hX⟩ := gH5 t htt
                have i0 : (t : Int) < k := by omega
                by_cases hLn : L t = n
                · rw [hLn] at c0 hX
                  have HL : Hid (L t = n) := hLn
                  clear hLn
                  by_cases hus : u = s
                  · obtain ⟨b2, o2, eA, d0⟩ := hX p hp
                    rw [eA] at c0
                    have HU : Hid (u = s) := hus
                    have HC : Hid (cand n s p L X u t = some (X t p)) := by rw [hus]; exact cand_col_at HL.out
                    have e5 : ((u : Int) != (s : Int)) = false := by simp [hus]
                    have e6 : decide (V < X t p) = false := by simp; exact hVc t htt _ HC.out
                    clear hus eA
                    by_cases e7 : V = X t p
                    · have e8 : (V == X t p) = true := by simp [e7]
                      have HE : Hid _ := e7
                      clear e7
                      go_wp2
                      go_round
                      case rel => exact ⟨t + 1, true, by omega, by go_num, rfl, ⟨fun _ => .inr ⟨t, by omega, by rw [HC.out, ← HE.out]⟩, fun _ => rfl⟩⟩
                      case measure => simp [intOf]; omega
                    · have e8 : (V == X t p) = false := by simp [e7]
                      have HE : Hid _ := e7
                      clear e7
                      go_wp2
                      go_round
                      case rel => exact ⟨t + 1, bt, by omega, by go_num, rfl, att_off HI.out (fun h => HE.out (Option.some.inj (HC.out.symm.trans h)).symm)⟩
                      case measure => simp [intOf]; omega
                  · have HC : Hid (cand n s p L X u t = .none) := cand_col_off HL.out hus
                    have e5 : ((u : Int) != (s : Int)) = true := by simp; omega
                    go_wp2
                    go_round
                    case rel => exact ⟨t + 1, bt, by omega, by go_num, rfl, att_off HI.out (fun h => by have := HC.out.symm.trans h; cases this)⟩
                    case measure => simp [intOf]; omega
                · have hLk : L t = N := by have := hLN t htt; omega
                  rw [hLk] at c0 hX
                  have hNk : ¬ (N : Int) = (n : Int) := by omega
                  obtain ⟨b2, o2, eA, d0⟩ := hX r hqp
                  rw [eA] at c0
                  have HC : Hid (cand n s p L X u t = some (X t r)) := by rw [HR.out]; exact cand_mat hLn
                  have e6 : decide (V < X t r) = false := by simp; exact hVc t htt _ HC.out
                  clear hLk eA hLn
                  by_cases e7 : V = X t r
                  · have e8 : (V == X t r) = true := by simp [e7]
                    have HE : Hid _ := e7
                    clear e7
                    go_wp2
                    go_round
                    case rel => exact ⟨t + 1, true, by omega, by go_num, rfl, ⟨fun _ => .inr ⟨t, by omega, by rw [HC.out, ← HE.out]⟩, fun _ => rfl⟩⟩
                    case measure => simp [intOf]; omega
                  · have e8 : (V == X t r) = false := by simp [e7]
                    have HE : Hid _ := e7
                    clear e7
                    go_wp2
                    go_round
                    case rel => exact ⟨t + 1, bt, by omega, by go_num, rfl, att_off HI.out (fun h => HE.out (Option.some.inj (HC.out.symm.trans h)).symm)⟩
                    case measure => simp [intOf]; omega
              · obtain rfl : t = k := by omega
                obtain rfl : bt = true := HI.out.2 hVat
                go_wp2
                go_round
                case rel => exact ⟨u + 1, by omega, by go_num⟩
                case measure => simp [intOf]; omega
          · have e2 : (V == P r) = false := by simp [e1]
            have HE1 : Hid _ := e1
            clear e1
            go_wp2
            go_loop [23, 25] (fun att i => ∃ (t : Nat) (bt : Bool), t ≤ k ∧ i = .int .i64 t ∧ att = .bool bt ∧ (bt = true ↔ (V = P r ∨ ∃ i, i < t ∧ cand n s p L X u i = some V))) (fun _ i => k - (intOf i).toNat)
            case atStart => exact ⟨0, _, Nat.zero_le _, rfl, rfl, ⟨(fun h => by cases h), (fun h => by rcases h with h | ⟨i, hi, _⟩; exact absurd h HE1.out; omega)⟩⟩
            case round =>
              obtain ⟨t, bt, ht, rfl, rfl, hiff⟩ := hrel
              have HI : Hid _ := hiff
              clear hiff
              by_cases htt : t < k
              · obtain ⟨⟨b, o, rfl, c0⟩, hX⟩ := gH5 t htt
                have i0 : (t : Int) < k := by omega
                by_cases hLn : L t = n
                · rw [hLn] at c0 hX
                  have HL : Hid (L t = n) := hLn
                  clear hLn
                  by_cases hus : u = s
                  · obtain ⟨b2, o2, eA, d0⟩ := hX p hp
                    rw [eA] at c0
                    have HU : Hid (u = s) := hus
                    have HC : Hid (cand n s p L X u t = some (X t p)) := by rw [hus]; exact cand_col_at HL.out
                    have e5 : ((u : Int) != (s : Int)) = false := by simp [hus]
                    have e6 : decide (V < X t p) = false := by simp; exact hVc t htt _ HC.out
                    clear hus eA
                    by_cases e7 : V = X t p
                    · have e8 : (V == X t p) = true := by simp [e7]
                      have HE : Hid _ := e7
                      clear e7
                      go_wp2
                      go_round
                      case rel => exact ⟨t + 1, true, by omega, by go_num, rfl, ⟨fun _ => .inr ⟨t, by omega, by rw [HC.out, ← HE.out]⟩, fun _ => rfl⟩⟩
                      case measure => simp [intOf]; omega
                    · have e8 : (V == X t p) = false := by simp [e7]
                      have HE : Hid _ := e7
                      clear e7
                      go_wp2
                      go_round
                      case rel => exact ⟨t + 1, bt, by omega, by go_num, rfl, att_off HI.out (fun h => HE.out (Option.some.inj (HC.out.symm.trans h)).symm)⟩
                      case measure => simp [intOf]; omega
                  · have HC : Hid (cand n s p L X u t = .none) := cand_col_off HL.out hus
                    have e5 : ((u : Int) != (s : Int)) = true := by simp; omega
                    go_wp2
                    go_round
                    case rel => exact ⟨t + 1, bt, by omega, by go_num, rfl, att_off HI.out (fun h => by have := HC.out.symm.trans h; cases this)⟩
                    case measure => simp [intOf]; omega
                · have hLk : L t = N := by have := hLN t htt; omega
                  rw [hLk] at c0 hX
                  have hNk : ¬ (N : Int) = (n : Int) := by omega
                  obtain ⟨b2, o2, eA, d0⟩ := hX r hqp
                  rw [eA] at c0
                  have HC : Hid (cand n s p L X u t = some (X t r)) := by rw [HR.out]; exact cand_mat hLn
                  have e6 : decide (V < X t r) = false := by simp; exact hVc t htt _ HC.out
                  clear hLk eA hLn
                  by_cases e7 : V = X t r
                  · have e8 : (V == X t r) = true := by simp [e7]
                    have HE : Hid _ := e7
                    clear e7
                    go_wp2
                    go_round
                    case rel => exact ⟨t + 1, true, by omega, by go_num, rfl, ⟨fun _ => .inr ⟨t, by omega, by rw [HC.out, ← HE.out]⟩, fun _ => rfl⟩⟩
                    case measure => simp [intOf]; omega
                  · have e8 : (V == X t r) = false := by simp [e7]
                    have HE : Hid _ := e7
                    clear e7
                    go_wp2
                    go_round
                    case rel => exact ⟨t + 1, bt, by omega, by go_num, rfl, att_off HI.out (fun h => HE.out (Option.some.inj (HC.out.symm.trans h)).symm)⟩
                    case measure => simp [intOf]; omega
              · obtain rfl : t = k := by omega
                obtain rfl : bt = true := HI.out.2 hVat
                go_wp2
                go_round
                case rel => exact ⟨u + 1, by omega, by go_num⟩
                case measure => simp [intOf]; omega
        · obtain rfl : u = n := by omega
          obtain ⟨q1, r, hqp, HR, _, k1, k2⟩ := idx hp hs HN hN1
          obtain ⟨bp, op, eP, cP⟩ := gP5 r hqp
          cases eP
          rw [Nat.zero_add] at cP
          rw [← HR.out]
          have i2 : (r : Int) < N := by omega
          have i3 : (0 : Int) ≤ (r : Int) := by omega
          go_wp2
          go_ret
          exact ⟨rfl, hbF⟩

set_option maxRecDepth 100000 in
set_option maxHeartbeats 4000000 in
theorem law3_ts (s n p : Nat) (N pc fc : Nat) (x : Addr) (P : Nat → Int) (y : Addr) (F : Nat → Int) (a : Option Addr) (m hc : Nat) (A : Nat → Option Addr) (L cp : Nat → Nat) (X : Nat → Nat → Int) (w : World) (hH : HeldAt w a m A L cp X) (h1 : N ≤ 131072) (h2 : m ≤ 131072) (h4 : ∀ i, i < m → L i ≤ maxLen) (hP : IntCells w x N P) (hF : IntCells w y N F) (hN : N = n * n) (hn1 : 1 ≤ n) (hn : n ≤ 1024) (hs : s < n) (hp : p < n) (hL : ∀ i, i < m → L i = n ∨ L i = n * n) :
    Calls Try.prog 3 #[.int .i64 (s : Int), .int .i64 (n : Int), .slice (some x) N pc, .int .i64 (p : Int), .slice a m hc, .bool true, .slice (some y) N fc] w fun e w' => e = .returned (.bool true) ∧ Below w.heap.size w w' := by
  have cZ := zzBytes7_any (s : Int) (n : Int) (some x) N pc (p : Int) a m hc A L cp X true (some y) N fc w hH (by unfold maxLen; omega) (by unfold maxLen; omega) (by unfold maxLen; omega) h4
  have hmk1 := run_make22 N (by omega)
  have hmk2 := run_make22 N (by omega)
  have d1 : decide ((131072 : Int) < (N : Int)) = false := by simp; omega
  have d2 : decide ((131072 : Int) < (N : Int)) = false := by simp; omega
  have d3 : decide ((131072 : Int) < (m : Int)) = false := by simp; omega
  have HN : Hid (N = n * n) := hN
  clear hN
  go_enter Try.func3, Try.ntmps3
  go_wp2_with (first
    | (go_at_call 7; go_fit cZ; rintro e w1 ⟨⟨q, rfl⟩, hw⟩; replace hw := hw.symm; subst hw)
    | (refine wpList_copy_one _ rfl _ _ 22 22 rfl 3 Try.underlying22 Try.size3 w.heap.size N (some x) pc rfl rfl 3 _ (fun j => .int .i64 (P j)) (World.rowIs_made _ _ N 3) (fun _ => ⟨x, rfl, hP.kept (Below.al (Below.refl _ _) _)⟩) (fun j _ => rfl) ?_; intro w2 hrow2 hg2; have hb2 := below_grown (Below.al (Below.refl w.heap.size w) _) hg2 (Nat.le_refl _))
    | (refine wpList_copy_one _ rfl _ _ 22 22 rfl 3 Try.underlying22 Try.size3 w2.heap.size N (some y) fc rfl rfl 3 _ (fun j => .int .i64 (F j)) (World.rowIs_made _ _ N 3) (fun _ => ⟨y, rfl, hF.kept (Below.al hb2 _)⟩) (fun j _ => rfl) ?_; intro w3 hrow3 hg3; have hb3 := below_grown (Below.al hb2 _) hg3 hb2.size))
  · go_ret; exact ⟨rfl, Below.refl _ _⟩
  · (go_ret; exact ⟨rfl, hb3⟩)
  have gP : IntsAt w3 (some ⟨w.heap.size, 0, .none⟩) N P := intsAt_row ((hrow2.alloc _).of_block (hg3.block _ (by have := hrow2.lt; simp; omega) (fun e => by have := Option.some.inj e; have := hrow2.lt; omega)))
  have gF : IntsAt w3 (some ⟨w2.heap.size, 0, .none⟩) N F := intsAt_row hrow3
  have gH := hH.kept hb3
  clear cZ hmk1 hmk2 d1 d2 d3
  go_loop [17, 18] (fun r i => ∃ k : Nat, k ≤ m ∧ i = .int .i64 k ∧ ∃ q : Int, r = .int .i64 q ∧ 0 ≤ q ∧ q ≤ 1048576) (fun _ i => m - (intOf i).toNat)
  case atStart => exact ⟨0, Nat.zero_le _, rfl, _, rfl, by omega, by omega⟩
  case round =>
    obtain ⟨k, hk, rfl, q, rfl, hq1, hq2⟩ := hrel
    by_cases hlt : k < m
    · obtain ⟨⟨b, o, rfl, c0⟩, _⟩ := gH k hlt
      have hLk := h4 k hlt
      unfold maxLen at hLk
      have i0 : (k : Int) < m := by omega
      go_wp2
      · (go_ret; exact ⟨rfl, hb3⟩)
      · (go_ret; exact ⟨rfl, hb3⟩)
      go_round
      case rel => exact ⟨k + 1, by omega, by go_num, _, rfl, by omega, by omega⟩
      case measure => simp [intOf]; omega
    · obtain rfl : k = m := by omega
      have cA := zz_some s n p (some ⟨w.heap.size, 0, .none⟩) N a k hc A L cp P X w2.heap.size 0 N F w3 (by rw [← HN.out]; exact gP) gH hn1 hn hs hp h2 hL (by rw [← HN.out]; exact gF) (by rw [← HN.out]; exact Nat.le_refl _)
      rw [← HN.out] at cA
      have hLN : ∀ i, i < k → L i = n ∨ L i = N := by rw [HN.out]; exact hL
      have HLN : Hid _ := hLN
      clear hL hLN
      go_wp2_with (first
        | (go_at_call 8; go_fit (domain_any (s : Int) (n : Int) (some ⟨w.heap.size, 0, .none⟩) N N (p : Int) a k hc A L cp X true (some ⟨w2.heap.size, 0, .none⟩) N N w3 gH h2 h4); rintro e w4 ⟨d, rfl, hd, hw⟩; replace hw := hw.symm; subst hw; clear hd)
        | (go_at_call 9; go_fit cA; rintro e w5 ⟨g, rfl, hY, hb5⟩))
      · (go_ret; exact ⟨rfl, hb3⟩)
      clear cA
      have hLN := HLN.out
      have gP5 := gP.kept hb5 (Nat.le_refl _)
      have gH5 := gH.kept hb5
      have gF5 := gF.kept hb5 (Nat.le_refl _)
      have hbF : Below w.heap.size w w5 := hb3.trans (hb5.mono hb3.size)
      have hN1 : N ≤ 1048576 := by omega
      go_loop [21] (fun i => ∃ u : Nat, u ≤ n ∧ i = .int .i64 u) (fun i => n - (intOf i).toNat)
      case atStart => exact ⟨0, Nat.zero_le _, rfl⟩
      case round =>
        obtain ⟨u, hu, rfl⟩ := hrel
        by_cases hut : u < n
        · obtain ⟨q1, r, hqp, HR, _, k1, k2⟩ := idx hut hp HN hN1
          obtain ⟨bp, op, eP, cP⟩ := gP5 r hqp
          cases eP
          rw [Nat.zero_add] at cP
          obtain ⟨bg, og, eG, cG⟩ := hY u hut
          cases eG
          rw [Nat.zero_add] at cG
          have hVge := best_ge (P (u * n + p)) (cand n s p L X u) k
          have hVc : ∀ i, i < k → ∀ x, cand n s p L X u i = some x → x ≤ best (P (u * n + p)) (cand n s p L X u) k := fun i hi x h => best_cand _ _ hi h
          have hVat := best_at (P (u * n + p)) (cand n s p L X u) k
          dsimp only at cG
          rw [← HR.out] at hVge hVc hVat cG
          generalize best (P r) (cand n s p L X u) k = V at *
          have i1 : (u : Int) < n := by omega
          have i2 : (r : Int) < N := by omega
          have i3 : (0 : Int) ≤ (r : Int) := by omega
          have e0 : decide (V < P r) = false := by simp; exact hVge
          by_cases e1 : V = P r
          · have e2 : (V == P r) = true := by simp [e1]
            have HE1 : Hid _ := e1
            clear e1
            go_wp2
            go_loop [23, 25] (fun att i => ∃ (t : Nat) (bt : Bool), t ≤ k ∧ i = .int .i64 t ∧ att = .bool bt ∧ (bt = true ↔ (V = P r ∨ ∃ i, i < t ∧ cand n s p L X u i = some V))) (fun _ i => k - (intOf i).toNat)
            case atStart => exact ⟨0, _, Nat.zero_le _, rfl, rfl, ⟨fun _ => .inl HE1.out, fun _ => rfl⟩⟩
            case round =>
              obtain ⟨t, bt, ht, rfl, rfl, hiff⟩ := hrel
              have HI : Hid _ := hiff
              clear hiff
              by_cases htt : t < k
              · obtain ⟨⟨b, o, rfl, c0⟩, hX⟩ := gH5 t htt
                have i0 : (t : Int) < k := by omega
                by_cases hLn : L t = n
                · rw [hLn] at c0 hX
                  have HL : Hid (L t = n) := hLn
                  clear hLn
                  by_cases hus : u = s
                  · obtain ⟨b2, o2, eA, d0⟩ := hX p hp
                    rw [eA] at c0
                    have HU : Hid (u = s) := hus
                    have HC : Hid (cand n s p L X u t = some (X t p)) := by rw [hus]; exact cand_col_at HL.out
                    have e5 : ((u : Int) != (s : Int)) = false := by simp [hus]
                    have e6 : decide (V < X t p) = false := by simp; exact hVc t htt _ HC.out
                    clear hus eA
                    by_cases e7 : V = X t p
                    · have e8 : (V == X t p) = true := by simp [e7]
                      have HE : Hid _ := e7
                      clear e7
                      go_wp2
                      go_round
                      case rel => exact ⟨t + 1, true, by omega, by go_num, rfl, ⟨fun _ => .inr ⟨t, by omega, by rw [HC.out, ← HE.out]⟩, fun _ => rfl⟩⟩
                      case measure => simp [intOf]; omega
                    · have e8 : (V == X t p) = false := by simp [e7]
                      have HE : Hid _ := e7
                      clear e7
                      go_wp2
                      go_round
                      case rel => exact ⟨t + 1, bt, by omega, by go_num, rfl, att_off HI.out (fun h => HE.out (Option.some.inj (HC.out.symm.trans h)).symm)⟩
                      case measure => simp [intOf]; omega
                  · have HC : Hid (cand n s p L X u t = .none) := cand_col_off HL.out hus
                    have e5 : ((u : Int) != (s : Int)) = true := by simp; omega
                    go_wp2
                    go_round
                    case rel => exact ⟨t + 1, bt, by omega, by go_num, rfl, att_off HI.out (fun h => by have := HC.out.symm.trans h; cases this)⟩
                    case measure => simp [intOf]; omega
                · have hLk : L t = N := by have := hLN t htt; omega
                  rw [hLk] at c0 hX
                  have hNk : ¬ (N : Int) = (n : Int) := by omega
                  obtain ⟨b2, o2, eA, d0⟩ := hX r hqp
                  rw [eA] at c0
                  have HC : Hid (cand n s p L X u t = some (X t r)) := by rw [HR.out]; exact cand_mat hLn
                  have e6 : decide (V < X t r) = false := by simp; exact hVc t htt _ HC.out
                  clear hLk eA hLn
                  by_cases e7 : V = X t r
                  · have e8 : (V == X t r) = true := by simp [e7]
                    have HE : Hid _ := e7
                    clear e7
                    go_wp2
                    go_round
                    case rel => exact ⟨t + 1, true, by omega, by go_num, rfl, ⟨fun _ => .inr ⟨t, by omega, by rw [HC.out, ← HE.out]⟩, fun _ => rfl⟩⟩
                    case measure => simp [intOf]; omega
                  · have e8 : (V == X t r) = false := by simp [e7]
                    have HE : Hid _ := e7
                    clear e7
                    go_wp2
                    go_round
                    case rel => exact ⟨t + 1, bt, by omega, by go_num, rfl, att_off HI.out (fun h => HE.out (Option.some.inj (HC.out.symm.trans h)).symm)⟩
                    case measure => simp [intOf]; omega
              · obtain rfl : t = k := by omega
                obtain rfl : bt = true := HI.out.2 hVat
                go_wp2
                go_round
                case rel => exact ⟨u + 1, by omega, by go_num⟩
                case measure => simp [intOf]; omega
          · have e2 : (V == P r) = false := by simp [e1]
            have HE1 : Hid _ := e1
            clear e1
            go_wp2
            go_loop [23, 25] (fun att i => ∃ (t : Nat) (bt : Bool), t ≤ k ∧ i = .int .i64 t ∧ att = .bool bt ∧ (bt = true ↔ (V = P r ∨ ∃ i, i < t ∧ cand n s p L X u i = some V))) (fun _ i => k - (intOf i).toNat)
            case atStart => exact ⟨0, _, Nat.zero_le _, rfl, rfl, ⟨(fun h => by cases h), (fun h => by rcases h with h | ⟨i, hi, _⟩; exact absurd h HE1.out; omega)⟩⟩
            case round =>
              obtain ⟨t, bt, ht, rfl, rfl, hiff⟩ := hrel
              have HI : Hid _ := hiff
              clear hiff
              by_cases htt : t < k
              · obtain ⟨⟨b, o, rfl, c0⟩, hX⟩ := gH5 t htt
                have i0 : (t : Int) < k := by omega
                by_cases hLn : L t = n
                · rw [hLn] at c0 hX
                  have HL : Hid (L t = n) := hLn
                  clear hLn
                  by_cases hus : u = s
                  · obtain ⟨b2, o2, eA, d0⟩ := hX p hp
                    rw [eA] at c0
                    have HU : Hid (u = s) := hus
                    have HC : Hid (cand n s p L X u t = some (X t p)) := by rw [hus]; exact cand_col_at HL.out
                    have e5 : ((u : Int) != (s : Int)) = false := by simp [hus]
                    have e6 : decide (V < X t p) = false := by simp; exact hVc t htt _ HC.out
                    clear hus eA
                    by_cases e7 : V = X t p
                    · have e8 : (V == X t p) = true := by simp [e7]
                      have HE : Hid _ := e7
                      clear e7
                      go_wp2
                      go_round
                      case rel => exact ⟨t + 1, true, by omega, by go_num, rfl, ⟨fun _ => .inr ⟨t, by omega, by rw [HC.out, ← HE.out]⟩, fun _ => rfl⟩⟩
                      case measure => simp [intOf]; omega
                    · have e8 : (V == X t p) = false := by simp [e7]
                      have HE : Hid _ := e7
                      clear e7
                      go_wp2
                      go_round
                      case rel => exact ⟨t + 1, bt, by omega, by go_num, rfl, att_off HI.out (fun h => HE.out (Option.some.inj (HC.out.symm.trans h)).symm)⟩
                      case measure => simp [intOf]; omega
                  · have HC : Hid (cand n s p L X u t = .none) := cand_col_off HL.out hus
                    have e5 : ((u : Int) != (s : Int)) = true := by simp; omega
                    go_wp2
                    go_round
                    case rel => exact ⟨t + 1, bt, by omega, by go_num, rfl, att_off HI.out (fun h => by have := HC.out.symm.trans h; cases this)⟩
                    case measure => simp [intOf]; omega
                · have hLk : L t = N := by have := hLN t htt; omega
                  rw [hLk] at c0 hX
                  have hNk : ¬ (N : Int) = (n : Int) := by omega
                  obtain ⟨b2, o2, eA, d0⟩ := hX r hqp
                  rw [eA] at c0
                  have HC : Hid (cand n s p L X u t = some (X t r)) := by rw [HR.out]; exact cand_mat hLn
                  have e6 : decide (V < X t r) = false := by simp; exact hVc t htt _ HC.out
                  clear hLk eA hLn
                  by_cases e7 : V = X t r
                  · have e8 : (V == X t r) = true := by simp [e7]
                    have HE : Hid _ := e7
                    clear e7
                    go_wp2
                    go_round
                    case rel => exact ⟨t + 1, true, by omega, by go_num, rfl, ⟨fun _ => .inr ⟨t, by omega, by rw [HC.out, ← HE.out]⟩, fun _ => rfl⟩⟩
                    case measure => simp [intOf]; omega
                  · have e8 : (V == X t r) = false := by simp [e7]
                    have HE : Hid _ := e7
                    clear e7
                    go_wp2
                    go_round
                    case rel => exact ⟨t + 1, bt, by omega, by go_num, rfl, att_off HI.out (fun h => HE.out (Option.some.inj (HC.out.symm.trans h)).symm)⟩
                    case measure => simp [intOf]; omega
              · obtain rfl : t = k := by omega
                obtain rfl : bt = true := HI.out.2 hVat
                go_wp2
                go_round
                case rel => exact ⟨u + 1, by omega, by go_num⟩
                case measure => simp [intOf]; omega
        · obtain rfl : u = n := by omega
          obtain ⟨q1, r, hqp, HR, _, k1, k2⟩ := idx hp hs HN hN1
          obtain ⟨bp, op, eP, cP⟩ := gP5 r hqp
          cases eP
          rw [Nat.zero_add] at cP
          rw [← HR.out]
          obtain ⟨bf, of, eF, cF⟩ := gF5 r hqp
          cases eF
          rw [Nat.zero_add] at cF
          have i2 : (r : Int) < N := by omega
          have i3 : (0 : Int) ≤ (r : Int) := by omega
          go_wp2
          go_ret
          exact ⟨rfl, hbF⟩

end Go.Proofs.Qxb6612755a
