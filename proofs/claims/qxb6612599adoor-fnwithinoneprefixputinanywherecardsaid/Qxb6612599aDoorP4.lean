/- THE CARD: FnWithinOnePrefixPutInAnywhere. -/
import Derived.Test.Qxb6612599aDoorP0
import Derived.Test.Qxb6612599aDoorL4
import Derived.Test.Qxb6612599aDoorCards
import Derived.SevenTiedAt
namespace Go.Proofs.Qxb6612599aDoor
open Go.ChangeShapes Go.WideShapes Go.ChangeAt Go.RowKit

theorem law4_walk {H : Type} {enc : TypeId × Value → H} {f0 f1 : Nat} {v0 v1 : Value} {y0 y1 : DataW H × List MemPlace} (pos d : Int) (x a : Nat → Nat) (W : World) (z : Addr) (hz : Laid W z) (hx : Bytes x) (ha : Bytes a)
    (h0 : DataW.trod enc Tryd.prog W 0 (fun _ => true) true f0 22 [v0] = some y0) (h1 : DataW.trod enc Tryd.prog W 0 (fun _ => true) true f1 23 [v1] = some y1) :
    Calls Tryd.prog 4 #[v0, v1, .int .i64 pos, .agg #[.int .u8 (x 0), .int .u8 (x 1), .int .u8 (x 2), .int .u8 (x 3)], .int .i64 d, .agg #[.int .u8 (a 0), .int .u8 (a 1), .int .u8 (a 2), .int .u8 (a 3)]] W fun e w' => e = .returned (.bool true) ∧ Below W.heap.size W w' := by
  rcases addrs_down h0 with rfl | ⟨p, n, c0, X, rfl, hn, hX, hA⟩
  · rcases ints_down h1 with rfl | ⟨y, m, c1, C, rfl, hm, hB⟩
    · by_cases hc : pos = 0
      · subst hc
        exact law4_nn 0 0 (fun _ _ => 0) (fun _ => 0) d x a z W (by omega) (by omega) no_bytes hx ha hz rfl
      · exact law4_out _ _ 0 0 _ _ pos d x a W (Nat.zero_le _) (Nat.zero_le _) (by omega)
    · by_cases hm0 : m = 0
      · subst hm0
        by_cases hc : pos = 0
        · subst hc
          exact law4_ns y c1 0 0 (fun _ _ => 0) C d x a z W (by omega) (by omega) no_bytes hx ha hz rfl hB
        · exact law4_out _ _ 0 0 _ _ pos d x a W (Nat.zero_le _) (Nat.zero_le _) (by omega)
      · exact law4_out _ _ 0 m _ _ pos d x a W (Nat.zero_le _) hm (by omega)
  · rcases ints_down h1 with rfl | ⟨y, m, c1, C, rfl, hm, hB⟩
    · by_cases hn0 : n = 0
      · subst hn0
        by_cases hc : pos = 0
        · subst hc
          exact law4_sn p c0 0 0 X (fun _ => 0) d x a z W (by omega) (by omega) hX hx ha hz rfl hA
        · exact law4_out _ _ 0 0 _ _ pos d x a W (Nat.zero_le _) (Nat.zero_le _) (by omega)
      · exact law4_out _ _ n 0 _ _ pos d x a W hn (Nat.zero_le _) (by omega)
    · by_cases ho : 65536 < n ∨ 65536 < m ∨ n ≠ m ∨ pos < 0 ∨ (n : Int) < pos
      · exact law4_out _ _ n m _ _ pos d x a W hn hm ho
      · obtain rfl : n = m := by omega
        obtain ⟨c, rfl⟩ : ∃ c : Nat, pos = c := ⟨pos.toNat, by omega⟩
        exact law4_ss p y c0 c1 n c X C d x a z W (by omega) (by omega) hX hx ha hz hA hB

set_option maxRecDepth 100000 in
theorem lifted4 (os : Os) (started : os.Started) (H : Type) (enc : TypeId × Value → H) :
    ReturnsInHanded {} Tryd.checked os 4 .any (fun w args => (Rows.fnWithinOnePrefixPutInAnywhereSpec.pre enc Tryd.prog Tryd.f4 [] false w args ∧ laidMetH Tryd.prog laid3 w) ∧ sizedMet enc Tryd.prog Tryd.f4 (OpenSpec.ofChange Rows.fnWithinOnePrefixPutInAnywhereSpec) false w args)
      (Rows.fnWithinOnePrefixPutInAnywhereSpec.post enc Tryd.prog Tryd.f4 false true false false) := by
  refine returnsInHanded_of_change_and (C := Tryd.checked) (X := fun w _ => laidMetH Tryd.prog laid3 w) (fun _ _ _ hh h => h.of_heap hh) own started (by kernel_rfl) Tryd.func4
    (ChangeSpec.witness_shaped (enc := enc) (C := Tryd.checked) (os := os) (X := fun w _ => laidMetH Tryd.prog laid3 w) false (World.laidAll Tryd.prog os laid3) #[.slice .none 0 0, .slice .none 0 0, .int .i64 0, .agg #[.int .u8 0, .int .u8 0, .int .u8 0, .int .u8 0], .int .i64 0, .agg #[.int .u8 0, .int .u8 0, .int .u8 0, .int .u8 0]] 8 (World.laidAll_os _ _ _) (World.shaped_of_ZipB (by kernel_rfl) (by kernel_rfl)) (by kernel_rfl) (by kernel_rfl) (by kernel_rfl) (start_met os _)) ?_
  intro W base args ds gs before hval0 hW _ _ hL _
  have hval : ∀ (j : Nat) t v, Tryd.f4.params[j]? = some t → args[j]? = some v → Value.okWide Tryd.prog W .any base t v := hval0
  have hW' := hW
  obtain ⟨p, q, hA0, hV, rfl, hfz, hnd⟩ := hW
  have hA : DataW.TrodAll enc Tryd.prog W 0 (fun _ => true) true Tryd.f4.params.toList args.toList ds p := hA0
  rw [Tryd.params4] at hA hval
  obtain ⟨v0, vs0, d0, ds0, p0, q0, hargs, rfl, rfl, h0, r0⟩ := trodAll_cons hA
  obtain ⟨v1, vs1, d1, ds1, p1, q1, rfl, rfl, rfl, h1, r1⟩ := trodAll_cons r0
  obtain ⟨v2, vs2, d2, ds2, p2, q2, rfl, rfl, rfl, h2, r2⟩ := trodAll_cons r1
  obtain ⟨v3, vs3, d3, ds3, p3, q3, rfl, rfl, rfl, h3, r3⟩ := trodAll_cons r2
  obtain ⟨v4, vs4, d4, ds4, p4, q4, rfl, rfl, rfl, h4, r4⟩ := trodAll_cons r3
  obtain ⟨v5, vs5, d5, ds5, p5, q5, rfl, rfl, rfl, h5, r5⟩ := trodAll_cons r4
  obtain ⟨rfl, rfl, rfl⟩ := trodAll_nil r5
  obtain rfl : args = #[v0, v1, v2, v3, v4, v5] := by cases args; simp_all
  obtain ⟨rfl, rfl⟩ := trodVars_none hV
  have lt : ∀ {t : TypeId} {v : Value} {d : DataW H} {p : List MemPlace}, DataW.Trod enc Tryd.prog W 0 (fun _ => true) true t v d p → ∀ x ∈ p, x.block < W.heap.size := fun k => by obtain ⟨m, hm⟩ := k; exact DataW.trod_lt m _ _ _ hm
  obtain ⟨a0, len0, cap0, rfl⟩ := okWide_slice Tryd.underlying22 (hval 0 22 v0 rfl rfl)
  obtain ⟨a1, len1, cap1, rfl⟩ := okWide_slice Tryd.underlying23 (hval 1 23 v1 rfl rfl)
  obtain ⟨x, hx, rfl⟩ := four_value (hval 3 24 v3 rfl rfl) h3
  obtain ⟨a, ha, rfl⟩ := four_value (hval 5 24 v5 rfl rfl) h5
  obtain ⟨pos, rfl, rfl, rfl, wp⟩ := open_int Tryd.underlying3 (hval 2 3 v2 rfl rfl) h2
  obtain ⟨d, rfl, rfl, rfl, wd⟩ := open_int Tryd.underlying3 (hval 4 3 v4 rfl rfl) h4
  obtain ⟨z, hz⟩ := of_laid hL
  clear hA0 hval0
  have k0 := h0
  have k1 := h1
  obtain ⟨fuel0, hf0⟩ := h0
  obtain ⟨fuel1, hf1⟩ := h1
  refine (law4_walk pos d x a W z hz hx ha (by simpa [Value.cells] using hf0) (by simpa [Value.cells] using hf1)).mono fun e W' ⟨he, bel⟩ => ?_
  subst he
  exact ⟨_, rfl, _, _, _, [], _, [], hW', trodAll_mk1 (shut_bool Tryd.underlying4 _), (trodAll_cons_mk (Below.trod laidOut (by kernel_rfl) (of_decide_eq_true (by kernel_rfl)) k0 bel (lt k0)) (trodAll_cons_mk (Below.trod laidOut (by kernel_rfl) (of_decide_eq_true (by kernel_rfl)) k1 bel (lt k1)) (trodAll_cons_mk (shut_int Tryd.underlying3 wp) (trodAll_cons_mk (Below.trod laidOut (by kernel_rfl) (of_decide_eq_true (by kernel_rfl)) h3 bel (lt h3)) (trodAll_cons_mk (shut_int Tryd.underlying3 wd) (trodAll_cons_mk (Below.trod laidOut (by kernel_rfl) (of_decide_eq_true (by kernel_rfl)) h5 bel (lt h5)) trodAll_mk0)))))), rfl, bel.frame _, fun h => by cases h⟩

theorem row4 : Rows.FnWithinOnePrefixPutInAnywhereSaid :=
  OpenClaim.holds_of_wide 4 Tryd.f4 rfl rfl rfl rfl rfl rfl rfl ⟨rfl, rfl, rfl, rfl, rfl⟩ rfl rfl rfl rfl rfl (by kernel_rfl) Tryd.func4 (by kernel_rfl)
    (of_decide_eq_true (by kernel_rfl)) (by unfold Func.isWrapper; first | (rw [if_pos (by decide +kernel)]; kernel_rfl) | (rw [if_neg (by decide +kernel)]; exact ⟨rfl, rfl⟩))
    (fun os started H enc _ => lifted4 os started H enc)

/-- THE STATEMENT -/
theorem card4 : Rows.FnWithinOnePrefixPutInAnywhereCardSaid :=
  Claim7.holds_tied_plain_at .later [] [.called, .called, .zero] true (true, "9249c6fd74ec4ac57aef7c191b8e8fea0f03533da8482029a002ebfa4accd14b") false
    row4 (fun _ h => by cases h) (by kernel_rfl) (fun _ h => by cases h) fnWithinOnePrefixPutInAnywhere_row_tie rfl ⟨rfl, rfl⟩ (by kernel_rfl) rfl
    (fun f fn hf hfn => by
      obtain rfl : f = 4 := Option.some.inj ((show Tryd.prog.funcNamed Tryd.f4.name = some 4 by kernel_rfl).symm.trans hf) |>.symm
      obtain rfl : fn = Tryd.f4 := (Option.some.inj (Tryd.func4.symm.trans hfn)).symm
      exact ⟨by kernel_rfl, fun j t ht => by
        rw [Tryd.params4] at ht
        have hm : t ∈ [22, 23, 3, 24, 3, 24] := by simpa using Array.mem_of_getElem? ht
        have hall : ([22, 23, 3, 24, 3, 24].all fun u => !Tryd.prog.wantsStandIn u) = true := by kernel_rfl
        exact (show Tryd.prog.wantsStandIn t = false by simpa using List.all_eq_true.1 hall t hm)⟩)
    (by kernel_rfl)
#print axioms card4
end Go.Proofs.Qxb6612599aDoor
