/- THE STATEMENT: FnAccountJoinsAtAnyCut. -/
import Derived.Test.Qxb6612755aP0
import Derived.Test.Qxb6612755aD4
namespace Go.Proofs.Qxb6612755a
open Go.ChangeShapes Go.WideShapes Go.ChangeAt Go.RowKit

theorem law4_walk {H : Type} {enc : TypeId × Value → H} {f0 f1 f2 : Nat} {v0 v1 v2 : Value} {y0 y1 y2 : DataW H × List MemPlace} (site n peer : Int) (hf : Bool) (cut : Int) (W : World)
    (t0 : DataW.trod enc Try.prog W 0 (fun _ => true) true f0 22 [v0] = some y0) (t1 : DataW.trod enc Try.prog W 0 (fun _ => true) true f1 23 [v1] = some y1) (t2 : DataW.trod enc Try.prog W 0 (fun _ => true) true f2 22 [v2] = some y2) :
    Calls Try.prog 4 #[.int .i64 site, .int .i64 n, v0, .int .i64 peer, v1, .bool hf, v2, .int .i64 cut] W fun e w' => e = .returned (.bool true) ∧ Below W.heap.size W w' := by
  obtain ⟨a, m, hc, A, L, cp, X, rfl, hmc, hcm, hL, hH⟩ := held_down t1
  have hm : m ≤ maxLen := Nat.le_trans hmc hcm
  rcases ints_down t0 with rfl | ⟨x, pn, pc, P, rfl, hpn, hP⟩
  · rcases ints_down t2 with rfl | ⟨y, fl, fc, F, rfl, hfl, hF⟩
    · by_cases ho : 131072 < 0 ∨ 131072 < 0 ∨ 131072 < m
      · exact law4_out site n _ 0 _ peer a m hc A L cp X hf _ 0 _ cut W hH (Nat.zero_le _) hm (Nat.zero_le _) hL ho
      · exact law4_no_nn site n peer 0 0 0 0 a m hc A L cp X hf cut W hH (by omega) (by omega) (by omega) hL (fun h => by have := h.pos.1; omega)
    · by_cases ho : 131072 < 0 ∨ 131072 < fl ∨ 131072 < m
      · exact law4_out site n _ 0 _ peer a m hc A L cp X hf _ fl _ cut W hH (Nat.zero_le _) hm hfl hL ho
      · exact law4_no_ns site n peer 0 0 fl fc y F a m hc A L cp X hf cut W hH (by omega) (by omega) (by omega) hL hF (fun h => by have := h.pos.1; omega)
  · rcases ints_down t2 with rfl | ⟨y, fl, fc, F, rfl, hfl, hF⟩
    · by_cases ho : 131072 < pn ∨ 131072 < 0 ∨ 131072 < m
      · exact law4_out site n _ pn _ peer a m hc A L cp X hf _ 0 _ cut W hH hpn hm (Nat.zero_le _) hL ho
      · by_cases hD : Dom site n pn peer m L hf 0
        · have hp2 := hD.pos.2
          obtain ⟨s, k, p, rfl, rfl, rfl, hN, k1, k2, hs, hp, hLk, hfk⟩ := hD.nat
          cases hf with
          | true => exact absurd (hp2 rfl) (by omega)
          | false => exact law4_fn s k p pn pc 0 0 x P a m hc A L cp X cut W hmc hH (by omega) (by omega) (by omega) hL hP hN k1 k2 hs hp hLk
        · exact law4_no_sn site n peer pn pc 0 0 x P a m hc A L cp X hf cut W hH (by omega) (by omega) (by omega) hL hP hD
    · by_cases ho : 131072 < pn ∨ 131072 < fl ∨ 131072 < m
      · exact law4_out site n _ pn _ peer a m hc A L cp X hf _ fl _ cut W hH hpn hm hfl hL ho
      · by_cases hD : Dom site n pn peer m L hf fl
        · obtain ⟨s, k, p, rfl, rfl, rfl, hN, k1, k2, hs, hp, hLk, hfk⟩ := hD.nat
          cases hf with
          | true =>
            obtain rfl : fl = pn := by rw [hN]; exact hfk rfl
            exact law4_ts s k p fl pc fc x P y F a m hc A L cp X cut W hmc hH (by omega) (by omega) hL hP hF hN k1 k2 hs hp hLk
          | false => exact law4_fs s k p pn pc fl fc x P y F a m hc A L cp X cut W hmc hH (by omega) (by omega) (by omega) hL hP hF hN k1 k2 hs hp hLk
        · exact law4_no_ss site n peer pn pc fl fc x P y F a m hc A L cp X hf cut W hH (by omega) (by omega) (by omega) hL hP hF hD

set_option maxRecDepth 100000 in
theorem lifted4 (os : Os) (started : os.Started) (H : Type) (enc : TypeId × Value → H) :
    ReturnsInHanded {} Try.checked os 4 .any (Rows.fnAccountJoinsAtAnyCutSpec.pre6 enc Try.prog Try.f4 Rows.fnAccountJoinsAtAnyCutRow.domain false) (Rows.fnAccountJoinsAtAnyCutSpec.post enc Try.prog Try.f4 false true false false) := by
  refine returnsInHanded_of_change (C := Try.checked) own started (by kernel_rfl) Try.func4
    (ChangeSpec.witness6 (enc := enc) (C := Try.checked) false ⟨#[], #[.int .i64 0, .int .i64 0, .slice .none 0 0, .int .i64 0, .slice .none 0 0, .bool false, .slice .none 0 0, .int .i64 0], []⟩ 8 (by kernel_rfl) (by kernel_rfl) (by kernel_rfl) (by kernel_rfl)) ?_
  intro W base args ds gs before hval0 hW hcnd _
  have hval : ∀ (j : Nat) t v, Try.f4.params[j]? = some t → args[j]? = some v → Value.okWide Try.prog W .any base t v := hval0
  have hW' := hW
  obtain ⟨p, q, hA0, hV, rfl, hfz, hnd⟩ := hW
  have hA : DataW.TrodAll enc Try.prog W 0 (fun _ => true) true Try.f4.params.toList args.toList ds p := hA0
  rw [Try.params4] at hA hval
  obtain ⟨v0, vs0, d0, ds0, p0, q0, hargs, rfl, rfl, h0, r0⟩ := trodAll_cons hA
  obtain ⟨v1, vs1, d1, ds1, p1, q1, rfl, rfl, rfl, h1, r1⟩ := trodAll_cons r0
  obtain ⟨v2, vs2, d2, ds2, p2, q2, rfl, rfl, rfl, h2, r2⟩ := trodAll_cons r1
  obtain ⟨v3, vs3, d3, ds3, p3, q3, rfl, rfl, rfl, h3, r3⟩ := trodAll_cons r2
  obtain ⟨v4, vs4, d4, ds4, p4, q4, rfl, rfl, rfl, h4, r4⟩ := trodAll_cons r3
  obtain ⟨v5, vs5, d5, ds5, p5, q5, rfl, rfl, rfl, h5, r5⟩ := trodAll_cons r4
  obtain ⟨v6, vs6, d6, ds6, p6, q6, rfl, rfl, rfl, h6, r6⟩ := trodAll_cons r5
  obtain ⟨v7, vs7, d7, ds7, p7, q7, rfl, rfl, rfl, h7, r7⟩ := trodAll_cons r6
  obtain ⟨rfl, rfl, rfl⟩ := trodAll_nil r7
  obtain rfl : args = #[v0, v1, v2, v3, v4, v5, v6, v7] := by cases args; simp_all
  obtain ⟨rfl, rfl⟩ := trodVars_none hV
  have lt : ∀ {t : TypeId} {v : Value} {d : DataW H} {p : List MemPlace}, DataW.Trod enc Try.prog W 0 (fun _ => true) true t v d p → ∀ x ∈ p, x.block < W.heap.size := fun k => by obtain ⟨m, hm⟩ := k; exact DataW.trod_lt m _ _ _ hm
  obtain ⟨a2, len2, cap2, rfl⟩ := okWide_slice Try.underlying22 (hval 2 22 v2 rfl rfl)
  obtain ⟨a4, len4, cap4, rfl⟩ := okWide_slice Try.underlying23 (hval 4 23 v4 rfl rfl)
  obtain ⟨a6, len6, cap6, rfl⟩ := okWide_slice Try.underlying22 (hval 6 22 v6 rfl rfl)
  obtain ⟨site, rfl, rfl, rfl, w0⟩ := open_int Try.underlying3 (hval 0 3 v0 rfl rfl) h0
  obtain ⟨n, rfl, rfl, rfl, w1⟩ := open_int Try.underlying3 (hval 1 3 v1 rfl rfl) h1
  obtain ⟨peer, rfl, rfl, rfl, w3⟩ := open_int Try.underlying3 (hval 3 3 v3 rfl rfl) h3
  obtain ⟨hf, rfl, rfl, rfl⟩ := open_bool Try.underlying4 (hval 5 4 v5 rfl rfl) h5
  obtain ⟨cut, rfl, rfl, rfl, w7⟩ := open_int Try.underlying3 (hval 7 3 v7 rfl rfl) h7
  clear hA0 hval0
  have k2 := h2
  have k4 := h4
  have k6 := h6
  obtain ⟨fuel2, hf2⟩ := h2
  obtain ⟨fuel4, hf4⟩ := h4
  obtain ⟨fuel6, hf6⟩ := h6
  refine (law4_walk site n peer hf cut W (by simpa [Value.cells] using hf2) (by simpa [Value.cells] using hf4) (by simpa [Value.cells] using hf6)).mono fun e W' ⟨he, bel⟩ => ?_
  subst he
  exact ⟨_, rfl, _, _, _, [], _, [], hW', trodAll_mk1 (shut_bool Try.underlying4 _), (trodAll_cons_mk (shut_int Try.underlying3 w0) (trodAll_cons_mk (shut_int Try.underlying3 w1) (trodAll_cons_mk (Below.trod laidOut (by kernel_rfl) (of_decide_eq_true (by kernel_rfl)) k2 bel (lt k2)) (trodAll_cons_mk (shut_int Try.underlying3 w3) (trodAll_cons_mk (Below.trod laidOut (by kernel_rfl) (of_decide_eq_true (by kernel_rfl)) k4 bel (lt k4)) (trodAll_cons_mk (shut_bool Try.underlying4 _) (trodAll_cons_mk (Below.trod laidOut (by kernel_rfl) (of_decide_eq_true (by kernel_rfl)) k6 bel (lt k6)) (trodAll_cons_mk (shut_int Try.underlying3 w7) trodAll_mk0)))))))), rfl, bel.frame _, fun h => by cases h⟩

theorem over4 : Rows.fnAccountJoinsAtAnyCutRow.holds Try.pinned (OpenSpec.ofChange Rows.fnAccountJoinsAtAnyCutSpec) :=
  OpenClaim.holds_of_wide 4 Try.f4 rfl rfl rfl rfl rfl rfl rfl ⟨rfl, rfl, rfl, rfl, rfl⟩ rfl rfl rfl rfl rfl (by kernel_rfl) Try.func4 (by kernel_rfl)
    (of_decide_eq_true (by kernel_rfl)) (by unfold Func.isWrapper; first | (rw [if_pos (by decide +kernel)]; kernel_rfl) | (rw [if_neg (by decide +kernel)]; exact ⟨rfl, rfl⟩))
    (fun os started H enc _ => lifted4 os started H enc)

/-- THE STATEMENT -/
theorem proved4 : Rows.FnAccountJoinsAtAnyCutSaid := over4
#print axioms proved4
end Go.Proofs.Qxb6612755a
