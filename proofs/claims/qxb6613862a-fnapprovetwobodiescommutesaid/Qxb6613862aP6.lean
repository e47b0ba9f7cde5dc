import Derived.Test.Qxb6613862aLaw6
import Derived.Test.Qxb6613862aOpen5
namespace Go.Proofs.Qxb6613862a
open Go.ChangeShapes Go.WideShapes Go.ChangeAt Go.RowKit

theorem read6 : ([32, 3, 3, 21, 3, 3, 21, 37] : List TypeId).all (fun t => Try.prog.readableRec t && decide (t < Try.prog.types.size)) = true := by kernel_rfl
set_option maxRecDepth 100000 in
theorem lifted6 (os : Os) (started : os.Started) (H : Type) (enc : TypeId × Value → H) :
    ReturnsInHanded {} Try.checked os 6 .any (Rows.fnApproveTwoBodiesCommuteSpec.pre6 enc Try.prog Try.f6 Rows.fnApproveTwoBodiesCommuteRow.domain false) (Rows.fnApproveTwoBodiesCommuteSpec.post enc Try.prog Try.f6 false true false false) := by
  refine returnsInHanded_of_change (C := Try.checked) Try.own started (by kernel_rfl) Try.func6
    (ChangeSpec.witness6 (enc := enc) (C := Try.checked) false ⟨#[], #[.slice none 0 0, .int .i64 0, .int .i64 0, .int .i32 0, .int .i64 0, .int .i64 0, .int .i32 0, .slice none 0 0], []⟩ 8 (by kernel_rfl) (by kernel_rfl) (by kernel_rfl) (by kernel_rfl)) ?_
  intro W base args ds gs before hval0 hW hcnd _
  have hval : ∀ (j : Nat) t v, Try.f6.params[j]? = some t → args[j]? = some v → Value.okWide Try.prog W .any base t v := hval0
  have hW' := hW
  obtain ⟨p, q, hA0, hV, rfl, hfz, hnd⟩ := hW
  have hA : DataW.TrodAll enc Try.prog W 0 (fun _ => true) true Try.f6.params.toList args.toList ds p := hA0
  rw [Try.params6] at hA hval
  have hA1 := hA
  obtain ⟨v0, vs0, d0, ds0, p0, q0, hargs, rfl, rfl, h0, r0⟩ := trodAll_cons hA
  obtain ⟨v1, vs1, d1, ds1, p1, q1, rfl, rfl, rfl, h1, r1⟩ := trodAll_cons r0
  obtain ⟨v2, vs2, d2, ds2, p2, q2, rfl, rfl, rfl, h2, r2⟩ := trodAll_cons r1
  obtain ⟨v3, vs3, d3, ds3, p3, q3, rfl, rfl, rfl, h3, r3⟩ := trodAll_cons r2
  obtain ⟨v4, vs4, d4, ds4, p4, q4, rfl, rfl, rfl, h4, r4⟩ := trodAll_cons r3
  obtain ⟨v5, vs5, d5, ds5, p5, q5, rfl, rfl, rfl, h5, r5⟩ := trodAll_cons r4
  obtain ⟨v6, vs6, d6, ds6, p6, q6, rfl, rfl, rfl, h6, r6⟩ := trodAll_cons r5
  obtain ⟨v7, vs7, d7, ds7, p7, q7, rfl, rfl, rfl, h7, r7⟩ := trodAll_cons r6
  obtain ⟨rfl, rfl, rfl⟩ := trodAll_nil r7
  obtain rfl : args = #[v0, v1, v2, v3, v4, v5, v6, v7] := by cases args; simp_all
  obtain ⟨rfl, rfl⟩ := trodVars_none hV
  have hlt : ∀ x ∈ p0 ++ (p1 ++ (p2 ++ (p3 ++ (p4 ++ (p5 ++ (p6 ++ (p7 ++ []))))))), x.block < W.heap.size := fun x hx => by
    have := hW'.lt x (by simpa using hx)
    exact this
  obtain ⟨ta0, tl0, tc0, e0'⟩ := okWide_slice Try.underlying32 (hval 0 32 v0 rfl rfl)
  subst e0'
  obtain ⟨fu0, hf0⟩ := h0
  obtain ⟨ao, b, off, L, cap, hI, e0, hi, hz⟩ := ints_of hf0
  simp only [Value.slice.injEq] at e0
  obtain ⟨rfl, rfl, rfl⟩ := e0
  obtain ⟨fa, e1, -, -, -⟩ := open_int Try.underlying3 (hval 1 3 v1 rfl rfl) h1
  subst e1
  obtain ⟨ba, e2, -, -, -⟩ := open_int Try.underlying3 (hval 2 3 v2 rfl rfl) h2
  subst e2
  obtain ⟨aa, e3, -, -, -⟩ := open_int Try.underlying21 (hval 3 21 v3 rfl rfl) h3
  subst e3
  obtain ⟨fb, e4, -, -, -⟩ := open_int Try.underlying3 (hval 4 3 v4 rfl rfl) h4
  subst e4
  obtain ⟨bb, e5, -, -, -⟩ := open_int Try.underlying3 (hval 5 3 v5 rfl rfl) h5
  subst e5
  obtain ⟨ab, e6, -, -, -⟩ := open_int Try.underlying21 (hval 6 21 v6 rfl rfl) h6
  subst e6
  obtain ⟨ta7, tl7, tc7, e7'⟩ := okWide_slice Try.underlying37 (hval 7 37 v7 rfl rfl)
  subst e7'
  obtain ⟨fu7, hf7⟩ := h7
  obtain ⟨ro, rb, roff, n, rc, D, Bo, Me, Am, e7, hr⟩ := rs_of hf7
  simp only [Value.slice.injEq] at e7
  obtain ⟨rfl, rfl, rfl⟩ := e7
  refine (law6 ta0 b off tl0 tc0 hI fa ba aa fb bb ab ta7 rb roff tl7 tc7 D Bo Me Am W hi hz hr).mono fun e W' ⟨he, hbel⟩ => ?_
  subst he
  refine ⟨_, rfl, _, _, _, [], p0 ++ (p1 ++ (p2 ++ (p3 ++ (p4 ++ (p5 ++ (p6 ++ (p7 ++ []))))))), [], hW', ?_, ?_, rfl, hbel.frame _, fun h => by cases h⟩
  · exact trodAll_mk1 (shut_bool Try.underlying4 true)
  · exact trodAll_below hbel _ _ _ _ (readable_of _ read6) hA1 hlt

theorem approve_commute_holds : Rows.FnApproveTwoBodiesCommuteSaid :=
  OpenClaim.holds_of_wide 6 Try.f6 rfl rfl rfl rfl rfl rfl rfl ⟨rfl, rfl, rfl, rfl, rfl⟩ rfl rfl rfl rfl rfl (by kernel_rfl) Try.func6 (by kernel_rfl)
    (of_decide_eq_true (by kernel_rfl)) (by unfold Func.isWrapper; first | (rw [if_pos (by decide +kernel)]; kernel_rfl) | (rw [if_neg (by decide +kernel)]; exact ⟨rfl, rfl⟩))
    (fun os started H enc _ => lifted6 os started H enc)
end Go.Proofs.Qxb6613862a
