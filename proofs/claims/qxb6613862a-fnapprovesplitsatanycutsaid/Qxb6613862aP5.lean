import Derived.Test.Qxb6613862aLaw5
import Derived.Test.Qxb6613862aOpen5
namespace Go.Proofs.Qxb6613862a
open Go.ChangeShapes Go.WideShapes Go.ChangeAt Go.RowKit

theorem read5 : ([32, 3, 3, 3, 37, 21] : List TypeId).all (fun t => Try.prog.readableRec t && decide (t < Try.prog.types.size)) = true := by kernel_rfl
set_option maxRecDepth 100000 in
theorem lifted5 (os : Os) (started : os.Started) (H : Type) (enc : TypeId × Value → H) :
    ReturnsInHanded {} Try.checked os 5 .any (Rows.fnApproveSplitsAtAnyCutSpec.pre6 enc Try.prog Try.f5 Rows.fnApproveSplitsAtAnyCutRow.domain false) (Rows.fnApproveSplitsAtAnyCutSpec.post enc Try.prog Try.f5 false true false false) := by
  refine returnsInHanded_of_change (C := Try.checked) Try.own started (by kernel_rfl) Try.func5
    (ChangeSpec.witness6 (enc := enc) (C := Try.checked) false ⟨#[], #[.slice none 0 0, .int .i64 0, .int .i64 0, .int .i64 0, .slice none 0 0, .int .i32 0], []⟩ 8 (by kernel_rfl) (by kernel_rfl) (by kernel_rfl) (by kernel_rfl)) ?_
  intro W base args ds gs before hval0 hW hcnd _
  have hval : ∀ (j : Nat) t v, Try.f5.params[j]? = some t → args[j]? = some v → Value.okWide Try.prog W .any base t v := hval0
  have hW' := hW
  obtain ⟨p, q, hA0, hV, rfl, hfz, hnd⟩ := hW
  have hA : DataW.TrodAll enc Try.prog W 0 (fun _ => true) true Try.f5.params.toList args.toList ds p := hA0
  rw [Try.params5] at hA hval
  have hA1 := hA
  obtain ⟨v0, vs0, d0, ds0, p0, q0, hargs, rfl, rfl, h0, r0⟩ := trodAll_cons hA
  obtain ⟨v1, vs1, d1, ds1, p1, q1, rfl, rfl, rfl, h1, r1⟩ := trodAll_cons r0
  obtain ⟨v2, vs2, d2, ds2, p2, q2, rfl, rfl, rfl, h2, r2⟩ := trodAll_cons r1
  obtain ⟨v3, vs3, d3, ds3, p3, q3, rfl, rfl, rfl, h3, r3⟩ := trodAll_cons r2
  obtain ⟨v4, vs4, d4, ds4, p4, q4, rfl, rfl, rfl, h4, r4⟩ := trodAll_cons r3
  obtain ⟨v5, vs5, d5, ds5, p5, q5, rfl, rfl, rfl, h5, r5⟩ := trodAll_cons r4
  obtain ⟨rfl, rfl, rfl⟩ := trodAll_nil r5
  obtain rfl : args = #[v0, v1, v2, v3, v4, v5] := by cases args; simp_all
  obtain ⟨rfl, rfl⟩ := trodVars_none hV
  have hlt : ∀ x ∈ p0 ++ (p1 ++ (p2 ++ (p3 ++ (p4 ++ (p5 ++ []))))), x.block < W.heap.size := fun x hx => by
    have := hW'.lt x (by simpa using hx)
    exact this
  obtain ⟨ta0, tl0, tc0, e0'⟩ := okWide_slice Try.underlying32 (hval 0 32 v0 rfl rfl)
  subst e0'
  obtain ⟨fu0, hf0⟩ := h0
  obtain ⟨ao, b, off, L, cap, hI, e0, hi, hz⟩ := ints_of hf0
  simp only [Value.slice.injEq] at e0
  obtain ⟨rfl, rfl, rfl⟩ := e0
  obtain ⟨fr, e1, -, -, -⟩ := open_int Try.underlying3 (hval 1 3 v1 rfl rfl) h1
  subst e1
  obtain ⟨ct, e2, -, -, -⟩ := open_int Try.underlying3 (hval 2 3 v2 rfl rfl) h2
  subst e2
  obtain ⟨body, e3, -, -, -⟩ := open_int Try.underlying3 (hval 3 3 v3 rfl rfl) h3
  subst e3
  obtain ⟨ta4, tl4, tc4, e4'⟩ := okWide_slice Try.underlying37 (hval 4 37 v4 rfl rfl)
  subst e4'
  obtain ⟨fu4, hf4⟩ := h4
  obtain ⟨ro, rb, roff, n, rc, D, Bo, Me, Am, e4, hr⟩ := rs_of hf4
  simp only [Value.slice.injEq] at e4
  obtain ⟨rfl, rfl, rfl⟩ := e4
  obtain ⟨at_, e5, -, -, -⟩ := open_int Try.underlying21 (hval 5 21 v5 rfl rfl) h5
  subst e5
  refine (law5 ta0 b off tl0 tc0 hI fr ct body at_ ta4 rb roff tl4 tc4 D Bo Me Am W hi hz hr).mono fun e W' ⟨he, hbel⟩ => ?_
  subst he
  refine ⟨_, rfl, _, _, _, [], p0 ++ (p1 ++ (p2 ++ (p3 ++ (p4 ++ (p5 ++ []))))), [], hW', ?_, ?_, rfl, hbel.frame _, fun h => by cases h⟩
  · exact trodAll_mk1 (shut_bool Try.underlying4 true)
  · exact trodAll_below hbel _ _ _ _ (readable_of _ read5) hA1 hlt

theorem approve_splits_holds : Rows.FnApproveSplitsAtAnyCutSaid :=
  OpenClaim.holds_of_wide 5 Try.f5 rfl rfl rfl rfl rfl rfl rfl ⟨rfl, rfl, rfl, rfl, rfl⟩ rfl rfl rfl rfl rfl (by kernel_rfl) Try.func5 (by kernel_rfl)
    (of_decide_eq_true (by kernel_rfl)) (by unfold Func.isWrapper; first | (rw [if_pos (by decide +kernel)]; kernel_rfl) | (rw [if_neg (by decide +kernel)]; exact ⟨rfl, rfl⟩))
    (fun os started H enc _ => lifted5 os started H enc)
end Go.Proofs.Qxb6613862a
