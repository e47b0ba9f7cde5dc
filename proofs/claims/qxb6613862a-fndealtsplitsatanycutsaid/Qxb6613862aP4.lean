import Derived.Test.Qxb6613862aSplits
import Derived.Test.Qxb6613862aOpen
namespace Go.Proofs.Qxb6613862a
open Go.ChangeShapes Go.WideShapes Go.ChangeAt Go.RowKit

theorem read4 : ([22, 3] : List TypeId).all (fun t => Try.prog.readableRec t && decide (t < Try.prog.types.size)) = true := by kernel_rfl
set_option maxRecDepth 100000 in
theorem lifted4 (os : Os) (started : os.Started) (H : Type) (enc : TypeId × Value → H) :
    ReturnsInHanded {} Try.checked os 4 .any (Rows.fnDealtSplitsAtAnyCutSpec.pre6 enc Try.prog Try.f4 Rows.fnDealtSplitsAtAnyCutRow.domain false) (Rows.fnDealtSplitsAtAnyCutSpec.post enc Try.prog Try.f4 false true false false) := by
  refine returnsInHanded_of_change (C := Try.checked) Try.own started (by kernel_rfl) Try.func4
    (ChangeSpec.witness6 (enc := enc) (C := Try.checked) false ⟨#[], #[.slice none 0 0, .int .i64 0], []⟩ 8 (by kernel_rfl) (by kernel_rfl) (by kernel_rfl) (by kernel_rfl)) ?_
  intro W base args ds gs before hval0 hW hcnd _
  have hval : ∀ (j : Nat) t v, Try.f4.params[j]? = some t → args[j]? = some v → Value.okWide Try.prog W .any base t v := hval0
  have hW' := hW
  obtain ⟨p, q, hA0, hV, rfl, hfz, hnd⟩ := hW
  have hA : DataW.TrodAll enc Try.prog W 0 (fun _ => true) true Try.f4.params.toList args.toList ds p := hA0
  rw [Try.params4] at hA hval
  have hA1 := hA
  obtain ⟨v0, vs0, d0, ds0, p0, q0, hargs, rfl, rfl, h0, r0⟩ := trodAll_cons hA
  obtain ⟨v1, vs1, d1, ds1, p1, q1, rfl, rfl, rfl, h1, r1⟩ := trodAll_cons r0
  obtain ⟨rfl, rfl, rfl⟩ := trodAll_nil r1
  obtain rfl : args = #[v0, v1] := by cases args; simp_all
  obtain ⟨rfl, rfl⟩ := trodVars_none hV
  have hlt : ∀ x ∈ p0 ++ (p1 ++ []), x.block < W.heap.size := fun x hx => by
    have := hW'.lt x (by simpa using hx)
    exact this
  obtain ⟨ta0, tl0, tc0, e0'⟩ := okWide_slice Try.underlying22 (hval 0 22 v0 rfl rfl)
  subst e0'
  obtain ⟨fu0, hf0⟩ := h0
  obtain ⟨ao, b, off, L, cap, P, A, B, e0, hD⟩ := deals_of hf0
  simp only [Value.slice.injEq] at e0
  obtain ⟨rfl, rfl, rfl⟩ := e0
  obtain ⟨cut, e1, -, -, -⟩ := open_int Try.underlying3 (hval 1 3 v1 rfl rfl) h1
  subst e1
  refine (splits ta0 b off tl0 tc0 cut P A B W hD).mono fun e W' ⟨he, hbel⟩ => ?_
  subst he
  refine ⟨_, rfl, _, _, _, [], p0 ++ (p1 ++ []), [], hW', ?_, ?_, rfl, hbel.frame _, fun h => by cases h⟩
  · exact trodAll_mk1 (shut_bool Try.underlying4 true)
  · exact trodAll_below hbel _ _ _ _ (readable_of _ read4) hA1 hlt

theorem splits_holds : Rows.FnDealtSplitsAtAnyCutSaid :=
  OpenClaim.holds_of_wide 4 Try.f4 rfl rfl rfl rfl rfl rfl rfl ⟨rfl, rfl, rfl, rfl, rfl⟩ rfl rfl rfl rfl rfl (by kernel_rfl) Try.func4 (by kernel_rfl)
    (of_decide_eq_true (by kernel_rfl)) (by unfold Func.isWrapper; first | (rw [if_pos (by decide +kernel)]; kernel_rfl) | (rw [if_neg (by decide +kernel)]; exact ⟨rfl, rfl⟩))
    (fun os started H enc _ => lifted4 os started H enc)
end Go.Proofs.Qxb6613862a
