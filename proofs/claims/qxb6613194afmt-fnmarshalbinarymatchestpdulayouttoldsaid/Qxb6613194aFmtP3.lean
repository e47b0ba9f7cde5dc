import Derived.Test.Qxb6613194aFmtLaw3
import Derived.Test.Qxb6613194aFmtCardKit
namespace Go.Proofs.Qxb6613194aFmt
open Go.ChangeShapes Go.WideShapes Go.ChangeAt Go.RowKit
open Go.ChangeMaps (open_string shut_string)
open Go.Extern.Stop Go.Stop Go.Extern

theorem read12 : ([4, 4, 5, 5, 5, 9, 9, 5, 2, 5, 22, 23] : List TypeId).all (fun t => Tryf.prog.readableRec t && decide (t < Tryf.prog.types.size)) = true := by kernel_rfl
set_option maxRecDepth 100000 in
theorem lifted3 (os : Os) (started : os.Started) (H : Type) (enc : TypeId × Value → H) :
    ReturnsInTold none {} Tryf.checked os 3 .any Input.okWide ((OpenSpec.ofChange Rows.fnMarshalBinaryMatchesTPDULayoutSpec).preRow enc Tryf.prog Tryf.f3 [] false [])
      (fun F => ((OpenSpec.ofChange Rows.fnMarshalBinaryMatchesTPDULayoutSpec).at F).post enc Tryf.prog Tryf.f3 false true false false) (aloneAtReturn Tryf.prog) nothingAlways := by
  refine returnsInTold_of_row (C := Tryf.checked) (s := OpenSpec.ofChange Rows.fnMarshalBinaryMatchesTPDULayoutSpec) (by kernel_rfl) Tryf.own started (by kernel_rfl) Tryf.func3
    (OpenSpec.witness_stopped (enc := enc) (C := Tryf.checked) false ⟨#[], #[.bool false, .bool false, .int .u8 0, .int .u8 0, .int .u8 0, .string ⟨#[]⟩, .string ⟨#[]⟩, .int .u8 0, .int .i64 0, .int .u8 0, .slice none 0 0, .slice none 0 0], []⟩ 8 (by kernel_rfl) (by kernel_rfl) (by kernel_rfl) (by kernel_rfl)) ?_
  intro F W base args ds gs before _ _ hval0 hW _ _ _ _ _
  have hval : ∀ (j : Nat) t v, Tryf.f3.params[j]? = some t → args[j]? = some v → Value.okWide Tryf.prog W .any base t v := hval0
  have hW' := hW
  obtain ⟨p, q, hA0, hV, rfl, hfz, hnd⟩ := hW
  have hA : DataW.TrodAll enc Tryf.prog W 0 (fun _ => true) true Tryf.f3.params.toList args.toList ds p := hA0
  rw [Tryf.params3] at hA hval
  have hA1 := hA
  obtain ⟨v0, vs0, d0, ds0, p0, q0, hargs, rfl, rfl, h0, r0⟩ := trodAll_cons hA
  obtain ⟨v1, vs1, d1, ds1, p1, q1, rfl, rfl, rfl, h1, r1⟩ := trodAll_cons r0
  obtain ⟨v2, vs2, d2, ds2, p2, q2, rfl, rfl, rfl, h2, r2⟩ := trodAll_cons r1
  obtain ⟨v3, vs3, d3, ds3, p3, q3, rfl, rfl, rfl, h3, r3⟩ := trodAll_cons r2
  obtain ⟨v4, vs4, d4, ds4, p4, q4, rfl, rfl, rfl, h4, r4⟩ := trodAll_cons r3
  obtain ⟨v5, vs5, d5, ds5, p5, q5, rfl, rfl, rfl, h5, r5⟩ := trodAll_cons r4
  obtain ⟨v6, vs6, d6, ds6, p6, q6, rfl, rfl, rfl, h6, r6⟩ := trodAll_cons r5
  obtain ⟨v7, vs7, d7, ds7, p7, q7, rfl, rfl, rfl, h7, r7⟩ := trodAll_cons r6
  obtain ⟨v8, vs8, d8, ds8, p8, q8, rfl, rfl, rfl, h8, r8⟩ := trodAll_cons r7
  obtain ⟨v9, vs9, d9, ds9, p9, q9, rfl, rfl, rfl, h9, r9⟩ := trodAll_cons r8
  obtain ⟨v10, vs10, d10, ds10, p10, q10, rfl, rfl, rfl, h10, r10⟩ := trodAll_cons r9
  obtain ⟨v11, vs11, d11, ds11, p11, q11, rfl, rfl, rfl, h11, r11⟩ := trodAll_cons r10
  obtain ⟨rfl, rfl, rfl⟩ := trodAll_nil r11
  obtain rfl : args = #[v0, v1, v2, v3, v4, v5, v6, v7, v8, v9, v10, v11] := by cases args; simp_all
  obtain ⟨rfl, rfl⟩ := trodVars_none hV
  have hlt : ∀ x ∈ p0 ++ (p1 ++ (p2 ++ (p3 ++ (p4 ++ (p5 ++ (p6 ++ (p7 ++ (p8 ++ (p9 ++ (p10 ++ (p11 ++ []))))))))))), x.block < W.heap.size := fun x hx => by
    have := hW'.lt x (by simpa using hx)
    exact this
  obtain ⟨rd, e0, -, -⟩ := open_bool Tryf.underlying4 (hval 0 4 v0 rfl rfl) h0
  obtain ⟨srr, e1, -, -⟩ := open_bool Tryf.underlying4 (hval 1 4 v1 rfl rfl) h1
  obtain ⟨mr, e2, -, -, w2⟩ := open_int Tryf.underlying5 (hval 2 5 v2 rfl rfl) h2
  obtain ⟨ton, e3, -, -, w3⟩ := open_int Tryf.underlying5 (hval 3 5 v3 rfl rfl) h3
  obtain ⟨npi, e4, -, -, w4⟩ := open_int Tryf.underlying5 (hval 4 5 v4 rfl rfl) h4
  obtain ⟨s, e5, -, -, w5⟩ := open_string Tryf.underlying9 (hval 5 9 v5 rfl rfl) h5
  obtain ⟨nm, e6, -, -, w6⟩ := open_string Tryf.underlying9 (hval 6 9 v6 rfl rfl) h6
  obtain ⟨pid, e7, -, -, w7⟩ := open_int Tryf.underlying5 (hval 7 5 v7 rfl rfl) h7
  obtain ⟨vp, e8, -, -, w8⟩ := open_int Tryf.underlying2 (hval 8 2 v8 rfl rfl) h8
  obtain ⟨al, e9, -, -, w9⟩ := open_int Tryf.underlying5 (hval 9 5 v9 rfl rfl) h9
  obtain ⟨ha0, hl0, hc0, e10'⟩ := okWide_slice Tryf.underlying22 (hval 10 22 v10 rfl rfl)
  obtain ⟨ta0, tl0, tc0, e11'⟩ := okWide_slice Tryf.underlying23 (hval 11 23 v11 rfl rfl)
  subst e10' e11'
  obtain ⟨fu10, hf10⟩ := h10
  obtain ⟨fu11, hf11⟩ := h11
  obtain ⟨ho, hb, hoff, hn, hcap, es, e10, hHd, hz⟩ := hd_of hf10
  obtain ⟨E, e11, hRd, hz2⟩ := rd_of hf11
  subst e0 e1 e2 e3 e4 e5 e6 e7 e8 e9
  simp only [Value.slice.injEq] at e10 e11
  obtain ⟨rfl, rfl, rfl⟩ := e10
  obtain ⟨x1, x2, x3⟩ := e11
  subst x1 x2 x3
  have b3 := bounds_u8 w3
  have b4 := bounds_u8 w4
  have b9 := bounds_u8 w9
  have b8 := bounds_i64 w8
  refine (law3 rd srr mr ton npi s nm pid vp al ha0 hb hoff hl0 hc0 es E.ao E.b E.off E.len E.cap E.zs W hHd hRd hz hz2 b3.1 b3.2 b4.1 b4.2 b9.1 b9.2 b8.1 b8.2).mono fun e W' ⟨he, hbel⟩ => ?_
  subst he
  refine ⟨_, rfl, _, _, _, [], p0 ++ (p1 ++ (p2 ++ (p3 ++ (p4 ++ (p5 ++ (p6 ++ (p7 ++ (p8 ++ (p9 ++ (p10 ++ (p11 ++ []))))))))))), [], hW', ?_, ?_, rfl, hbel.frame _, fun h => by cases h⟩
  · exact trodAll_mk1 (shut_bool Tryf.underlying4 true)
  · exact trodAll_below hbel _ _ _ _ (readable_of _ read12) hA1 hlt

theorem law3_holds : Rows.FnMarshalBinaryMatchesTPDULayoutToldSaid :=
  Claim7.holds_of_told_any 3 Tryf.f3 "fmt.errorf" [] [] _ _ _ (by kernel_rfl) rfl rfl rfl Tryf.laidOut (by kernel_rfl) rfl ⟨rfl, rfl, rfl, rfl, rfl, rfl, rfl⟩ rfl rfl (by kernel_rfl) (by kernel_rfl) Tryf.func3 (by kernel_rfl)
    (of_decide_eq_true (by kernel_rfl)) (of_decide_eq_true (by kernel_rfl)) Tryf.stops.symm rfl Tryf.stopKnobs.symm (by kernel_rfl)
    (by kernel_rfl) (by kernel_rfl) (by kernel_rfl) (by kernel_rfl) (by kernel_rfl) (by kernel_rfl) (by kernel_rfl) (by kernel_rfl) (by kernel_rfl) rfl (by kernel_rfl) rfl rfl
    rfl rfl
    rfl (by kernel_rfl) (by kernel_rfl) (by kernel_rfl) (by decide) (by kernel_rfl)
    (OpenClaim.moreEntering_of (by kernel_rfl) (by kernel_rfl) (by kernel_rfl) (by kernel_rfl) (by kernel_rfl) (by kernel_rfl) (by kernel_rfl) (by kernel_rfl) (by kernel_rfl) (by kernel_rfl))
    ⟨_, WideRow.started_initial, Tryf.quiet _⟩
    (fun os started _ H enc _ => lifted3 os started H enc)
end Go.Proofs.Qxb6613194aFmt
