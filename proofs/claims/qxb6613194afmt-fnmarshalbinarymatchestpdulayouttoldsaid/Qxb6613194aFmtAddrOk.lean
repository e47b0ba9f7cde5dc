import Derived.Test.Qxb6613194aFmtAddr
namespace Go.Proofs.Qxb6613194aFmt
open Go.RowKit

theorem new_cells (w : World) (L : List Value) (e : TypeId) : ∀ j u, L[j]? = some u → (w.alloc (.cells L.toArray e)).cell? ((⟨w.heap.size, 0, none⟩ : Addr).add j) = some u := by
  intro j u hu
  rw [Addr.add_lit, Nat.zero_add, World.cell?_alloc_at _ _ _ _ rfl]
  simpa using hu

theorem or_type' (t n : Int) (h0 : 0 ≤ t) (h1 : t ≤ 7) (g0 : 0 ≤ n) (g1 : n ≤ 15) : bits .or .u8 (bits .or .u8 128 (t * 16)) n = 128 + 16 * t + n := by
  have := or_type t n h0 h1 g0 g1
  rwa [show t * 16 % 256 = t * 16 by omega] at this

set_option maxHeartbeats 800000 in
theorem addr_ok (ton npi : Int) (s nm : ByteArray) (b : Value) (base n : Nat) (xs : List Int) (w : World) (h0 : 0 ≤ ton) (h1 : ton ≤ 7) (h5 : (ton == 5) = false) (g0 : 0 ≤ npi) (g1 : npi ≤ 15) (hs : s.size ≤ 20)
    (hd : ∀ i, i < s.size → Pl.isDig (sb s i) = true) (hb : base ≤ w.heap.size) (hn : n ≤ 1000) (hown : w.ownsRow base 5 1 b n (xs.map (Value.int .u8))) :
    Calls Tryf.prog 19 #[.agg #[.int .u8 ton, .int .u8 npi, .string s, .string nm], b] w
      (Good base (n + 2 + (s.size + 1) / 2) (xs ++ [(s.size : Int), 128 + 16 * ton + npi] ++ Pl.tbRow (sb s) s.size ((s.size + 1) / 2)) w) := by
  have hot := or_type' ton npi h0 h1 g0 g1
  obtain ⟨i0, hi, hz0, hz1, hz2⟩ := info_parts Tryf.info5
  have HE := fun w => encode_ok s w hs hd
  clear hd
  have htl := Pl.tbRow_length (sb s) s.size ((s.size + 1) / 2)
  generalize (Pl.tbRow (sb s) s.size ((s.size + 1) / 2)) = tb at HE htl ⊢
  generalize hm : (s.size + 1) / 2 = m at HE htl ⊢
  have hm2 : m ≤ 10 := by omega
  have HE' := hide HE
  have HM := hide hm
  have HO := hide hown
  have HT := hide htl
  clear HE hm hown htl
  go_enter Tryf.func19, Tryf.ntmps19
  go_wp2_with fail
  refine (HE'.out _).mono ?_
  rintro e w2 ⟨rfl, hown2, hbe⟩
  have ho1 := own_below (HO.out.alloc _) hbe
  rw [World.size_alloc] at hown2
  have hsz : w.heap.size < w2.heap.size := by have := hbe.size; simp at this; omega
  have HB : Hid (Below base w w2) := ((Below.refl base w).alloc hb _).trans (hbe.mono (by simp; omega))
  have hc0 : w2.cell? ⟨w.heap.size, 0, none⟩ = some (.int .u8 ton) := by rw [hbe.cell (by simp)]; go_simp
  have hc1 : w2.cell? ⟨w.heap.size, 1, none⟩ = some (.int .u8 npi) := by rw [hbe.cell (by simp)]; go_simp
  have hc2 : w2.cell? ⟨w.heap.size, 2, none⟩ = some (.string s) := by rw [hbe.cell (by simp)]; go_simp
  have H1 := hide ho1
  have H2 := hide hown2
  clear hbe ho1 hown2
  go_wp2_with (at_builtin; refine wpList_append_own _ rfl (.tmp 57) (.tmp 69) 23 rfl base 5 i0 (.int .u8 0) 1 1 Tryf.underlying23 hi hz0 hz1 hz2 rfl (by decide) _ _ _ rfl (H1.out.alloc _) ⟨w2.heap.size, 0, none⟩ 2 2 ([(s.size : Int), 128 + 16 * ton + npi].map (Value.int .u8)) rfl rfl ?c1 ?c2 ?c3 ?c4 ?c5 ?_)
  case c1 => exact new_cells w2 [.int .u8 s.size, .int .u8 (128 + 16 * ton + npi)] 5
  case c2 => exact ints_oneCell _ _
  case c3 => unfold maxLen; omega
  case c4 => omega
  case c5 => simp; omega
  intro v1 w3 ho3 hg3 _
  have hd3 : ∀ j u, (tb.map (Value.int .u8))[j]? = some u → w3.cell? ((⟨w.heap.size + 1, 0, none⟩ : Addr).add j) = some u := by
    refine World.ownsRow.cells ((H2.out.alloc _).kept hg3 (Or.inr fun e => ?_)) rfl
    have h2 : b.ownBlock = some (w.heap.size + 1) := e.symm
    have := (HO.out.lt _ h2).2
    omega
  have hz3 : base ≤ w3.heap.size := by have := hg3.size; simp at this; omega
  have HB3 : Hid (Below base w w3) := (HB.out.alloc (by omega) _).grown hg3 (by simp; omega) (fun k hk => (HO.out.lt _ hk).1)
  clear hg3
  have H3 := hide ho3
  have HD3 := hide hd3
  clear ho3 hd3
  go_wp2_with (at_builtin; refine wpList_append_own _ rfl (.tmp 71) (.tmp 72) 23 rfl base 5 i0 (.int .u8 0) 1 1 Tryf.underlying23 hi hz0 hz1 hz2 rfl (by decide) _ _ _ rfl H3.out ⟨w.heap.size + 1, 0, none⟩ m m (tb.map (Value.int .u8)) rfl ?d0 HD3.out (ints_oneCell _ _) ?d3 ?d4 ?d5 ?_)
  case d0 => have := HT.out; simpa using this
  case d3 => unfold maxLen; omega
  case d4 => omega
  case d5 => exact hz3
  intro v2 w4 ho4 hg4 _
  have HB4 : Hid (Below base w w4) := HB3.out.grown hg4 hz3 (fun k hk => (H3.out.lt _ hk).1)
  have H4 := hide ho4
  clear ho4 hg4
  go_wp2
  go_ret2
  refine ⟨v2, rfl, ?_, HB4.out⟩
  have := H4.out
  simpa [List.map_append] using this
end Go.Proofs.Qxb6613194aFmt
