import Derived.Test.Qxb6613862aPool2
namespace Go.Proofs.Qxb6613862a
open Go.RowKit

/-- A slice of deals, element by element. -/
structure Deals (w : World) (N : Nat) (ao : Option Addr) (b off L : Nat) (P : Nat → ByteArray) (A : Nat → Int) (B : Nat → Bool) : Prop where
  at_ : 0 < L → ao = some ⟨b, off, none⟩
  lt : 0 < L → b < N
  party : ∀ i, i < L → w.cell? ⟨b, off + i * 3, none⟩ = some (.string (P i))
  place : ∀ i, i < L → w.cell? ⟨b, off + i * 3 + 1, none⟩ = some (.int .i32 (A i))
  win : ∀ i, i < L → w.cell? ⟨b, off + i * 3 + 2, none⟩ = some (.bool (B i))
  sz : ∀ i, i < L → (P i).size ≤ maxLen

theorem Deals.kept {w w' : World} {N : Nat} {ao : Option Addr} {b off L : Nat} {P : Nat → ByteArray} {A : Nat → Int} {B : Nat → Bool} (h : Deals w N ao b off L P A B) (hb : ∀ k, k < N → w'.heap[k]? = w.heap[k]?) : Deals w' N ao b off L P A B := by
  have hc : ∀ j, 0 < L → w'.cell? ⟨b, j, none⟩ = w.cell? ⟨b, j, none⟩ := fun j hl => by
    unfold World.cell?
    simp only [hb b (h.lt hl)]
  exact ⟨h.at_, h.lt, fun i hi => by rw [hc _ (by omega)]; exact h.party i hi, fun i hi => by rw [hc _ (by omega)]; exact h.place i hi, fun i hi => by rw [hc _ (by omega)]; exact h.win i hi, h.sz⟩

def BPost (L : Nat) (P : Nat → ByteArray) (w : World) (e : Ending) (w' : World) : Prop := ∃ b, e = .returned (.bool b) ∧ w = w' ∧ (b = true → ∀ i, i < L → (P i).size ≤ 1048576)

set_option maxHeartbeats 800000 in
theorem zz7_any (ao : Option Addr) (b off L cap : Nat) (P : Nat → ByteArray) (A : Nat → Int) (B : Nat → Bool) (w : World) (N : Nat) (hd : Deals w N ao b off L P A B) :
    Calls Try.prog 7 #[.slice ao L cap] w (BPost L P w) := by
  have HD := hide hd
  clear hd
  go_enter Try.func7, Try.ntmps7
  go_wp2
  all_goals try (go_ret; exact ⟨false, rfl, rfl, fun h => by cases h⟩)
  go_loop [3, 4] (fun z i => ∃ (k : Nat) (q : Int), k ≤ L ∧ i = .int .i64 k ∧ z = .int .i64 q ∧ 0 ≤ q ∧ q ≤ 1048576 ∧ Hid (∀ i, i < k → (P i).size ≤ 1048576)) (fun _ i => L - (intOf i).toNat)
  case atStart => exact ⟨0, _, Nat.zero_le _, rfl, rfl, by omega, by omega, fun i h => absurd h (Nat.not_lt_zero _)⟩
  case round =>
    obtain ⟨k, q, hk, rfl, rfl, hq0, hq1, hall⟩ := hrel
    by_cases hlt : k < L
    · obtain rfl := HD.out.at_ (by omega)
      have hc := HD.out.party k hlt
      go_wp2
      all_goals first
        | (go_ret; exact ⟨false, rfl, rfl, fun h => by cases h⟩)
        | (go_round
           case rel =>
             refine ⟨k + 1, _, by omega, by go_num, rfl, by omega, by omega, fun i hi => ?_⟩
             rcases Nat.lt_or_ge i k with h' | h'
             · exact hall.out i h'
             · obtain rfl : i = k := by omega
               omega
           case measure => simp [intOf]; omega)
    · go_wp2
      go_ret
      exact ⟨true, rfl, rfl, fun _ i hi => hall.out i (by omega)⟩

def TooPost (L : Nat) (w : World) (e : Ending) (w' : World) : Prop := ∃ b, e = .returned (.bool b) ∧ w = w' ∧ (b = false → L ≤ 4096)

set_option maxHeartbeats 800000 in
theorem too_any (ao : Option Addr) (b off L cap : Nat) (P : Nat → ByteArray) (A : Nat → Int) (B : Nat → Bool) (w : World) (N : Nat) (hd : Deals w N ao b off L P A B) (hb5 : ∀ i, i < L → (P i).size ≤ 1048576) :
    Calls Try.prog 8 #[.slice ao L cap] w (TooPost L w) := by
  have HD := hide hd
  have H5 := hide hb5
  clear hd hb5
  go_enter Try.func8, Try.ntmps8
  go_wp2
  all_goals try (go_ret; exact ⟨true, rfl, rfl, fun h => by cases h⟩)
  go_loop [3, 4] (fun z i => ∃ (k : Nat) (q : Int), k ≤ L ∧ i = .int .i64 k ∧ z = .int .i64 q ∧ 0 ≤ q ∧ q ≤ 1048576) (fun _ i => L - (intOf i).toNat)
  case atStart => exact ⟨0, _, Nat.zero_le _, rfl, rfl, by omega, by omega⟩
  case round =>
    obtain ⟨k, q, hk, rfl, rfl, hq0, hq1⟩ := hrel
    by_cases hlt : k < L
    · obtain rfl := HD.out.at_ (by omega)
      have hc := HD.out.party k hlt
      have hsz := H5.out k hlt
      go_wp2
      all_goals first
        | (go_ret; exact ⟨true, rfl, rfl, fun h => by cases h⟩)
        | (go_round
           case rel => exact ⟨k + 1, _, by omega, by go_num, rfl, by omega, by omega⟩
           case measure => simp [intOf]; omega)
    · go_wp2
      go_ret
      exact ⟨_, rfl, rfl, fun _ => by omega⟩
end Go.Proofs.Qxb6613862a
