import Derived.Test.Qxb6613213aFmtRows
import Derived.WalkKit
import Derived.WalkSpells
import Derived.WalkLawsBesides
import Derived.BigQuiet
import Derived.Lib.Slices
import Derived.OpenShut
namespace Go.Proofs.Qxb6613213aFmt
open Go.RowKit

theorem hide {p : Prop} (h : p) : Hid p := h
theorem Tryf.info5 : (Tryf.prog.info? 5).map (fun i => (i.zero, i.size, i.bytes)) = some (some (.int .u8 0), 1, 1) := by kernel_rfl

/-- A row of bytes that is read. -/
structure Bts (w : World) (N : Nat) (ao : Option Addr) (b off L : Nat) (h : Nat → Int) : Prop where
  at_ : 0 < L → ao = some ⟨b, off, none⟩
  lt : 0 < L → b < N
  cell : ∀ i, i < L → w.cell? ⟨b, off + i, none⟩ = some (.int .u8 (h i))
  bd : ∀ i, i < L → 0 ≤ h i ∧ h i ≤ 255

theorem cell_block {w w' : World} {b off : Nat} {v : Value} (hb : w'.heap[b]? = w.heap[b]?) (h : w.cell? ⟨b, off, none⟩ = some v) : w'.cell? ⟨b, off, none⟩ = some v := by
  unfold World.cell? at h ⊢
  simp only [hb]
  exact h
theorem Bts.kept {w w' : World} {N : Nat} {ao : Option Addr} {b off L : Nat} {h : Nat → Int} (hi : Bts w N ao b off L h) (hb : ∀ k, k < N → w'.heap[k]? = w.heap[k]?) : Bts w' N ao b off L h :=
  ⟨hi.at_, hi.lt, fun i hl => cell_block (hb b (hi.lt (by omega))) (hi.cell i hl), hi.bd⟩

/-- The number that k bytes of seven bits make. -/
def acc (h : Nat → Int) : Nat → Int
  | 0 => 0
  | k + 1 => bits .or .u64 (acc h k) (IntKind.u64.wrap (h k % 128 * 2 ^ (7 * k)))
theorem acc_congr {h h' : Nat → Int} : ∀ k, (∀ j, j < k → h j = h' j) → acc h k = acc h' k
  | 0, _ => rfl
  | k + 1, e => by
    unfold acc
    rw [acc_congr k (fun j hj => e j (by omega)), e k (by omega)]
theorem acc_bd (h : Nat → Int) : ∀ k, 0 ≤ acc h k ∧ acc h k ≤ 18446744073709551615
  | 0 => ⟨Int.le_refl 0, by unfold acc; omega⟩
  | k + 1 => by
    have := bounds_u64 (wf_bits .or .u64 (acc h k) (IntKind.u64.wrap (h k % 128 * 2 ^ (7 * k))))
    unfold acc
    exact this

/-- The bytes open with a whole number, whose last byte stands at i. -/
def Dec (L : Nat) (h : Nat → Int) (i : Nat) : Prop := i < L ∧ i < 10 ∧ (∀ j, j < i → 128 ≤ h j) ∧ h i < 128 ∧ ¬ (i = 9 ∧ 1 < h i)

theorem mask127 {c : Int} (h₀ : 0 ≤ c) (h₁ : c ≤ 255) : bits .and .u8 c 127 = c % 128 := bits_mask .u8 8 (by decide) wraps_u8 7 (by decide) c h₀ (by omega)

def ZBPost (w : World) (e : Ending) (w' : World) : Prop := ∃ b, e = .returned (.bool b) ∧ w = w'
theorem zz4_any (ao : Option Addr) (L cap : Nat) (eo : Option Addr) (E ec : Nat) (w : World) : Calls Tryf.prog 4 #[.slice ao L cap, .slice eo E ec] w (ZBPost w) := by
  go_enter Tryf.func4, Tryf.ntmps4
  go_wp2
  all_goals (go_ret; exact ⟨_, rfl, rfl⟩)

def DecPost (L : Nat) (h : Nat → Int) (w : World) (e : Ending) (w' : World) : Prop :=
  ∃ (n : Int) (x : Int) (ok : Bool), e = .returned (.tuple #[.int .i64 n, .int .u64 x, .bool ok]) ∧ w = w' ∧ (ok = true → ∃ i, Dec L h i ∧ n = ((i + 1 : Nat) : Int) ∧ x = acc h (i + 1))

set_option maxHeartbeats 800000 in
theorem dec12 (ao : Option Addr) (b off L cap : Nat) (h : Nat → Int) (w : World) (hd : Bts w w.heap.size ao b off L h) (hL : L ≤ 1048576) :
    Calls Tryf.prog 12 #[.slice ao L cap] w (DecPost L h w) := by
  have HD := hide hd
  clear hd
  go_enter Tryf.func12, Tryf.ntmps12
  go_wp2
  go_loop [5] (fun i => ∃ k : Nat, k ≤ L ∧ k ≤ 10 ∧ i = .int .i64 k ∧ Hid (∀ j, j < k → 128 ≤ h j)) (fun i => L - (intOf i).toNat)
  case atStart => exact ⟨0, by omega, by omega, rfl, fun j hj => absurd hj (Nat.not_lt_zero _)⟩
  case round =>
    obtain ⟨k, hk, hk10, rfl, hall⟩ := hrel
    by_cases hlt : k < L
    · obtain rfl := HD.out.at_ (by omega)
      have hc := HD.out.cell k hlt
      have hbd := HD.out.bd k hlt
      by_cases h10 : k < 10
      · by_cases h128 : h k < 128
        · by_cases h9 : k = 9 ∧ 1 < h k
          · obtain ⟨rfl, h1⟩ := h9
            go_wp2
            go_ret3
            exact ⟨_, _, _, rfl, rfl, fun h => by cases h⟩
          · have HX := hide (show Dec L h k from ⟨hlt, h10, hall.out, h128, h9⟩)
            have h9' : ((k : Int) == 9) = true ∧ h k ≤ 1 ∨ ((k : Int) == 9) = false := by
              by_cases e : k = 9
              · subst e; exact .inl ⟨rfl, by omega⟩
              · exact .inr (by simp; omega)
            clear h9 hc
            rcases h9' with ⟨h9, h1⟩ | h9
            all_goals
              have hc := HD.out.cell k hlt
              go_wp2
              go_loop [6, 7] (fun v j => ∃ m : Nat, m ≤ k + 1 ∧ j = .int .i64 m ∧ v = .int .u64 (acc h m)) (fun _ j => k + 1 - (intOf j).toNat)
              case atStart => exact ⟨0, by omega, rfl, rfl⟩
              case round =>
                obtain ⟨m, hm, rfl, rfl⟩ := hrel
                by_cases hmk : m ≤ k
                · have hcm := HD.out.cell m (by omega)
                  have hbm := HD.out.bd m (by omega)
                  have hmask := mask127 hbm.1 hbm.2
                  go_wp2
                  go_round
                  case rel => exact ⟨m + 1, by omega, by go_num, rfl⟩
                  case measure => simp [intOf]; omega
                · obtain rfl : m = k + 1 := by omega
                  go_wp2
                  go_ret3
                  exact ⟨_, _, _, rfl, rfl, fun _ => ⟨k, HX.out, by simp, rfl⟩⟩
        · go_wp2
          go_round
          case rel => exact ⟨k + 1, by omega, by omega, by go_num, fun j hj => by
            rcases Nat.lt_or_ge j k with h' | h'
            · exact hall.out j h'
            · obtain rfl : j = k := by omega
              omega⟩
          case measure => simp [intOf]; omega
      · go_wp2
        go_ret3
        exact ⟨_, _, _, rfl, rfl, fun h => by cases h⟩
    · go_wp2
      go_ret3
      exact ⟨_, _, _, rfl, rfl, fun h => by cases h⟩
end Go.Proofs.Qxb6613213aFmt
