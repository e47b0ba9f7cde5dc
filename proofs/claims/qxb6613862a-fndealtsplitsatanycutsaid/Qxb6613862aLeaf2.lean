import Derived.Test.Qxb6613862aLeaf
namespace Go.Proofs.Qxb6613862a
open Go.RowKit

section
variable {w : World} {I : Nat → Prop} {p n : Nat} {S : List UInt8 → List Int} {Wn : List UInt8 → Nat} {cnt bw bm : Nat} {D : DataW Unit} {pb : List UInt8 → Nat} {vb : List UInt8 → Value}

theorem zdealt_any (h : Pool w I p n S Wn cnt bw bm D pb vb) (s : ByteArray) (wb : Nat) (at_ : Int) (hn : n ≤ 100000) (hl : (S s.data.toList).length ≤ 100000) (hs : s.size ≤ maxLen) :
    Calls Try.prog 11 #[.pointer (some ⟨p, 0, none⟩), .string s, .pointer (some ⟨wb, 0, none⟩), .int .i32 at_] w (DPost I p n S Wn cnt s.data.toList at_ wb w) := by
  have HP := hide h
  clear h
  go_enter Try.func11, Try.ntmps11
  go_wp2_with fail
  refine (dealt_any HP.out s wb at_ hn hl hs).mono ?_
  intro e w' hp
  have HQ := hide hp
  obtain rfl := hp.1
  clear hp
  go_wp2
  go_end0
  exact HQ.out

/-- Whether the pool knows the party. -/
theorem known_any (h : Pool w I p n S Wn cnt bw bm D pb vb) (s : ByteArray) (hs : s.size ≤ maxLen) :
    Calls Try.prog 12 #[.pointer (some ⟨p, 0, none⟩), .string s] w fun e w' => e = .returned (.bool (!(S s.data.toList).isEmpty)) ∧ w = w' := by
  obtain ⟨v, ps, hrun, -⟩ := h.map.look_ok keyed9 Try.underlying56 (Try.zero66 w) ptrR_none (key9 s hs)
  rw [h.has] at hrun
  obtain ⟨c0, c1, -, -⟩ := cells2 h.ph
  clear h
  generalize (!(S s.data.toList).isEmpty) = r at *
  go_enter Try.func12, Try.ntmps12
  go_wp2
  go_ret
  exact ⟨rfl, rfl⟩

theorem len_any (h : Pool w I p n S Wn cnt bw bm D pb vb) :
    Calls Try.prog 15 #[.pointer (some ⟨p, 0, none⟩)] w fun e w' => e = .returned (.int .i64 cnt) ∧ w = w' := by
  have hrun := h.map.len Try.underlying56
  rw [h.size] at hrun
  obtain ⟨c0, c1, -, -⟩ := cells2 h.ph
  clear h
  go_enter Try.func15, Try.ntmps15
  go_wp2
  go_ret
  exact ⟨rfl, rfl⟩

def atOf (S : List UInt8 → List Int) (vb : List UInt8 → Value) (k : List UInt8) : Value := if S k = [] then .slice none 0 0 else vb k
def winOf (S : List UInt8 → List Int) (Wn : List UInt8 → Nat) (k : List UInt8) : Value := if S k = [] then .pointer none else .pointer (some ⟨Wn k, 0, none⟩)

theorem partyAt_any (h : Pool w I p n S Wn cnt bw bm D pb vb) (s : ByteArray) (hs : s.size ≤ maxLen) :
    Calls Try.prog 13 #[.pointer (some ⟨p, 0, none⟩), .string s] w fun e w' => e = .returned (atOf S vb s.data.toList) ∧ w = w' := by
  have hrun := h.look s hs
  obtain ⟨c0, c1, -, -⟩ := cells2 h.ph
  unfold atOf
  by_cases e : S s.data.toList = []
  · rw [if_pos e] at hrun ⊢
    clear h e
    go_enter Try.func13, Try.ntmps13
    go_wp2
    go_ret
    exact ⟨rfl, rfl⟩
  · rw [if_neg e] at hrun ⊢
    obtain ⟨d0, d1, -, -⟩ := cells2 (h.pbh _ e).1
    clear h e
    go_enter Try.func13, Try.ntmps13
    go_wp2
    go_ret
    exact ⟨rfl, rfl⟩

theorem partyWin_any (h : Pool w I p n S Wn cnt bw bm D pb vb) (s : ByteArray) (hs : s.size ≤ maxLen) :
    Calls Try.prog 14 #[.pointer (some ⟨p, 0, none⟩), .string s] w fun e w' => e = .returned (winOf S Wn s.data.toList) ∧ w = w' := by
  have hrun := h.look s hs
  obtain ⟨c0, c1, -, -⟩ := cells2 h.ph
  unfold winOf
  by_cases e : S s.data.toList = []
  · rw [if_pos e] at hrun ⊢
    clear h e
    go_enter Try.func14, Try.ntmps14
    go_wp2
    go_ret
    exact ⟨rfl, rfl⟩
  · rw [if_neg e] at hrun ⊢
    obtain ⟨d0, d1, -, -⟩ := cells2 (h.pbh _ e).1
    clear h e
    go_enter Try.func14, Try.ntmps14
    go_wp2
    go_ret
    exact ⟨rfl, rfl⟩
end

def WPost (held : Value) (w : World) (e : Ending) (w' : World) : Prop :=
  e = .returned (.pointer (some ⟨w.heap.size, 0, none⟩)) ∧ w' = w.alloc (.cells #[.pointer none, held, .int .i64 0, .int .i64 0, .int .i64 0, .int .i64 0] 64)

theorem newWindow_any (ao : Option Addr) (n c : Nat) (w : World) : Calls Try.prog 10 #[.slice ao n c] w (WPost (.slice ao n c) w) := by
  go_enter Try.func10, Try.ntmps10
  go_wp2
  go_ret
  exact ⟨rfl, rfl⟩

def PPost (w : World) (e : Ending) (w' : World) : Prop :=
  e = .returned (.pointer (some ⟨w.heap.size + 2, 0, none⟩)) ∧ w' = ((w.alloc (.map #[] 0)).alloc (.map #[] 0)).alloc (.cells #[.map (some w.heap.size), .map (some (w.heap.size + 1))] 58)

theorem newPool_any (w : World) : Calls Try.prog 9 #[] w (PPost w) := by
  have hmm := @run_makeMap Try.prog
  go_enter Try.func9, Try.ntmps9
  go_wp2
  go_ret
  exact ⟨rfl, rfl⟩
end Go.Proofs.Qxb6613862a
