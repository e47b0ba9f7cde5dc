import Derived.Test.Qxb6613194aFmtPackPl
namespace Go.Proofs.Qxb6613194aFmt.Pl

/-- The information elements of a header, one behind the other: identifier, length, data. -/
def hdrTo (id : Nat → Int) (dat : Nat → List Int) : Nat → List Int
  | 0 => []
  | k + 1 => hdrTo id dat k ++ [id k, ((dat k).length : Int) % 256] ++ dat k

/-- The header whole: its length's octet ahead; none where there is no element. -/
def hdr (id : Nat → Int) (dat : Nat → List Int) (n : Nat) : List Int :=
  if n = 0 then [] else (((hdrTo id dat n).length : Int) % 256) :: hdrTo id dat n

/-- How many septets a header of h octets takes. -/
def hs (h : Nat) : Nat := (h * 8 + 6) / 7
def fillOf (h : Nat) : Nat := hs h * 7 - h * 8
theorem fill_le (h : Nat) : fillOf h ≤ 6 ∧ hs h * 7 = h * 8 + fillOf h := by unfold fillOf hs; omega

/-- Septets behind a header of h octets. -/
def packed (h : Nat) (g : Nat → Nat) (len : Nat) : List Int := packRow (packN (fillOf h) g len) ((fillOf h + len * 7 + 7) / 8)

/-- TP-UD. -/
def udData (al : Int) (h : List Int) (zs : List Int) : List Int :=
  if al = 0 then h ++ packed h.length (fun t => (zs.getD t 0).toNat) zs.length else h ++ zs
/-- TP-UDL. -/
def udLen (al : Int) (h : List Int) (zs : List Int) : Nat := if al = 0 then hs h.length + zs.length else h.length + zs.length

theorem hdrTo_mono (id : Nat → Int) (dat : Nat → List Int) (k n : Nat) (h : k ≤ n) : (hdrTo id dat k).length ≤ (hdrTo id dat n).length := by
  induction n with
  | zero => obtain rfl : k = 0 := by omega
            exact Nat.le_refl _
  | succ n ih =>
    by_cases e : k = n + 1
    · subst e; exact Nat.le_refl _
    · have := ih (by omega)
      simp only [hdrTo, List.length_append]
      omega

theorem hdrTo_len (id : Nat → Int) (dat : Nat → List Int) (k n : Nat) (h : k < n) : (hdrTo id dat k).length + 2 + (dat k).length ≤ (hdrTo id dat n).length := by
  have := hdrTo_mono id dat (k + 1) n h
  simp only [hdrTo, List.length_append, List.length_cons, List.length_nil] at this
  omega

theorem hdr_len (id : Nat → Int) (dat : Nat → List Int) (n : Nat) : (hdr id dat n).length ≤ (hdrTo id dat n).length + 1 := by
  unfold hdr
  split <;> simp

theorem packed_len (h : Nat) (g : Nat → Nat) (len : Nat) : (packed h g len).length = (fillOf h + len * 7 + 7) / 8 := packRow_length _ _


theorem ud_bd (al : Int) (h zs : List Int) (h1 : h.length ≤ 2000001) (h2 : zs.length ≤ 2000000) : (udData al h zs).length ≤ 5000000 ∧ udLen al h zs ≤ 5000000 := by
  have hf := (fill_le h.length).1
  unfold udData udLen hs
  by_cases e : al = 0
  · rw [if_pos e, if_pos e, List.length_append, packed_len]
    omega
  · rw [if_neg e, if_neg e, List.length_append]
    omega

end Go.Proofs.Qxb6613194aFmt.Pl
