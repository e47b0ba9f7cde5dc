import Derived.WalkKit
namespace Go.Proofs.Qxb6613194aFmt

theorem or_240 (v : Int) (h0 : 0 ≤ v) (h1 : v ≤ 14) : bits .or .u8 240 v = 240 + v := by
  rw [u8_or _ _ (by omega) (by omega) (by omega) (by omega)]
  rw [nat_join 4 _ _ (by decide) (by omega)]
  simp; omega

theorem or_odd (a v : Int) (h0 : 0 ≤ v) (h1 : v ≤ 14) (g0 : 0 ≤ a) (g1 : a ≤ 14) : bits .or .u8 (bits .and .u8 (240 + a) 15) (v * 16 % 256) = a + 16 * v := by
  have e : bits .and .u8 (240 + a) 15 = a := by
    rw [u8_and _ _ (by omega) (by omega) (by omega) (by omega)]
    rw [show (15 : Int).toNat = 15 from rfl, nat_mask4]
    omega
  rw [e, u8_or _ _ (by omega) (by omega) (by omega) (by omega), Nat.or_comm]
  rw [nat_join 4 _ _ (by omega) (by omega)]
  omega

theorem or_type (t n : Int) (h0 : 0 ≤ t) (h1 : t ≤ 7) (g0 : 0 ≤ n) (g1 : n ≤ 15) : bits .or .u8 (bits .or .u8 128 (t * 16 % 256)) n = 128 + 16 * t + n := by
  have e : bits .or .u8 128 (t * 16 % 256) = 128 + 16 * t := by
    rw [u8_or _ _ (by omega) (by omega) (by omega) (by omega), nat_join 7 _ _ (by decide) (by omega)]
    omega
  rw [e, u8_or _ _ (by omega) (by omega) (by omega) (by omega), nat_join 4 _ _ (by omega) (by omega)]
  omega

theorem and_127 (z : Int) (h0 : 0 ≤ z) (h1 : z ≤ 255) : bits .and .u8 z 127 = z % 128 := by
  rw [u8_and _ _ (by omega) (by omega) (by omega) (by omega), show (127 : Int).toNat = 127 from rfl, nat_mask7]
  omega

end Go.Proofs.Qxb6613194aFmt
