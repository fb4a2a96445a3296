/-
  The form of a number that is read back, by its bytes: sign, whole digits, point, twelve digits.
-/
import Derived.Test.YtcpijmbdibgdmaaGreatDoorK1
namespace Go.Proofs.YtcpijmbdibgdmaaGreatDoor
open Go Go.RowKit

/-- Such a string, by its bytes. -/
structure Num (s : ByteArray) (p kk : Nat) : Prop where
  p1 : p ≤ 1
  k1 : 1 ≤ kk
  k17 : kk ≤ 17
  size : s.size = p + kk + 13
  sign : ∀ (h : 0 < s.size), p = 1 → s[0].toNat = 45
  dot : ∀ (h : p + kk < s.size), s[p + kk].toNat = 46
  dig : ∀ i (h : i < s.size), p ≤ i → i ≠ p + kk → 48 ≤ s[i].toNat ∧ s[i].toNat ≤ 57

end Go.Proofs.YtcpijmbdibgdmaaGreatDoor
