/-
  What the words of a double stand for, as far as spec.Twelve needs it.
-/
import Derived.Test.YtcpijmbdibgdmaaGreatDoorG1
import Derived.Laws.FloatArith
namespace Go.Proofs.YtcpijmbdibgdmaaGreatDoor
set_option linter.unusedVariables false
set_option linter.unusedSimpArgs false
open Go Go.RowKit

theorem dbl : FloatKind.f64.format = Ieee.double := rfl

theorem read_small (r : Nat) (h : r / 4503599627370496 % 2048 = 0) : ∃ s m, Ieee.double.read r = .number s m (-1074) := by
  unfold Ieee.Format.read
  have e1 : Ieee.double.signWeight = 9223372036854775808 := by decide
  have e2 : Ieee.double.binade = 4503599627370496 := by decide
  have e3 : Ieee.double.leastPlace = -1074 := by decide
  simp only [e1, e2, e3]
  rw [if_pos (by omega)]
  exact ⟨_, _, rfl⟩

theorem read_norm (r : Nat) (h1 : 1 ≤ r / 4503599627370496 % 2048) (h2 : r / 4503599627370496 % 2048 ≤ 2046) :
    Ieee.double.read r = .number (r / 9223372036854775808 % 2 == 1) (4503599627370496 + r % 4503599627370496) (-1074 + (r / 4503599627370496 % 2048 - 1 : Nat)) := by
  unfold Ieee.Format.read
  have e1 : Ieee.double.signWeight = 9223372036854775808 := by decide
  have e2 : Ieee.double.binade = 4503599627370496 := by decide
  have e3 : Ieee.double.leastPlace = -1074 := by decide
  have e4 : Ieee.double.infRung = 9218868437227405312 := by decide
  simp only [e1, e2, e3, e4]
  rw [if_neg (by omega), if_pos (by omega)]
  have a1 : r % 9223372036854775808 % 4503599627370496 = r % 4503599627370496 := by omega
  have a2 : r % 9223372036854775808 / 4503599627370496 = r / 4503599627370496 % 2048 := by omega
  rw [a1, a2]

theorem read_top (r : Nat) (h : r / 4503599627370496 % 2048 = 2047) : (∃ s, Ieee.double.read r = .infinity s) ∨ ∃ s f, Ieee.double.read r = .nan s f := by
  unfold Ieee.Format.read
  have e1 : Ieee.double.signWeight = 9223372036854775808 := by decide
  have e2 : Ieee.double.binade = 4503599627370496 := by decide
  have e4 : Ieee.double.infRung = 9218868437227405312 := by decide
  simp only [e1, e2, e4]
  rw [if_neg (by omega), if_neg (by omega)]
  by_cases e : r % 9223372036854775808 = 9218868437227405312
  · rw [if_pos e]
    exact .inl ⟨_, rfl⟩
  · rw [if_neg e]
    exact .inr ⟨_, _, rfl⟩

theorem compare_self (x : Int) : compare x x = .eq := by
  simp [compare, compareOfLessAndEq]

theorem fin_of (r : Nat) (h : r / 4503599627370496 % 2048 ≤ 2046) : FinB r := by
  have hr : ∃ s m e, Ieee.double.read r = .number s m e := by
    by_cases h0 : r / 4503599627370496 % 2048 = 0
    · obtain ⟨s, m, e⟩ := read_small r h0
      exact ⟨s, m, _, e⟩
    · exact ⟨_, _, _, read_norm r (by omega) h⟩
  obtain ⟨s, m, e, hr⟩ := hr
  unfold FinB Ieee.Format.order
  rw [dbl, hr]
  simp [Ieee.Datum.order]

theorem compare_gt {x y : Int} (h : y < x) : compare x y = .gt := by
  unfold compare instOrdInt compareOfLessAndEq
  simp only
  rw [if_neg (by omega), if_neg (by omega)]

theorem compare_lt {x y : Int} (h : x < y) : compare x y = .lt := by
  unfold compare instOrdInt compareOfLessAndEq
  simp only
  rw [if_pos h]

theorem shift_big (M k : Nat) (h1 : 4503599627370496 ≤ M) (hk : 1 ≤ k) : 9007199254740992 ≤ M <<< k := by
  rw [Nat.shiftLeft_eq]
  have h2 : 2 ^ 1 ≤ 2 ^ k := Nat.pow_le_pow_right (by decide) hk
  have := Nat.mul_le_mul h1 h2
  omega

theorem big_pos (r : Nat) (h1 : 1070 ≤ r / 4503599627370496 % 2048) (h2 : r / 4503599627370496 % 2048 ≤ 2046) (hs : r / 9223372036854775808 % 2 = 0) : FloatKind.f64.format.order r 4816244402031689728 = some .gt := by
  obtain ⟨E, hE⟩ : ∃ E, E = r / 4503599627370496 % 2048 := ⟨_, rfl⟩
  have hc := read_norm 4816244402031689728 (by decide) (by decide)
  have hr := read_norm r (by omega) h2
  rw [← hE] at hr h1 h2
  rw [hs] at hr
  have c1 : (4816244402031689728 / 4503599627370496 % 2048 - 1 : Nat) = 1068 := by decide
  have c2 : (4816244402031689728 / 9223372036854775808 % 2 == 1) = false := by decide
  have c3 : 4503599627370496 + 4816244402031689728 % 4503599627370496 < 9007199254740992 := by decide
  rw [c1, c2] at hc
  obtain ⟨C, hC⟩ : ∃ C, C = 4503599627370496 + 4816244402031689728 % 4503599627370496 := ⟨_, rfl⟩
  rw [← hC] at hc c3
  unfold Ieee.Format.order
  rw [dbl, hr, hc]
  simp only [Ieee.Datum.order]
  have hb : min (-1074 + ((E - 1 : Nat) : Int)) (-1074 + ((1068 : Nat) : Int)) = -6 := by omega
  rw [hb]
  have e1 : (-1074 + ((E - 1 : Nat) : Int) - -6).toNat = E - 1069 := by omega
  have e2 : (-1074 + ((1068 : Nat) : Int) - -6).toNat = 0 := by omega
  rw [e1, e2]
  have hm := shift_big (4503599627370496 + r % 4503599627370496) (E - 1069) (by omega) (by omega)
  rw [compare_gt]
  simp only [Ieee.signed, Nat.shiftLeft_zero]
  rw [if_neg (by decide), if_neg (by decide)]
  omega

theorem big_neg (r : Nat) (h1 : 1070 ≤ r / 4503599627370496 % 2048) (h2 : r / 4503599627370496 % 2048 ≤ 2046) (hs : r / 9223372036854775808 % 2 = 1) : FloatKind.f64.format.order r 14039616438886465536 = some .lt := by
  obtain ⟨E, hE⟩ : ∃ E, E = r / 4503599627370496 % 2048 := ⟨_, rfl⟩
  have hc := read_norm 14039616438886465536 (by decide) (by decide)
  have hr := read_norm r (by omega) h2
  rw [← hE] at hr h1 h2
  rw [hs] at hr
  have c1 : (14039616438886465536 / 4503599627370496 % 2048 - 1 : Nat) = 1068 := by decide
  have c2 : (14039616438886465536 / 9223372036854775808 % 2 == 1) = true := by decide
  have c3 : 4503599627370496 + 14039616438886465536 % 4503599627370496 < 9007199254740992 := by decide
  rw [c1, c2] at hc
  obtain ⟨C, hC⟩ : ∃ C, C = 4503599627370496 + 14039616438886465536 % 4503599627370496 := ⟨_, rfl⟩
  rw [← hC] at hc c3
  unfold Ieee.Format.order
  rw [dbl, hr, hc]
  simp only [Ieee.Datum.order]
  have hb : min (-1074 + ((E - 1 : Nat) : Int)) (-1074 + ((1068 : Nat) : Int)) = -6 := by omega
  rw [hb]
  have e1 : (-1074 + ((E - 1 : Nat) : Int) - -6).toNat = E - 1069 := by omega
  have e2 : (-1074 + ((1068 : Nat) : Int) - -6).toNat = 0 := by omega
  rw [e1, e2]
  have hm := shift_big (4503599627370496 + r % 4503599627370496) (E - 1069) (by omega) (by omega)
  rw [compare_lt]
  simp only [Ieee.signed, Nat.shiftLeft_zero]
  rw [if_pos (by decide), if_pos (by decide)]
  omega

theorem sub_top (r : Nat) (h : r / 4503599627370496 % 2048 = 2047) : FloatKind.f64.format.sub r r = none := by
  unfold Ieee.Format.sub
  rw [dbl]
  rcases read_top r h with ⟨s, e⟩ | ⟨s, f, e⟩
  · rw [e]
    cases s <;> rfl
  · rw [e]
    rfl

theorem read_nan (a b : Nat) (ha : a < 2) (hb : b < 4503599627370495) : ∃ s f, Ieee.double.read (a * 9223372036854775808 + 9218868437227405312 + 1 + b) = .nan s f := by
  unfold Ieee.Format.read
  have e1 : Ieee.double.signWeight = 9223372036854775808 := by decide
  have e2 : Ieee.double.binade = 4503599627370496 := by decide
  have e4 : Ieee.double.infRung = 9218868437227405312 := by decide
  simp only [e1, e2, e4]
  rw [if_neg (by omega), if_neg (by omega), if_neg (by omega)]
  exact ⟨_, _, rfl⟩

theorem cut_nan (r t : Nat) : FloatKind.f64.format.order ((Question.nanBits .f64 r r).cut t) 0 = none := by
  have e : (Question.nanBits .f64 r r).cut t = (t % 2) * 9223372036854775808 + 9218868437227405312 + 1 + (t / 2) % 4503599627370495 := rfl
  obtain ⟨s, f, hn⟩ := read_nan (t % 2) ((t / 2) % 4503599627370495) (Nat.mod_lt _ (by decide)) (Nat.mod_lt _ (by decide))
  unfold Ieee.Format.order
  rw [dbl, e, hn]
  rfl

end Go.Proofs.YtcpijmbdibgdmaaGreatDoor
