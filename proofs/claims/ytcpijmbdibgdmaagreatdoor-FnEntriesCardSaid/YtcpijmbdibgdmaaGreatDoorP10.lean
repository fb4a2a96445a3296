/-
  The form of a number that is read back: sign, whole digits, point, twelve digits.
-/
import Derived.Test.YtcpijmbdibgdmaaGreatDoorP9
import Derived.Test.YtcpijmbdibgdmaaGreatDoorN1
namespace Go.Proofs.YtcpijmbdibgdmaaGreatDoor
open Go Go.RowKit

theorem strOfNums_at (xs : List Int) (i : Nat) (h : i < (strOfNums xs).size) : (strOfNums xs)[i].toNat = ((xs[i]'(by rw [size_strOfNums] at h; exact h)).toNat) % 256 := by
  have h2 : i < xs.length := by rw [size_strOfNums] at h; exact h
  have h3 : i < (strOfNums xs).data.toList.length := by rw [strOfNums_data, List.length_map]; exact h2
  have e : (strOfNums xs)[i] = (strOfNums xs).data.toList[i]'h3 := rfl
  rw [e, List.getElem_of_eq (strOfNums_data xs)]
  simp

theorem Shape.num {xs : List Int} (h : Shape xs) : ∃ p kk, Num (strOfNums xs) p kk := by
  obtain ⟨sg, ys, k, hsg, ⟨ds, rfl, hdl, hdd⟩, hk1, hk2, ⟨fs, rfl, hfl, hff⟩⟩ := h
  have hsl : sg.length ≤ 1 := by rcases hsg with h | h <;> simp [h]
  refine ⟨sg.length, k, hsl, hk1, hk2, ?_, ?_, ?_, ?_⟩
  · rw [size_strOfNums]
    simp
    omega
  · intro h0 hp
    have e : sg = [45] := by
      rcases hsg with h | h
      · rw [h] at hp
        simp at hp
      · exact h
    subst e
    rw [strOfNums_at]
    simp
  · intro hlt
    rw [strOfNums_at]
    have e : (sg ++ ds ++ [46] ++ fs)[sg.length + k]'(by rw [size_strOfNums] at hlt; exact hlt) = 46 := by
      rw [List.getElem_append_left (by simp; omega), List.getElem_append_right (by simp; omega)]
      simp
    rw [e]
    rfl
  · intro i hlt hp hne
    rw [strOfNums_at]
    have hlt' : i < (sg ++ ds ++ [46] ++ fs).length := by rw [size_strOfNums] at hlt; exact hlt
    have hr : 48 ≤ (sg ++ ds ++ [46] ++ fs)[i] ∧ (sg ++ ds ++ [46] ++ fs)[i] ≤ 57 := by
      rcases Nat.lt_or_ge i (sg.length + k) with h1 | h1
      · rw [List.getElem_append_left (by simp; omega), List.getElem_append_left (by simp; omega), List.getElem_append_right hp]
        exact hdd _ (List.getElem_mem _)
      · rw [List.getElem_append_right (by simp; omega)]
        exact hff _ (List.getElem_mem _)
    omega

end Go.Proofs.YtcpijmbdibgdmaaGreatDoor
