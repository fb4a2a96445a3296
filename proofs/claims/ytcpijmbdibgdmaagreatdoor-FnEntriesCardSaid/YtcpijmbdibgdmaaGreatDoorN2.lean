/-
  How far the reading of such a string has come; lower.
-/
import Derived.Test.YtcpijmbdibgdmaaGreatDoorProg
import Derived.Test.YtcpijmbdibgdmaaGreatDoorN1
import Derived.WalkLawsBesides
import Derived.LoopTactic
import Derived.KernelRfl
import Derived.Outline
import Derived.WalkMore
namespace Go.Proofs.YtcpijmbdibgdmaaGreatDoor
open Go Go.RowKit

/-- Some digit ahead of the point is not a zero. -/
def Big (s : ByteArray) (p kk : Nat) : Prop := ∃ (j : Nat) (h : j < s.size), p ≤ j ∧ j < p + kk ∧ s[j].toNat ≠ 48

/-- What readFloat returns on such a string. -/
def RetRead (s : ByteArray) (p kk : Nat) (e : Ending) : Prop := ∃ (m : Nat) (x : Int) (ng tr : Bool),
  e = .returned (.tuple #[.int .u64 m, .int .i64 x, .bool ng, .bool tr, .bool false, .int .i64 s.size, .bool true]) ∧ m < 10000000000000000000 ∧ -60 ≤ x ∧ x ≤ 20 ∧ (tr = true → Big s p kk)

/-- How far the reading has come. -/
structure Rd (s : ByteArray) (p kk i : Nat) (dot dg : Bool) (nd nm : Nat) (dp : Int) (m : Nat) (tr : Bool) : Prop where
  hip : p ≤ i
  hil : i ≤ s.size
  hdot : dot = decide (p + kk < i)
  hdg : dg = decide (p < i)
  hnd : nd ≤ i - p
  hnm : nm = min nd 19
  hm : m < 10 ^ nm
  hdp0 : dot = false → -((i : Int) - p) ≤ dp ∧ dp ≤ 0
  hdp1 : dot = true → -((i : Int) - p) ≤ dp ∧ dp ≤ kk
  hb0 : dot = false → 1 ≤ nd → Big s p kk
  hb1 : dot = true → Big s p kk ∨ nd ≤ i - (p + kk + 1)
  htr : tr = true → 20 ≤ nd

theorem Rd.start (s : ByteArray) (p kk : Nat) (h : p ≤ s.size) : Rd s p kk p false false 0 0 0 0 false :=
  ⟨Nat.le_refl _, h, by simp, by simp, by omega, rfl, by decide, fun _ => by omega, fun h => by simp at h, fun _ h => by omega, fun h => by simp at h, fun h => by simp at h⟩

theorem pow_le18 {n : Nat} (h : n ≤ 18) : 10 ^ n ≤ 1000000000000000000 := by
  have := Nat.pow_le_pow_right (show 0 < 10 by decide) h
  exact Nat.le_trans this (by decide)

theorem pow_le19 {n : Nat} (h : n ≤ 19) : 10 ^ n ≤ 10000000000000000000 := by
  have := Nat.pow_le_pow_right (show 0 < 10 by decide) h
  exact Nat.le_trans this (by decide)

variable {s : ByteArray} {p kk i nd nm m : Nat} {dot dg tr : Bool} {dp : Int}

/-- At the point. -/
theorem Rd.point (h : Rd s p kk i dot dg nd nm dp m tr) (hi : i = p + kk) (hk : 1 ≤ kk) (hlt : i < s.size) : Rd s p kk (i + 1) true dg nd nm nd m tr := by
  have hd : dot = false := by rw [h.hdot]; simp; omega
  refine ⟨by have := h.hip; omega, hlt, by simp; omega, ?_, by have := h.hnd; omega, h.hnm, h.hm, fun e => by simp at e, fun _ => by have := h.hnd; omega, fun e => by simp at e, fun _ => ?_, h.htr⟩
  · rw [h.hdg]
    simp
    omega
  · rcases Nat.eq_zero_or_pos nd with e | e
    · right; omega
    · left; exact h.hb0 hd e

/-- At a zero that leads. -/
theorem Rd.zero (h : Rd s p kk i dot dg nd nm dp m tr) (hi : i ≠ p + kk) (hn : nd = 0) (hlt : i < s.size) : Rd s p kk (i + 1) dot true nd nm (dp - 1) m tr := by
  subst hn
  have hip := h.hip
  refine ⟨by omega, hlt, ?_, by simp; omega, by omega, h.hnm, h.hm, fun e => by have := h.hdp0 e; omega, fun e => by have := h.hdp1 e; omega, fun e h1 => by omega, fun e => ?_, h.htr⟩
  · rw [h.hdot]
    by_cases c : p + kk < i
    · simp [c]; omega
    · simp [c]; omega
  · right; omega

/-- At another digit. -/
theorem Rd.digit (h : Rd s p kk i dot dg nd nm dp m tr) (hi : i ≠ p + kk) (hlt : i < s.size) (hk : s.size = p + kk + 13) (hz : nd = 0 → s[i].toNat ≠ 48) (m' nm' : Nat) (tr' : Bool)
    (hm : (nm < 19 ∧ nm' = nm + 1 ∧ m' < m * 10 + 10 ∧ tr' = tr) ∨ (nm = 19 ∧ nm' = nm ∧ m' = m)) : Rd s p kk (i + 1) dot true (nd + 1) nm' dp m' tr' := by
  have hip := h.hip
  have hnd := h.hnd
  have hnm := h.hnm
  have hdot : dot = decide (p + kk < i + 1) := by
    rw [h.hdot]
    by_cases c : p + kk < i
    · simp [c]; omega
    · simp [c]; omega
  refine ⟨by omega, hlt, hdot, by simp; omega, by omega, by omega, ?_, fun e => by have := h.hdp0 e; omega, fun e => by have := h.hdp1 e; omega, fun e h1 => ?_, fun e => ?_, fun e => ?_⟩
  · have := h.hm
    rcases hm with ⟨_, rfl, h2, _⟩ | ⟨_, rfl, rfl⟩
    · rw [Nat.pow_succ]; omega
    · exact this
  · rcases Nat.eq_zero_or_pos nd with h0 | h0
    · rw [h.hdot] at e
      simp at e
      exact ⟨i, hlt, hip, by omega, hz h0⟩
    · exact h.hb0 e h0
  · have hgt : p + kk < i + 1 := by rw [e] at hdot; simpa using hdot.symm
    rcases h.hb1 e with hb | hb
    · exact .inl hb
    · right; omega
  · rcases hm with ⟨_, _, _, rfl⟩ | ⟨hm, _⟩
    · have := h.htr e; omega
    · omega

theorem Rd.done (h : Rd s p kk i dot dg nd nm dp m tr) (hi : i = s.size) (hk : s.size = p + kk + 13) (hk17 : kk ≤ 17) : dot = true ∧ dg = true ∧ m < 10000000000000000000 ∧ -60 ≤ dp - nm ∧ dp - nm ≤ 20 ∧ -40 ≤ dp ∧ dp ≤ 17 ∧ (tr = true → Big s p kk) := by
  have hd : dot = true := by rw [h.hdot]; simp; omega
  have h1 := h.hdp1 hd
  have h2 := h.hnm
  refine ⟨hd, by rw [h.hdg]; simp; omega, ?_, by omega, by omega, by omega, by omega, fun e => ?_⟩
  · have := h.hm
    have := pow_le19 (n := nm) (by omega)
    omega
  · rcases h.hb1 hd with hb | hb
    · exact hb
    · have := h.htr e
      omega

theorem or32 (c : Nat) (h1 : 46 ≤ c) (h2 : c ≤ 57) : bits .or .u8 (c : Int) 32 = (c : Int) := by
  have : c = 46 ∨ c = 47 ∨ c = 48 ∨ c = 49 ∨ c = 50 ∨ c = 51 ∨ c = 52 ∨ c = 53 ∨ c = 54 ∨ c = 55 ∨ c = 56 ∨ c = 57 := by omega
  rcases this with rfl | rfl | rfl | rfl | rfl | rfl | rfl | rfl | rfl | rfl | rfl | rfl <;> decide

theorem lower_dig (c : Nat) (w : World) (h1 : 46 ≤ c) (h2 : c ≤ 57) : Calls Tryz.prog 133 #[.int .u8 c] w fun e w' => e = .returned (.int .u8 c) ∧ w = w' := by
  have ho := or32 c h1 h2
  go_enter Tryz.func133, Tryz.ntmps133
  go_wp2_with fail
  go_ret
  exact ⟨rfl, rfl⟩

end Go.Proofs.YtcpijmbdibgdmaaGreatDoor
