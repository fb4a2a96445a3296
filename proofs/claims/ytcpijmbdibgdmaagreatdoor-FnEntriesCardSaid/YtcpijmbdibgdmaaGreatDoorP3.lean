/-
  internal/strconv.setDigits: the digits of a number laid into a buffer.
-/
import Derived.Test.YtcpijmbdibgdmaaGreatDoorP2
import Derived.Test.YtcpijmbdibgdmaaGreatDoorO4
import Derived.Lib.ItoaLen
namespace Go.Proofs.YtcpijmbdibgdmaaGreatDoor
set_option linter.unusedVariables false
set_option linter.unusedSimpArgs false
open Go Go.RowKit

/-- The first `n` cells of block `b` hold decimal digits. -/
def Digs (w : World) (b n : Nat) : Prop := ∀ j, j < n → ∃ c : Nat, w.cell? ⟨b, j, none⟩ = some (.int .u8 c) ∧ 48 ≤ c ∧ c ≤ 57

theorem dg_range (u j : Nat) : 48 ≤ (Lib.dg u j).toNat ∧ (Lib.dg u j).toNat ≤ 57 := by
  unfold Lib.dg
  have : u / 10 ^ j % 10 < 10 := Nat.mod_lt _ (by decide)
  simp
  omega

open Go.Sort in
theorem kept_putRow {α : Type} [Inhabited α] (enc : α → Value) (w : World) (b off : Nat) (d : Array α) : Kept (· = b) w (putRow enc w b off d) := by
  refine ⟨rfl, rfl, rfl, by simp [putRow, mapBlock], fun k hk hn => ?_⟩
  simp only [putRow, mapBlock, Array.getElem?_modify]
  rw [if_neg (fun e => hn e.symm)]

open Go.Sort in
theorem format10_any (b n cap u : Nat) (w : World) (h0 : ∀ j, j < n → w.cell? ⟨b, j, none⟩ = some (.int .u8 0) ∧ w.frozen? ⟨b, j, none⟩ = false) (hu : u < 10 ^ n) (hu64 : u < 18446744073709551616) (hn : n ≤ 800) :
    Calls Tryz.prog 142 #[.slice (some ⟨b, 0, none⟩) n cap, .int .u64 u] w fun e w' => e = .returned (.tuple #[]) ∧ Digs w' b n ∧ Kept (· = b) w w' := by
  have hH : Holds (fun (b : UInt8) => Value.int .u8 (b.toNat : Int)) w b 0 (Array.replicate n 0) := by
    intro j hj
    have hj' : j < n := by simpa using hj
    rw [Nat.zero_add]
    refine ⟨?_, (h0 j hj').2⟩
    rw [(h0 j hj').1, getElem!_pos _ j hj]
    simp
  have H := Tryz.internal_strconv_formatBase10 b 0 cap u (Array.replicate n 0) w hH (by simpa using hu) hu64 (by simp; omega)
  rw [Array.size_replicate] at H
  refine H.mono ?_
  rintro e w' ⟨rfl, k, v', dk, rfl, hd⟩
  refine ⟨rfl, fun j hj => ?_, (kept_putRow _ w b 0 dk).drewN k⟩
  have hs : dk.size = n := hd.size
  have h1 := (holds_putRow (fun (b : UInt8) => Value.int .u8 (b.toNat : Int)) w b 0 _ dk hH (by simpa using hs)) j (by omega)
  rw [Nat.zero_add] at h1
  have h2 := hd.done j (Nat.zero_le _) hj
  rw [h2] at h1
  exact ⟨_, h1.1, (dg_range _ _).1, (dg_range _ _).2⟩

/-- It returns two numbers: the place of the point and how many digits. -/
def RetDN (b : Nat) (w' : World) (e : Ending) : Prop := ∃ (dp : Int) (nd : Nat), e = .returned (.tuple #[.int .i64 dp, .int .i64 nd]) ∧ -30 ≤ dp ∧ dp ≤ 9 ∧ nd ≤ 20 ∧ Digs w' b nd

set_option maxHeartbeats 1000000 in
theorem setDigits_any (b u : Nat) (p : Int) (w : World) (hz : ∀ j, j < 24 → w.cell? ⟨b, j, none⟩ = some (.int .u8 0) ∧ w.frozen? ⟨b, j, none⟩ = false) (hu : 1 ≤ u) (hu64 : u < 18446744073709551616) (hp : -12 ≤ p ∧ p ≤ -11) :
    Calls Tryz.prog 98 #[.slice (some ⟨b, 0, none⟩) 24 24, .int .u64 u, .int .i64 p, .int .i64 (Lib.nDigits u)] w fun e w' => RetDN b w' e ∧ Kept (· = b) w w' := by
  obtain ⟨n, hn⟩ : ∃ n, n = Lib.nDigits u := ⟨_, rfl⟩
  have hn1 : 1 ≤ n := by rw [hn]; exact Lib.nDigits_pos u
  have hn2 : n ≤ 20 := by rw [hn]; exact Lib.nDigits_le20 u hu64
  have hlt : u < 10 ^ n := by rw [hn]; exact Lib.lt_pow_nDigits u
  rw [← hn]
  clear hn
  have HZ := Lib.hid hz
  clear hz
  go_enter Tryz.func98, Tryz.ntmps98
  go_wp2_with fail
  refine (format10_any b n _ u _ (fun j hj => HZ.out j (by omega)) hlt hu64 (by omega)).mono ?_
  rintro e w1 ⟨rfl, hd, hk⟩
  have HD := Lib.hid hd
  have HK := Lib.hid hk
  clear hd hk hlt
  go_wp2_with fail
  go_loopw [3] (fun i wr => ∃ m : Nat, m ≤ n ∧ i = .int .i64 m ∧ wr = w1) (fun i _ => (intOf i).toNat)
  case atStart => exact ⟨n, by omega, rfl, rfl⟩
  case round =>
    obtain ⟨m, hm, rfl, rfl⟩ := hrel
    cases m with
    | zero =>
      go_wp2_with fail
      go_ret2
      exact ⟨⟨_, 0, rfl, by omega, by omega, by omega, fun j hj => by omega⟩, HK.out⟩
    | succ m =>
      obtain ⟨c, hc, hc1, hc2⟩ := HD.out m (by omega)
      rcases Bool.eq_false_or_eq_true ((c : Int) == 48) with h48 | h48
      · go_wp2_with fail
        go_roundw
        case rel => exact ⟨m, by omega, by go_num, by first | rfl | trivial⟩
        case measure => simp [intOf]
      · go_wp2_with fail
        go_ret2
        exact ⟨⟨_, m + 1, by go_num, by omega, by omega, by omega, fun j hj => HD.out j (by omega)⟩, HK.out⟩

end Go.Proofs.YtcpijmbdibgdmaaGreatDoor
