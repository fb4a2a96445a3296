/-
  internal/strconv's decimal: RoundedInteger.
-/
import Derived.Test.YtcpijmbdibgdmaaGreatDoorP2
import Derived.Test.YtcpijmbdibgdmaaGreatDoorP6
namespace Go.Proofs.YtcpijmbdibgdmaaGreatDoor
open Go Go.RowKit

set_option maxRecDepth 100000 in
set_option maxHeartbeats 4000000 in
theorem roundedInt_any (w : World) (b nd : Nat) (dp : Int) (ng tr : Bool) (ds : Nat → Nat) (h : Dec w b nd dp ng tr ds) (hn : nd ≤ 800) (hdp : 0 ≤ dp ∧ dp ≤ 20) :
    Calls Tryz.prog 163 #[.pointer (some ⟨b, 0, none⟩)] w fun e w' => RetU e ∧ w = w' := by
  obtain ⟨D, rfl⟩ : ∃ D : Nat, dp = D := ⟨dp.toNat, by omega⟩
  have hD : D ≤ 20 := by omega
  have c0 := h.cnd
  have c1 := h.cdp
  have HD := Lib.hid h
  clear h hdp
  go_enter Tryz.func163, Tryz.ntmps163
  go_wp2_with fail
  go_loop [3, 4] (fun i' n' => ∃ (i n : Nat), i' = .int .i64 i ∧ n' = .int .u64 n ∧ i ≤ D ∧ i ≤ nd ∧ n < 18446744073709551616) (fun i' _ => (D - intOf i').toNat)
  case atStart => exact ⟨0, 0, rfl, rfl, by omega, by omega, by omega⟩
  case round =>
    obtain ⟨i, n, rfl, rfl, hi, hin, hn1⟩ := hrel
    by_cases hlt : i < D ∧ i < nd
    · obtain ⟨hlt1, hlt2⟩ := hlt
      have hc := HD.out.dig i (by omega)
      go_wp2_with fail
      go_round
      case measure => simp only [intOf]; omega
      case rel =>
        have hw := wrapU (IntKind.u64.wrap ((n : Int) * 10) + ((ds i : Int) - 48) % 256)
        exact ⟨i + 1, _, by go_num, by rw [Int.toNat_of_nonneg hw.1], by omega, by omega, by omega⟩
    · have hge : D ≤ i ∨ nd ≤ i := by omega
      have HX : RowKit.Hid (¬ (i < D ∧ i < nd)) := Lib.hid hlt
      clear hlt
      rcases (show D ≤ i ∨ (i < D ∧ nd ≤ i) by omega) with hcase | ⟨hcase, hcase2⟩
      all_goals
        clear hge
        go_wp2_with fail
        go_loop [3, 4] (fun i' n' => ∃ (i n : Nat), i' = .int .i64 i ∧ n' = .int .u64 n ∧ i ≤ D ∧ n < 18446744073709551616) (fun i' _ => (D - intOf i').toNat)
        case atStart => exact ⟨i, n, rfl, rfl, by omega, by omega⟩
        case round =>
          obtain ⟨i2, n2, rfl, rfl, hi2, hn2⟩ := hrel
          by_cases hlt2 : i2 < D
          · go_wp2_with fail
            go_round
            case measure => simp only [intOf]; omega
            case rel =>
              have hw := wrapU ((n2 : Int) * 10)
              exact ⟨i2 + 1, _, by go_num, by rw [Int.toNat_of_nonneg hw.1], by omega, by omega⟩
          · go_wp2_with fail
            refine (shouldRoundUp_any _ b nd D D ng tr ds HD.out hn).mono ?_
            rintro e w1 ⟨⟨x, rfl⟩, rfl⟩
            cases x
            · go_wp2_with fail
              go_ret
              exact ⟨⟨n2, rfl, hn2⟩, rfl⟩
            · go_wp2_with fail
              go_ret
              have hw := wrapU ((n2 : Int) + 1)
              exact ⟨RetU.of hw.1 hw.2, rfl⟩

end Go.Proofs.YtcpijmbdibgdmaaGreatDoor
