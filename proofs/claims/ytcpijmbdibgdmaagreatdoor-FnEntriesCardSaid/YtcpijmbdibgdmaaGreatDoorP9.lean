/-
  strconv.FormatFloat at 'f', 12, 64: the form of the string.
-/
import Derived.Test.YtcpijmbdibgdmaaGreatDoorP8
namespace Go.Proofs.YtcpijmbdibgdmaaGreatDoor
open Go Go.RowKit

/-- It returns a string of that form. -/
def RetNum (e : Ending) : Prop := ∃ xs : List Int, e = .returned (.string (strOfNums xs)) ∧ Shape xs

set_option maxRecDepth 100000 in
set_option maxHeartbeats 4000000 in
theorem fmtFloat_any (r : Nat) (w : World) (hr : r < 18446744073709551616) (hE : r / 4503599627370496 % 2048 ≤ 1069) (hg : Gl w) :
    Calls Tryz.prog 64 #[.float .f64 r, .int .u8 102, .int .i64 12, .int .i64 64] w fun e w' => RetNum e ∧ Below w.heap.size w w' := by
  have HG := Lib.hid hg
  clear hg
  obtain ⟨i5, hi, hz0, hz1, hz2⟩ := info_parts Tryz.info5
  obtain ⟨wm, hrun, hown, hgr⟩ := run_makeSlice_owned (P := Tryz.prog) w w.heap.size 102 5 i5 _ 1 Tryz.underlying102 hi hz0 hz1 .i64 .i64 24 (by omega) (by rw [hz2]; omega) (by unfold maxLen; omega) (Nat.le_refl _)
  have hrun' : (Instr.makeSlice 102 (.int .i64 0) (.int .i64 (max 16 24))).run Tryz.prog w = .ok (.slice (some ⟨w.heap.size, 0, none⟩) 0 24) wm := hrun
  have HO := Lib.hid hown
  have hbm : Below w.heap.size w wm := (Below.refl _ w).grown hgr (Nat.le_refl _) (fun k h => by simp at h)
  have HB := Lib.hid hbm
  have hsm := hbm.size
  have hpos : 3 ≤ w.heap.size := by
    have h := World.block_lt_of_cell? _ _ HG.out.opt
    exact h
  clear hrun hown hgr hbm hi hz0 hz1 hz2
  go_enter Tryz.func64, Tryz.ntmps64
  go_wp2_with fail
  have hft : Calls Tryz.prog 81 #[.slice (some ⟨w.heap.size, 0, none⟩) 0 24, .float .f64 r, .int .u8 102, .int .i64 12] wm fun e w' => RetShape w.heap.size w' e ∧ Below w.heap.size wm w' := by
    by_cases h0 : r / 4503599627370496 % 2048 = 0
    · exact ftoa_zero r _ _ _ hr h0 HO.out hsm hpos (HG.out.below HB.out)
    · exact ftoa_norm r _ _ _ hr (by omega) hE HO.out hsm hpos (HG.out.below HB.out)
  refine hft.mono ?_
  rintro e w1 ⟨⟨v, xs, rfl, ho, hsh⟩, hb1⟩
  obtain ⟨str, hstr, hcv⟩ := conv_bytes ho
  have HSH := Lib.hid hsh
  have HB1 := Lib.hid hb1
  have HST := Lib.hid hstr
  obtain ⟨na, nc, rfl⟩ := own_form ho
  clear ho hsh hb1 hstr
  go_wp2_with fail
  go_ret
  have hst := HST.out
  subst hst
  exact ⟨⟨xs, rfl, HSH.out⟩, HB.out.trans HB1.out⟩

theorem formatFloat_any (r : Nat) (w : World) (hr : r < 18446744073709551616) (hE : r / 4503599627370496 % 2048 ≤ 1069) (hg : Gl w) :
    Calls Tryz.prog 55 #[.float .f64 r, .int .u8 102, .int .i64 12, .int .i64 64] w fun e w' => RetNum e ∧ Below w.heap.size w w' := by
  have HG := Lib.hid hg
  clear hg
  go_enter Tryz.func55, Tryz.ntmps55
  go_wp2_with fail
  refine (fmtFloat_any r w hr hE HG.out).mono ?_
  rintro e w1 ⟨⟨xs, rfl, hsh⟩, hb⟩
  have HS := Lib.hid hsh
  have HB := Lib.hid hb
  clear hsh hb
  go_wp2_with fail
  go_ret
  exact ⟨⟨xs, rfl, HS.out⟩, HB.out⟩

end Go.Proofs.YtcpijmbdibgdmaaGreatDoor
