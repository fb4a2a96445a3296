/-
  spec.Twelve returns a bool, true only of a number.
-/
import Derived.Test.YtcpijmbdibgdmaaGreatDoorP10
import Derived.Test.YtcpijmbdibgdmaaGreatDoorP21
import Derived.Test.YtcpijmbdibgdmaaGreatDoorN3
namespace Go.Proofs.YtcpijmbdibgdmaaGreatDoor
open Go Go.RowKit

theorem run_sub_top (r : Nat) (h : r / 4503599627370496 % 2048 = 2047) (w : World) :
    ∃ x, (binOp .sub 22 (.float .f64 r) (.float .f64 r)).run Tryz.prog w = .ok (.float .f64 x) w.drew ∧ FloatKind.f64.format.order x 0 = none := by
  refine ⟨(Question.nanBits .f64 r r).cut (w.tape w.drawn (.nanBits .f64 r r)), ?_, cut_nan r _⟩
  have hs := sub_top r h
  simp [binOp, Op.floatArith, hs, Question.forced]

set_option maxRecDepth 100000 in
set_option maxHeartbeats 4000000 in
theorem twelve_any : TwelveSaid := by
  intro r w hr hg
  have HG := Lib.hid hg
  clear hg
  by_cases htop : r / 4503599627370496 % 2048 = 2047
  · obtain ⟨x, hx, hn⟩ := run_sub_top r htop w
    have hq : (FloatKind.f64.format.order x 0 != some .eq) = true := by rw [hn]; rfl
    clear hn htop
    go_enter Tryz.func40, Tryz.ntmps40
    go_wp2_with fail
    go_ret
    exact ⟨⟨false, rfl, fun h => by simp at h⟩, ⟨rfl, rfl, rfl, Nat.le_refl _, fun _ _ => rfl⟩⟩
  · obtain ⟨x, w1, hw1, hx⟩ := run_float_any (P := Tryz.prog) w .sub 22 .f64 r r (by simp)
    have HK := Lib.hid (kept_of_drew hw1)
    have HFIN := Lib.hid (fin_of r (by omega))
    clear hw1
    by_cases hbig : 1070 ≤ r / 4503599627370496 % 2048
    · have hs : r / 9223372036854775808 % 2 = 0 ∨ r / 9223372036854775808 % 2 = 1 := by omega
      rcases hs with hs | hs
      · have ho := big_pos r hbig (by omega) hs
        have hq : (FloatKind.f64.format.order r 4816244402031689728 == some .gt) = true := by rw [ho]; rfl
        clear hs hbig htop
        go_enter Tryz.func40, Tryz.ntmps40
        go_wp2_with fail
        all_goals
          go_ret
          exact ⟨⟨false, rfl, fun h => by simp at h⟩, HK.out.below (fun _ h => h.elim) (Nat.le_refl _)⟩
      · have ho := big_neg r hbig (by omega) hs
        have hq : (FloatKind.f64.format.order r 14039616438886465536 == some .lt) = true := by rw [ho]; rfl
        clear hs hbig htop
        rcases Bool.eq_false_or_eq_true (FloatKind.f64.format.order r 4816244402031689728 == some .gt) with q1 | q1 <;>
        rcases Bool.eq_false_or_eq_true (FloatKind.f64.format.order r 4816244402031689728 == some .eq) with q2 | q2
        all_goals
          go_enter Tryz.func40, Tryz.ntmps40
          go_wp2_with fail
          all_goals
            go_ret
            exact ⟨⟨false, rfl, fun h => by simp at h⟩, HK.out.below (fun _ h => h.elim) (Nat.le_refl _)⟩
    · have hE : r / 4503599627370496 % 2048 ≤ 1069 := by omega
      have HE := Lib.hid hE
      have hg1 := Lib.hid (HG.out.below (HK.out.below (fun _ h => h.elim) (Nat.le_refl _)))
      clear hE hbig htop
      rcases Bool.eq_false_or_eq_true (FloatKind.f64.format.order r 4816244402031689728 == some .gt) with q1 | q1 <;>
      rcases Bool.eq_false_or_eq_true (FloatKind.f64.format.order r 4816244402031689728 == some .eq) with q2 | q2 <;>
      rcases Bool.eq_false_or_eq_true (FloatKind.f64.format.order r 14039616438886465536 == some .lt) with q3 | q3 <;>
      rcases Bool.eq_false_or_eq_true (FloatKind.f64.format.order r 14039616438886465536 == some .eq) with q4 | q4
      all_goals
        go_enter Tryz.func40, Tryz.ntmps40
        go_wp2_with fail
      all_goals first
        | (go_ret
           exact ⟨⟨false, rfl, fun h => by simp at h⟩, HK.out.below (fun _ h => h.elim) (Nat.le_refl _)⟩)
        | (refine (formatFloat_any r w1 hr HE.out hg1.out).mono ?_
           rintro e w2 ⟨⟨xs, rfl, hsh⟩, hb2⟩
           obtain ⟨p, kk, hnum⟩ := hsh.num
           have HN := Lib.hid hnum
           have HB2 := Lib.hid hb2
           clear hsh hnum hb2
           go_wp2_with fail
           refine (parseFloat_any _ p kk HN.out w2 (hg1.out.below HB2.out)).mono ?_
           rintro e w3 ⟨⟨f, rfl⟩, hb3⟩
           have HB3 := Lib.hid hb3
           clear hb3
           go_wp2_with fail
           go_ret
           refine ⟨⟨_, rfl, fun _ => HFIN.out⟩, ?_⟩
           have b1 := HK.out.below (B := w.heap.size) (fun _ h => h.elim) (Nat.le_refl _)
           exact b1.trans ((HB2.out.trans (HB3.out.mono HB2.out.size)).mono b1.size))

end Go.Proofs.YtcpijmbdibgdmaaGreatDoor
