/-
  Contracts of spec.only, spec.fewIn, laws.zzFits1.
-/
import Derived.Test.YtcpijmbdibgdmaaGreatDoorK2
import Derived.Deep.DeepCutAuto
namespace Go.Proofs.YtcpijmbdibgdmaaGreatDoor
open Go Go.RowKit

def numB (k : Int) : Bool := k == 1 || k == 2 || k == 9
def textB (k : Int) : Bool := k == 4 || k == 5 || k == 6

/-- One of the fields that its kind does not use is not zero. -/
def badB (k i g : Int) (r : Nat) (t : ByteArray) : Bool :=
  ((i != 0) && !numB k) || ((g != 0) && (k != 9)) || (!decide (FloatKind.f64.format.order r 0 = some Ordering.eq) && (k != 3)) || (!decide (t.toList = []) && !textB k)

/-- It returns a bool that is true only if `P`. -/
def RetIf (P : Prop) (e : Ending) : Prop := ∃ x, e = .returned (.bool x) ∧ (x = true → P)
theorem RetIf.mk {P : Prop} (x : Bool) (h : x = true → P) : RetIf P (.returned (.bool x)) := ⟨x, rfl, h⟩

/-- The fields that its kind does not use are zero. -/
def OnlyP (k i g : Int) (r : Nat) (t : ByteArray) (kl cl : Nat) : Prop :=
  (i = 0 ∨ numB k = true) ∧ (g = 0 ∨ k = 9) ∧ (FloatKind.f64.format.order r 0 = some Ordering.eq ∨ k = 3) ∧ (t.toList = [] ∨ textB k = true) ∧ (kl = 0 ∨ k = 8) ∧ (cl = 0 ∨ k = 8 ∨ k = 7)

theorem onlyP_of {k i g : Int} {r : Nat} {t : ByteArray} {kl cl : Nat} (h : badB k i g r t = false) (h1 : kl = 0 ∨ k = 8) (h2 : cl = 0 ∨ k = 8 ∨ k = 7) : OnlyP k i g r t kl cl := by
  simp only [badB, Bool.or_eq_false_iff, Bool.and_eq_false_iff, Bool.not_eq_eq_eq_not, Bool.not_false, bne_eq_false_iff_eq, decide_eq_true_eq] at h
  obtain ⟨⟨⟨a, b⟩, c⟩, d⟩ := h
  exact ⟨a, b, c, d, h1, h2⟩

set_option maxRecDepth 100000 in
set_option maxHeartbeats 4000000 in
theorem only_any (k i g : Int) (r : Nat) (t : ByteArray) (ka ca : Option Addr) (kl kc cl cc : Nat) (w : World) :
    Calls Tryz.prog 39 #[.agg #[.int .i64 k, .int .i64 i, .int .i64 g, .float .f64 r, .string t, .slice ka kl kc, .slice ca cl cc]] w fun e w' => RetIf (OnlyP k i g r t kl cl) e ∧ Below w.heap.size w w' := by
  go_enter Tryz.func39, Tryz.ntmps39
  go_upto_region 1 with fail
  go_cut [3] (fun s w' => s = .bool (numB k) ∧ w' = w.alloc (.cells #[.int .i64 k, .int .i64 i, .int .i64 g, .float .f64 r, .string t, .slice ka kl kc, .slice ca cl cc] 26))
  case first =>
    rcases Bool.eq_false_or_eq_true (k == 1) with h1 | h1
    · go_wp2_with fail
      go_meet
      case rel => exact ⟨by simp [numB, h1], rfl⟩
    · rcases Bool.eq_false_or_eq_true (k == 2) with h2 | h2
      · go_wp2_with fail
        go_meet
        case rel => exact ⟨by simp [numB, h2], rfl⟩
      · rcases Bool.eq_false_or_eq_true (k == 9) with h3 | h3
        · go_wp2_with fail
          go_meet
          case rel => exact ⟨by simp [numB, h3], rfl⟩
        · go_wp2_with fail
          go_meet
          case rel => exact ⟨by simp [numB, h1, h2, h3], rfl⟩
  case rest =>
    obtain ⟨rfl, rfl⟩ := hcut
    go_upto_region 2 with fail
    go_cut [4] (fun s w' => s = .bool (textB k) ∧ w' = w.alloc (.cells #[.int .i64 k, .int .i64 i, .int .i64 g, .float .f64 r, .string t, .slice ka kl kc, .slice ca cl cc] 26))
    case first =>
      rcases Bool.eq_false_or_eq_true (k == 4) with h1 | h1
      · go_wp2_with fail
        go_meet
        case rel => exact ⟨by simp [textB, h1], rfl⟩
      · rcases Bool.eq_false_or_eq_true (k == 5) with h2 | h2
        · go_wp2_with fail
          go_meet
          case rel => exact ⟨by simp [textB, h2], rfl⟩
        · rcases Bool.eq_false_or_eq_true (k == 6) with h3 | h3
          · go_wp2_with fail
            go_meet
            case rel => exact ⟨by simp [textB, h3], rfl⟩
          · go_wp2_with fail
            go_meet
            case rel => exact ⟨by simp [textB, h1, h2, h3], rfl⟩
    case rest =>
      obtain ⟨rfl, rfl⟩ := hcut
      go_upto_region 3 with fail
      go_cut [3, 4, 31] (fun _ _ s w' => s = .bool (badB k i g r t) ∧ w' = w.alloc (.cells #[.int .i64 k, .int .i64 i, .int .i64 g, .float .f64 r, .string t, .slice ka kl kc, .slice ca cl cc] 26))
      case first =>
        · rcases Bool.eq_false_or_eq_true (i != 0) with hi | hi
          · rcases Bool.eq_false_or_eq_true (numB k) with hn | hn
            · rcases Bool.eq_false_or_eq_true (g != 0) with hg | hg
              · rcases Bool.eq_false_or_eq_true (k != 9) with hk9 | hk9
                · go_wp2_with fail
                  go_meet
                  case rel => exact ⟨by simp [badB, hi, hn, hg, hk9], rfl⟩
                · by_cases hr : FloatKind.f64.format.order r 0 = some Ordering.eq
                  · by_cases ht : t.toList = []
                    · go_wp2_with fail
                      go_meet
                      case rel => exact ⟨by simp [badB, hi, hn, hg, hk9, hr, ht], rfl⟩
                    · rcases Bool.eq_false_or_eq_true (textB k) with htb | htb
                      · go_wp2_with fail
                        go_meet
                        case rel => exact ⟨by simp [badB, hi, hn, hg, hk9, hr, ht, htb], rfl⟩
                      · go_wp2_with fail
                        go_meet
                        case rel => exact ⟨by simp [badB, hi, hn, hg, hk9, hr, ht, htb], rfl⟩
                  · rcases Bool.eq_false_or_eq_true (k != 3) with hk3 | hk3
                    · go_wp2_with fail
                      go_meet
                      case rel => exact ⟨by simp [badB, hi, hn, hg, hk9, hr, hk3], rfl⟩
                    · by_cases ht : t.toList = []
                      · go_wp2_with fail
                        go_meet
                        case rel => exact ⟨by simp [badB, hi, hn, hg, hk9, hr, hk3, ht], rfl⟩
                      · rcases Bool.eq_false_or_eq_true (textB k) with htb | htb
                        · go_wp2_with fail
                          go_meet
                          case rel => exact ⟨by simp [badB, hi, hn, hg, hk9, hr, hk3, ht, htb], rfl⟩
                        · go_wp2_with fail
                          go_meet
                          case rel => exact ⟨by simp [badB, hi, hn, hg, hk9, hr, hk3, ht, htb], rfl⟩
              · by_cases hr : FloatKind.f64.format.order r 0 = some Ordering.eq
                · by_cases ht : t.toList = []
                  · go_wp2_with fail
                    go_meet
                    case rel => exact ⟨by simp [badB, hi, hn, hg, hr, ht], rfl⟩
                  · rcases Bool.eq_false_or_eq_true (textB k) with htb | htb
                    · go_wp2_with fail
                      go_meet
                      case rel => exact ⟨by simp [badB, hi, hn, hg, hr, ht, htb], rfl⟩
                    · go_wp2_with fail
                      go_meet
                      case rel => exact ⟨by simp [badB, hi, hn, hg, hr, ht, htb], rfl⟩
                · rcases Bool.eq_false_or_eq_true (k != 3) with hk3 | hk3
                  · go_wp2_with fail
                    go_meet
                    case rel => exact ⟨by simp [badB, hi, hn, hg, hr, hk3], rfl⟩
                  · by_cases ht : t.toList = []
                    · go_wp2_with fail
                      go_meet
                      case rel => exact ⟨by simp [badB, hi, hn, hg, hr, hk3, ht], rfl⟩
                    · rcases Bool.eq_false_or_eq_true (textB k) with htb | htb
                      · go_wp2_with fail
                        go_meet
                        case rel => exact ⟨by simp [badB, hi, hn, hg, hr, hk3, ht, htb], rfl⟩
                      · go_wp2_with fail
                        go_meet
                        case rel => exact ⟨by simp [badB, hi, hn, hg, hr, hk3, ht, htb], rfl⟩
            · go_wp2_with fail
              go_meet
              case rel => exact ⟨by simp [badB, hi, hn], rfl⟩
          · rcases Bool.eq_false_or_eq_true (g != 0) with hg | hg
            · rcases Bool.eq_false_or_eq_true (k != 9) with hk9 | hk9
              · go_wp2_with fail
                go_meet
                case rel => exact ⟨by simp [badB, hi, hg, hk9], rfl⟩
              · by_cases hr : FloatKind.f64.format.order r 0 = some Ordering.eq
                · by_cases ht : t.toList = []
                  · go_wp2_with fail
                    go_meet
                    case rel => exact ⟨by simp [badB, hi, hg, hk9, hr, ht], rfl⟩
                  · rcases Bool.eq_false_or_eq_true (textB k) with htb | htb
                    · go_wp2_with fail
                      go_meet
                      case rel => exact ⟨by simp [badB, hi, hg, hk9, hr, ht, htb], rfl⟩
                    · go_wp2_with fail
                      go_meet
                      case rel => exact ⟨by simp [badB, hi, hg, hk9, hr, ht, htb], rfl⟩
                · rcases Bool.eq_false_or_eq_true (k != 3) with hk3 | hk3
                  · go_wp2_with fail
                    go_meet
                    case rel => exact ⟨by simp [badB, hi, hg, hk9, hr, hk3], rfl⟩
                  · by_cases ht : t.toList = []
                    · go_wp2_with fail
                      go_meet
                      case rel => exact ⟨by simp [badB, hi, hg, hk9, hr, hk3, ht], rfl⟩
                    · rcases Bool.eq_false_or_eq_true (textB k) with htb | htb
                      · go_wp2_with fail
                        go_meet
                        case rel => exact ⟨by simp [badB, hi, hg, hk9, hr, hk3, ht, htb], rfl⟩
                      · go_wp2_with fail
                        go_meet
                        case rel => exact ⟨by simp [badB, hi, hg, hk9, hr, hk3, ht, htb], rfl⟩
            · by_cases hr : FloatKind.f64.format.order r 0 = some Ordering.eq
              · by_cases ht : t.toList = []
                · go_wp2_with fail
                  go_meet
                  case rel => exact ⟨by simp [badB, hi, hg, hr, ht], rfl⟩
                · rcases Bool.eq_false_or_eq_true (textB k) with htb | htb
                  · go_wp2_with fail
                    go_meet
                    case rel => exact ⟨by simp [badB, hi, hg, hr, ht, htb], rfl⟩
                  · go_wp2_with fail
                    go_meet
                    case rel => exact ⟨by simp [badB, hi, hg, hr, ht, htb], rfl⟩
              · rcases Bool.eq_false_or_eq_true (k != 3) with hk3 | hk3
                · go_wp2_with fail
                  go_meet
                  case rel => exact ⟨by simp [badB, hi, hg, hr, hk3], rfl⟩
                · by_cases ht : t.toList = []
                  · go_wp2_with fail
                    go_meet
                    case rel => exact ⟨by simp [badB, hi, hg, hr, hk3, ht], rfl⟩
                  · rcases Bool.eq_false_or_eq_true (textB k) with htb | htb
                    · go_wp2_with fail
                      go_meet
                      case rel => exact ⟨by simp [badB, hi, hg, hr, hk3, ht, htb], rfl⟩
                    · go_wp2_with fail
                      go_meet
                      case rel => exact ⟨by simp [badB, hi, hg, hr, hk3, ht, htb], rfl⟩
      case rest =>
        obtain ⟨rfl, rfl⟩ := hcut
        have hb : Below w.heap.size w (w.alloc (.cells #[.int .i64 k, .int .i64 i, .int .i64 g, .float .f64 r, .string t, .slice ka kl kc, .slice ca cl cc] 26)) := (Below.refl _ _).alloc (Nat.le_refl _) _
        obtain ⟨bb, HB⟩ : ∃ bb, Hid (badB k i g r t = bb) := ⟨_, rfl⟩
        rw [HB.out]
        cases bb
        case true =>
          go_wp2_with fail
          go_ret
          exact ⟨RetIf.mk _ (fun h => by simp at h), hb⟩
        · skip
          · rcases Bool.eq_false_or_eq_true ((kl : Int) == 0) with hk | hk
            · rcases Bool.eq_false_or_eq_true ((cl : Int) == 0) with hc | hc
              · go_wp2_with fail
                go_ret
                exact ⟨RetIf.mk _ (fun _ => onlyP_of HB.out (by simp at *; omega) (by simp at *; omega)), hb⟩
              · rcases Bool.eq_false_or_eq_true (k == 8) with h8 | h8
                · go_wp2_with fail
                  go_ret
                  exact ⟨RetIf.mk _ (fun _ => onlyP_of HB.out (by simp at *; omega) (by simp at *; omega)), hb⟩
                · rcases Bool.eq_false_or_eq_true (k == 7) with h7 | h7
                  · go_wp2_with fail
                    go_ret
                    exact ⟨RetIf.mk _ (fun _ => onlyP_of HB.out (by simp at *; omega) (by simp at *; omega)), hb⟩
                  · go_wp2_with fail
                    go_ret
                    exact ⟨RetIf.mk _ (fun h => by simp at h), hb⟩
            · rcases Bool.eq_false_or_eq_true (k == 8) with h8 | h8
              · rcases Bool.eq_false_or_eq_true ((cl : Int) == 0) with hc | hc
                · go_wp2_with fail
                  go_ret
                  exact ⟨RetIf.mk _ (fun _ => onlyP_of HB.out (by simp at *; omega) (by simp at *; omega)), hb⟩
                · go_wp2_with fail
                  go_ret
                  exact ⟨RetIf.mk _ (fun _ => onlyP_of HB.out (by simp at *; omega) (by simp at *; omega)), hb⟩
              · go_wp2_with fail
                go_ret
                exact ⟨RetIf.mk _ (fun h => by simp at h), hb⟩
end Go.Proofs.YtcpijmbdibgdmaaGreatDoor
