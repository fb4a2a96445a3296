/-
  The reader's literal: it returns some string, no longer than the text.
-/
import Derived.Test.YtcpijmbdibgdmaaGreatDoorR1
import Derived.Test.YtcpijmbdibgdmaaGreatDoorO2
import Derived.Deep.LoopGhost
namespace Go.Proofs.YtcpijmbdibgdmaaGreatDoor
open Go Go.RowKit

/-- It returns a string of at most `n` bytes. -/
def RetStr (n : Nat) (e : Ending) : Prop := ∃ t : ByteArray, t.size ≤ n ∧ e = .returned (.string t)
theorem RetStr.mk {n : Nat} (t : ByteArray) (h : t.size ≤ n) : RetStr n (.returned (.string t)) := ⟨t, h, rfl⟩

/-- What holds at the head of a round of literal and of hex. -/
def LitRel (w wr : World) (b : Nat) (s : ByteArray) (k k' : Nat) (out : Value) : Prop :=
  k ≤ k' ∧ (∃ xs : List Int, xs.length ≤ k' ∧ wr.ownsRow w.heap.size 5 1 out xs.length (xs.map (Value.int .u8))) ∧ Kept (· = b) w wr ∧ Rdr wr b s k'

theorem Kept.of_row {b : Nat} {u : Value} {n : Nat} {xs : List Value} {w wr W : World} {e : TypeId} {size : Nat} (hbw : b < w.heap.size) (hown : wr.ownsRow w.heap.size e size u n xs) (hx : Kept (· = b) wr W) : W.ownsRow w.heap.size e size u n xs :=
  hx.own hown (fun g hg e => by have := (hown.lt g hg).1; omega)

theorem lit_own {b : Nat} {u : Value} {xs : List Int} {w wr W : World} (hbw : b < w.heap.size) (hown : wr.ownsRow w.heap.size 5 1 u xs.length (xs.map (Value.int .u8))) (hx : Kept (· = b) wr W) :
    W.ownsRow w.heap.size 5 1 u xs.length (xs.map (Value.int .u8)) := Kept.of_row hbw hown hx

theorem lit_same {b k k1 : Nat} {s : ByteArray} {u : Value} {xs : List Int} {w wr W : World} (hown : wr.ownsRow w.heap.size 5 1 u xs.length (xs.map (Value.int .u8))) (hkp : Kept (· = b) w wr)
    (hx : Kept (· = b) wr W) (hr : Rdr W b s k1) (hbw : b < w.heap.size) (hxs : xs.length ≤ k1) (hkk : k ≤ k1) : LitRel w W b s k k1 u :=
  ⟨hkk, ⟨xs, hxs, lit_own hbw hown hx⟩, hkp.trans hx (fun _ _ h => h), hr⟩

theorem lit_app {b k k1 : Nat} {s : ByteArray} {u v1 : Value} {xs : List Int} {y : Int} {w wr W w1 : World} (hbw : b < w.heap.size) (hown : wr.ownsRow w.heap.size 5 1 u xs.length (xs.map (Value.int .u8))) (hkp : Kept (· = b) w wr)
    (hx : Kept (· = b) wr W) (hr : Rdr W b s k1) (hk1 : Kept (fun k => u.ownBlock = some k) W w1) (ho : w1.ownsRow w.heap.size 5 1 v1 (xs.length + 1) (xs.map (Value.int .u8) ++ [.int .u8 y])) (hxs : xs.length < k1) (hkk : k ≤ k1) :
    LitRel w w1 b s k k1 v1 := by
  have hW := lit_own hbw hown hx
  refine ⟨hkk, ⟨xs ++ [y], by simp; omega, by simpa using ho⟩, (hkp.trans hx (fun _ _ h => h)).own_trans hW hk1 (Nat.le_refl _), ?_⟩
  exact hr.of_block (hk1.block b hr.lt (fun e => by have := (hW.lt b e).1; omega))

theorem lit_conv {b : Nat} {u : Value} {xs : List Int} {w wr : World} (hbw : b < w.heap.size) (hown : wr.ownsRow w.heap.size 5 1 u xs.length (xs.map (Value.int .u8))) (k : Nat) :
    ∃ str : ByteArray, str.size = xs.length ∧ ∀ n, (convert 102 9 u).run Tryz.prog ((wr.drewN n).setCell ⟨b, 1, none⟩ (.int .i64 ((k : Int) + 1))) = .ok (.string str) ((wr.drewN n).setCell ⟨b, 1, none⟩ (.int .i64 ((k : Int) + 1))) := by
  refine ⟨strOfNums xs, size_strOfNums xs, fun n => ?_⟩
  obtain ⟨str, rfl, h⟩ := conv_bytes (lit_own (W := (wr.drewN n).setCell ⟨b, 1, none⟩ (.int .i64 ((k : Int) + 1))) hbw hown (((Kept.refl (· = b) wr).drewN _).setCell ⟨b, 1, none⟩ _ (fun _ => rfl)))
  exact h

set_option maxRecDepth 100000 in
set_option maxHeartbeats 4000000 in
theorem literal_any (b : Nat) (s : ByteArray) (k : Nat) (w : World) (h : Rdr w b s k) (hs : s.size ≤ 140737488355328) :
    Calls Tryz.prog 56 #[.pointer (some ⟨b, 0, none⟩)] w fun e w' => RetStr s.size e ∧ Kept (· = b) w w' ∧ RdrFrom w' b s k := by
  have H := Lib.hid h
  have hbw := h.lt
  have hk0 := h.1
  clear h
  go_enter Tryz.func56, Tryz.ntmps56
  go_wp2_with fail
  go_loopg [3, 4] (s.size - k) (fun gk out op wr => ∃ (k' : Nat) (x : Int), gk + k' = s.size ∧ op = .int .i64 x ∧ LitRel w wr b s k k' out)
  case atStart => exact ⟨k, 0, by omega, rfl, by omega, ⟨[], by simp, World.ownsRow_nil _ _ _ _⟩, Kept.refl _ _, H.out⟩
  case round =>
    obtain ⟨k', x, hgk, rfl, hkk, ⟨xs, hxs, hown⟩, hkp, hr⟩ := hrel
    have HKP := Lib.hid hkp
    have HR := Lib.hid hr
    have HO := Lib.hid hown
    obtain ⟨h0, h1, h2, ⟨x2, h3⟩, ⟨x4, h4⟩, ⟨x5, h5⟩, f1, f2, f4, f5⟩ := hr
    have hbr := hkp.size
    clear hkp hown
    have hk0' : (0 : Int) ≤ (k' : Int) := by omega
    by_cases hk : k' < s.size
    · have hk' : (k' : Int) < (s.size : Int) := by omega
      rcases Bool.eq_false_or_eq_true ((s[k'].toNat : Int) == 40) with c1 | c1
      · rcases Bool.eq_false_or_eq_true (wrap64 (x + 1) == 1) with d1 | d1
        · go_wp2_with fail
          go_quiet (fail)
          go_wp2_with fail
          go_quiet (fail)
          go_wp2_with fail
          go_roundg (s.size - (k' + 1))
          case measure => omega
          case rel => exact ⟨k' + 1, _, by omega, rfl, lit_same HO.out HKP.out (by repeat (first | exact Kept.refl _ _ | exact HX.out | refine Kept.drewN ?_ _ | refine Kept.setCell ?_ ⟨b, 1, none⟩ _ (fun _ => rfl))) (by first | exact HR1.out | exact (HR.out.drewN _).setAt _ _ (by omega) (by omega) | exact ((HR.out.drewN _).setAt (k' + 1) _ (by omega) (by omega)).drewN _ | exact (((HR.out.drewN _).setAt (k' + 1) _ (by omega) (by omega)).drewN _).setAt _ _ (by omega) (by omega)) hbw (by omega) (by omega)⟩
        · go_wp2_with fail
          go_quiet (fail)
          go_wp2_with fail
          go_quiet (fail)
          go_wp2_with (at_builtin; refine wp_app1 102 5 1 1 _ Tryz.info5 Tryz.underlying102 rfl (by decide) w.heap.size u3 xs.length _ [.int .u8 (s[k'].toNat : Int)] _ _ _ _ rfl rfl _ rfl rfl rfl (by simp) (lit_own hbw HO.out (by repeat (first | exact Kept.refl _ _ | exact HX.out | refine Kept.drewN ?_ _ | refine Kept.setCell ?_ ⟨b, 1, none⟩ _ (fun _ => rfl)))) rfl (by intro u hu; simp at hu; subst hu; rfl) (by omega) (by omega) (by first | omega | (simp; omega)) ?_; intro v1 w1 ho1 hk1; have RL := Lib.hid (lit_app (k := k) (k1 := k' + 1) hbw HO.out HKP.out (by repeat (first | exact Kept.refl _ _ | exact HX.out | refine Kept.drewN ?_ _ | refine Kept.setCell ?_ ⟨b, 1, none⟩ _ (fun _ => rfl))) (by first | exact HR1.out | exact (HR.out.drewN _).setAt _ _ (by omega) (by omega) | exact ((HR.out.drewN _).setAt (k' + 1) _ (by omega) (by omega)).drewN _ | exact (((HR.out.drewN _).setAt (k' + 1) _ (by omega) (by omega)).drewN _).setAt _ _ (by omega) (by omega)) hk1 ho1 (by omega) (by omega)); clear ho1 hk1)
          go_roundg (s.size - (k' + 1))
          case measure => omega
          case rel => exact ⟨k' + 1, _, by omega, rfl, RL.out⟩
      · rcases Bool.eq_false_or_eq_true ((s[k'].toNat : Int) == 41) with c2 | c2
        · rcases Bool.eq_false_or_eq_true (wrap64 (x - 1) == 0) with d1 | d1
          · obtain ⟨str, hsz, hcv⟩ := lit_conv hbw HO.out k'
            go_wp2_with fail
            go_quiet (fail)
            go_wp2_with fail
            go_quiet (fail)
            go_wp2_with fail
            go_ret
            exact ⟨RetStr.mk _ (by omega), HKP.out.trans (by repeat (first | exact Kept.refl _ _ | exact HX.out | refine Kept.drewN ?_ _ | refine Kept.setCell ?_ ⟨b, 1, none⟩ _ (fun _ => rfl))) (fun _ _ h => h), ⟨k' + 1, by omega, (by first | exact HR1.out | exact (HR.out.drewN _).setAt _ _ (by omega) (by omega) | exact ((HR.out.drewN _).setAt (k' + 1) _ (by omega) (by omega)).drewN _ | exact (((HR.out.drewN _).setAt (k' + 1) _ (by omega) (by omega)).drewN _).setAt _ _ (by omega) (by omega))⟩⟩
          · go_wp2_with fail
            go_quiet (fail)
            go_wp2_with fail
            go_quiet (fail)
            go_wp2_with (at_builtin; refine wp_app1 102 5 1 1 _ Tryz.info5 Tryz.underlying102 rfl (by decide) w.heap.size u3 xs.length _ [.int .u8 (s[k'].toNat : Int)] _ _ _ _ rfl rfl _ rfl rfl rfl (by simp) (lit_own hbw HO.out (by repeat (first | exact Kept.refl _ _ | exact HX.out | refine Kept.drewN ?_ _ | refine Kept.setCell ?_ ⟨b, 1, none⟩ _ (fun _ => rfl)))) rfl (by intro u hu; simp at hu; subst hu; rfl) (by omega) (by omega) (by first | omega | (simp; omega)) ?_; intro v1 w1 ho1 hk1; have RL := Lib.hid (lit_app (k := k) (k1 := k' + 1) hbw HO.out HKP.out (by repeat (first | exact Kept.refl _ _ | exact HX.out | refine Kept.drewN ?_ _ | refine Kept.setCell ?_ ⟨b, 1, none⟩ _ (fun _ => rfl))) (by first | exact HR1.out | exact (HR.out.drewN _).setAt _ _ (by omega) (by omega) | exact ((HR.out.drewN _).setAt (k' + 1) _ (by omega) (by omega)).drewN _ | exact (((HR.out.drewN _).setAt (k' + 1) _ (by omega) (by omega)).drewN _).setAt _ _ (by omega) (by omega)) hk1 ho1 (by omega) (by omega)); clear ho1 hk1)
            go_roundg (s.size - (k' + 1))
            case measure => omega
            case rel => exact ⟨k' + 1, _, by omega, rfl, RL.out⟩
        · rcases Bool.eq_false_or_eq_true ((s[k'].toNat : Int) == 13) with c3 | c3
          · by_cases hk1 : k' + 1 < s.size
            · have hk1' : (k' : Int) + 1 < (s.size : Int) := by omega
              have hk10 : (0 : Int) ≤ (k' : Int) + 1 := by omega
              rcases Bool.eq_false_or_eq_true ((s[k' + 1].toNat : Int) == 10) with c4 | c4
              · go_wp2_with fail
                go_quiet (fail)
                go_wp2_with fail
                go_quiet (fail)
                go_wp2_with fail
                have hkn : ((k' : Int) + 1).toNat = k' + 1 := by omega
                go_quiet (fail)
                go_wp2_with (at_builtin; refine wp_app1 102 5 1 1 _ Tryz.info5 Tryz.underlying102 rfl (by decide) w.heap.size u3 xs.length _ [.int .u8 10] _ _ _ _ rfl rfl _ rfl rfl rfl (by simp) (lit_own hbw HO.out (by repeat (first | exact Kept.refl _ _ | exact HX.out | refine Kept.drewN ?_ _ | refine Kept.setCell ?_ ⟨b, 1, none⟩ _ (fun _ => rfl)))) rfl (by intro u hu; simp at hu; subst hu; rfl) (by omega) (by omega) (by first | omega | (simp; omega)) ?_; intro v1 w1 ho1 hk1; have RL := Lib.hid (lit_app (k := k) (k1 := k' + 2) hbw HO.out HKP.out (by repeat (first | exact Kept.refl _ _ | exact HX.out | refine Kept.drewN ?_ _ | refine Kept.setCell ?_ ⟨b, 1, none⟩ _ (fun _ => rfl))) (by first | exact HR1.out | exact (HR.out.drewN _).setAt _ _ (by omega) (by omega) | exact ((HR.out.drewN _).setAt (k' + 1) _ (by omega) (by omega)).drewN _ | exact (((HR.out.drewN _).setAt (k' + 1) _ (by omega) (by omega)).drewN _).setAt _ _ (by omega) (by omega)) hk1 ho1 (by omega) (by omega)); clear ho1 hk1)
                go_roundg (s.size - (k' + 2))
                case measure => omega
                case rel => exact ⟨k' + 2, _, by omega, rfl, RL.out⟩
              · go_wp2_with fail
                go_quiet (fail)
                go_wp2_with fail
                go_quiet (fail)
                go_wp2_with fail
                have hkn : ((k' : Int) + 1).toNat = k' + 1 := by omega
                go_quiet (fail)
                go_wp2_with (at_builtin; refine wp_app1 102 5 1 1 _ Tryz.info5 Tryz.underlying102 rfl (by decide) w.heap.size u3 xs.length _ [.int .u8 10] _ _ _ _ rfl rfl _ rfl rfl rfl (by simp) (lit_own hbw HO.out (by repeat (first | exact Kept.refl _ _ | exact HX.out | refine Kept.drewN ?_ _ | refine Kept.setCell ?_ ⟨b, 1, none⟩ _ (fun _ => rfl)))) rfl (by intro u hu; simp at hu; subst hu; rfl) (by omega) (by omega) (by first | omega | (simp; omega)) ?_; intro v1 w1 ho1 hk1; have RL := Lib.hid (lit_app (k := k) (k1 := k' + 1) hbw HO.out HKP.out (by repeat (first | exact Kept.refl _ _ | exact HX.out | refine Kept.drewN ?_ _ | refine Kept.setCell ?_ ⟨b, 1, none⟩ _ (fun _ => rfl))) (by first | exact HR1.out | exact (HR.out.drewN _).setAt _ _ (by omega) (by omega) | exact ((HR.out.drewN _).setAt (k' + 1) _ (by omega) (by omega)).drewN _ | exact (((HR.out.drewN _).setAt (k' + 1) _ (by omega) (by omega)).drewN _).setAt _ _ (by omega) (by omega)) hk1 ho1 (by omega) (by omega)); clear ho1 hk1)
                go_roundg (s.size - (k' + 1))
                case measure => omega
                case rel => exact ⟨k' + 1, _, by omega, rfl, RL.out⟩
            · have hd : decide ((k' : Int) + 1 < (s.size : Int)) = false := by simp; omega
              go_wp2_with fail
              go_quiet (fail)
              go_wp2_with fail
              go_quiet (fail)
              go_wp2_with fail
              go_quiet (fail)
              go_wp2_with (at_builtin; refine wp_app1 102 5 1 1 _ Tryz.info5 Tryz.underlying102 rfl (by decide) w.heap.size u3 xs.length _ [.int .u8 10] _ _ _ _ rfl rfl _ rfl rfl rfl (by simp) (lit_own hbw HO.out (by repeat (first | exact Kept.refl _ _ | exact HX.out | refine Kept.drewN ?_ _ | refine Kept.setCell ?_ ⟨b, 1, none⟩ _ (fun _ => rfl)))) rfl (by intro u hu; simp at hu; subst hu; rfl) (by omega) (by omega) (by first | omega | (simp; omega)) ?_; intro v1 w1 ho1 hk1; have RL := Lib.hid (lit_app (k := k) (k1 := k' + 1) hbw HO.out HKP.out (by repeat (first | exact Kept.refl _ _ | exact HX.out | refine Kept.drewN ?_ _ | refine Kept.setCell ?_ ⟨b, 1, none⟩ _ (fun _ => rfl))) (by first | exact HR1.out | exact (HR.out.drewN _).setAt _ _ (by omega) (by omega) | exact ((HR.out.drewN _).setAt (k' + 1) _ (by omega) (by omega)).drewN _ | exact (((HR.out.drewN _).setAt (k' + 1) _ (by omega) (by omega)).drewN _).setAt _ _ (by omega) (by omega)) hk1 ho1 (by omega) (by omega)); clear ho1 hk1)
              go_roundg (s.size - (k' + 1))
              case measure => omega
              case rel => exact ⟨k' + 1, _, by omega, rfl, RL.out⟩
          · rcases Bool.eq_false_or_eq_true ((s[k'].toNat : Int) == 92) with c4 | c4
            · go_wp2_with fail
              go_quiet (fail)
              go_wp2_with fail
              go_quiet (fail)
              go_wp2_with fail
              refine (escape_any b s (k' + 1) _ (by first | exact HR1.out | exact (HR.out.drewN _).setAt _ _ (by omega) (by omega) | exact ((HR.out.drewN _).setAt (k' + 1) _ (by omega) (by omega)).drewN _ | exact (((HR.out.drewN _).setAt (k' + 1) _ (by omega) (by omega)).drewN _).setAt _ _ (by omega) (by omega)) (by omega)).mono ?_
              rintro e w1 ⟨⟨y, is, hy0, hy1, rfl⟩, hx1, ⟨k2, hk2, hr1⟩⟩
              have HX := Lib.hid (Kept.trans (S := (· = b)) (a := wr) (by repeat (first | exact Kept.refl _ _ | exact HX.out | refine Kept.drewN ?_ _ | refine Kept.setCell ?_ ⟨b, 1, none⟩ _ (fun _ => rfl))) hx1 (fun _ _ h => h))
              have HR1 := Lib.hid hr1
              have hk2s := hr1.1
              have hs1 := hx1.size
              simp at hs1
              clear hx1 hr1
              cases is
              · go_wp2_with fail
                go_roundg (s.size - (k2))
                case measure => omega
                case rel => exact ⟨k2, _, by omega, rfl, lit_same HO.out HKP.out (by repeat (first | exact Kept.refl _ _ | exact HX.out | refine Kept.drewN ?_ _ | refine Kept.setCell ?_ ⟨b, 1, none⟩ _ (fun _ => rfl))) (by first | exact HR1.out | exact (HR.out.drewN _).setAt _ _ (by omega) (by omega) | exact ((HR.out.drewN _).setAt (k' + 1) _ (by omega) (by omega)).drewN _ | exact (((HR.out.drewN _).setAt (k' + 1) _ (by omega) (by omega)).drewN _).setAt _ _ (by omega) (by omega)) hbw (by omega) (by omega)⟩
              · go_wp2_with (at_builtin; refine wp_app1 102 5 1 1 _ Tryz.info5 Tryz.underlying102 rfl (by decide) w.heap.size u3 xs.length _ [.int .u8 y] _ _ _ _ rfl rfl _ rfl rfl rfl (by simp) (lit_own hbw HO.out (by repeat (first | exact Kept.refl _ _ | exact HX.out | refine Kept.drewN ?_ _ | refine Kept.setCell ?_ ⟨b, 1, none⟩ _ (fun _ => rfl)))) rfl (by intro u hu; simp at hu; subst hu; rfl) (by omega) (by omega) (by first | omega | (simp; omega)) ?_; intro v1 w1 ho1 hk1; have RL := Lib.hid (lit_app (k := k) (k1 := k2) hbw HO.out HKP.out (by repeat (first | exact Kept.refl _ _ | exact HX.out | refine Kept.drewN ?_ _ | refine Kept.setCell ?_ ⟨b, 1, none⟩ _ (fun _ => rfl))) (by first | exact HR1.out | exact (HR.out.drewN _).setAt _ _ (by omega) (by omega) | exact ((HR.out.drewN _).setAt (k' + 1) _ (by omega) (by omega)).drewN _ | exact (((HR.out.drewN _).setAt (k' + 1) _ (by omega) (by omega)).drewN _).setAt _ _ (by omega) (by omega)) hk1 ho1 (by omega) (by omega)); clear ho1 hk1)
                go_roundg (s.size - (k2))
                case measure => omega
                case rel => exact ⟨k2, _, by omega, rfl, RL.out⟩
            · go_wp2_with fail
              go_quiet (fail)
              go_wp2_with fail
              go_quiet (fail)
              go_wp2_with (at_builtin; refine wp_app1 102 5 1 1 _ Tryz.info5 Tryz.underlying102 rfl (by decide) w.heap.size u3 xs.length _ [.int .u8 (s[k'].toNat : Int)] _ _ _ _ rfl rfl _ rfl rfl rfl (by simp) (lit_own hbw HO.out (by repeat (first | exact Kept.refl _ _ | exact HX.out | refine Kept.drewN ?_ _ | refine Kept.setCell ?_ ⟨b, 1, none⟩ _ (fun _ => rfl)))) rfl (by intro u hu; simp at hu; subst hu; rfl) (by omega) (by omega) (by first | omega | (simp; omega)) ?_; intro v1 w1 ho1 hk1; have RL := Lib.hid (lit_app (k := k) (k1 := k' + 1) hbw HO.out HKP.out (by repeat (first | exact Kept.refl _ _ | exact HX.out | refine Kept.drewN ?_ _ | refine Kept.setCell ?_ ⟨b, 1, none⟩ _ (fun _ => rfl))) (by first | exact HR1.out | exact (HR.out.drewN _).setAt _ _ (by omega) (by omega) | exact ((HR.out.drewN _).setAt (k' + 1) _ (by omega) (by omega)).drewN _ | exact (((HR.out.drewN _).setAt (k' + 1) _ (by omega) (by omega)).drewN _).setAt _ _ (by omega) (by omega)) hk1 ho1 (by omega) (by omega)); clear ho1 hk1)
              go_roundg (s.size - (k' + 1))
              case measure => omega
              case rel => exact ⟨k' + 1, _, by omega, rfl, RL.out⟩
    · go_wp2_with fail
      go_quiet (fail)
      go_wp2_with fail
      refine (fail_any b s k' 1 _ ((HR.out.drewN _).setEnds true)).mono ?_
      rintro e w1 ⟨rfl, hk1, hr1⟩
      have HK1 := Lib.hid ((HKP.out.trans (((Kept.refl (· = b) wr).drewN nq).setCell ⟨b, 5, none⟩ (.bool true) (fun _ => rfl)) (fun _ _ h => h)).trans hk1 (fun _ _ h => h))
      have HR1 := Lib.hid hr1
      clear hk1 hr1
      go_wp2_with fail
      go_ret
      exact ⟨RetStr.mk _ (by show (0 : Nat) ≤ _; omega), HK1.out, ⟨k', hkk, HR1.out⟩⟩
end Go.Proofs.YtcpijmbdibgdmaaGreatDoor

/-
  The reader's hex, LiteralBytes and HexBytes: they return, whatever the text.
-/
namespace Go.Proofs.YtcpijmbdibgdmaaGreatDoor
open Go Go.RowKit

set_option maxRecDepth 100000 in
set_option maxHeartbeats 4000000 in
theorem hexs_any (b : Nat) (s : ByteArray) (k : Nat) (w : World) (h : Rdr w b s k) (hks : k < s.size) (hs : s.size ≤ 140737488355328) :
    Calls Tryz.prog 58 #[.pointer (some ⟨b, 0, none⟩)] w fun e w' => RetStr s.size e ∧ Kept (· = b) w w' ∧ RdrFrom w' b s k := by
  have H := Lib.hid h
  have hbw := h.lt
  obtain ⟨h0, h1, h2, ⟨x2, h3⟩, ⟨x4, h4⟩, ⟨x5, h5⟩, f1, f2, f4, f5⟩ := h
  go_enter Tryz.func58, Tryz.ntmps58
  go_wp2_with fail
  clear h0 h1 h2 h3 h4 h5 f1 f2 f4 f5
  go_loopg [3, 4, 5] (s.size - k - 1) (fun gk out hf od wr => ∃ (k' : Nat) (x : Int) (o : Bool), gk + k' = s.size ∧ hf = .int .i64 x ∧ od = .bool o ∧ LitRel w wr b s k k' out)
  case atStart => exact ⟨k + 1, 0, false, by omega, rfl, rfl, by omega, ⟨[], by simp, World.ownsRow_nil _ _ _ _⟩, (Kept.refl (· = b) w).setCell ⟨b, 1, none⟩ _ (fun _ => rfl), H.out.setAt (k + 1) _ (by omega) (by omega)⟩
  case round =>
    obtain ⟨k', x, od, hgk, rfl, rfl, hkk, ⟨xs, hxs, hown⟩, hkp, hr⟩ := hrel
    have HKP := Lib.hid hkp
    have HR := Lib.hid hr
    have HO := Lib.hid hown
    obtain ⟨h0, h1, h2, ⟨x2, h3⟩, ⟨x4, h4⟩, ⟨x5, h5⟩, f1, f2, f4, f5⟩ := hr
    have hbr := hkp.size
    clear hkp hown
    have hk0' : (0 : Int) ≤ (k' : Int) := by omega
    by_cases hk : k' < s.size
    · have hk' : (k' : Int) < (s.size : Int) := by omega
      rcases Bool.eq_false_or_eq_true ((s[k'].toNat : Int) == 62) with c1 | c1
      · cases od
        · obtain ⟨str, hsz, hcv⟩ := lit_conv hbw HO.out k'
          go_wp2_with fail
          go_quiet (fail)
          go_wp2_with fail
          go_quiet (fail)
          go_wp2_with fail
          go_ret
          exact ⟨RetStr.mk _ (by omega), HKP.out.trans (by repeat (first | exact Kept.refl _ _ | refine Kept.drewN ?_ _ | refine Kept.setCell ?_ ⟨b, 1, none⟩ _ (fun _ => rfl) | refine Kept.setCell ?_ ⟨b, 4, none⟩ _ (fun _ => rfl))) (fun _ _ h => h), ⟨k' + 1, by omega, (by first | exact (HR.out.drewN _).setAt (k' + 1) _ (by omega) (by omega) | exact ((HR.out.drewN _).setAt (k' + 1) _ (by omega) (by omega)).setOdd _)⟩⟩
        · go_wp2_with fail
          go_quiet (fail)
          go_wp2_with fail
          go_quiet (fail)
          go_upto_region 11 with (at_builtin; refine wp_app1 102 5 1 1 _ Tryz.info5 Tryz.underlying102 rfl (by decide) w.heap.size u3 xs.length _ [.int .u8 _] _ _ _ _ rfl rfl _ rfl rfl rfl (by simp) (lit_own hbw HO.out (by repeat (first | exact Kept.refl _ _ | refine Kept.drewN ?_ _ | refine Kept.setCell ?_ ⟨b, 1, none⟩ _ (fun _ => rfl) | refine Kept.setCell ?_ ⟨b, 4, none⟩ _ (fun _ => rfl)))) rfl (by intro u hu; simp at hu; subst hu; rfl) (by omega) (by omega) (by first | omega | (simp; omega)) ?_; intro v1 w1 ho1 hk1; have RL := Lib.hid (lit_app (k := k) (k1 := k' + 1) hbw HO.out HKP.out (by repeat (first | exact Kept.refl _ _ | refine Kept.drewN ?_ _ | refine Kept.setCell ?_ ⟨b, 1, none⟩ _ (fun _ => rfl) | refine Kept.setCell ?_ ⟨b, 4, none⟩ _ (fun _ => rfl))) (by first | exact (HR.out.drewN _).setAt (k' + 1) _ (by omega) (by omega) | exact ((HR.out.drewN _).setAt (k' + 1) _ (by omega) (by omega)).setOdd _) hk1 ho1 (by omega) (by omega)); clear ho1 hk1)
          obtain ⟨hkk1, ⟨ys, hys, hoy⟩, hkp1, hr1⟩ := RL.out
          obtain ⟨str, rfl, hcv⟩ := conv_bytes hoy
          go_wp2_with fail
          go_ret
          exact ⟨RetStr.mk _ (by rw [size_strOfNums]; have := hr1.1; omega), hkp1, ⟨k' + 1, by omega, hr1⟩⟩
      · go_wp2_with fail
        go_quiet (fail)
        go_wp2_with fail
        go_quiet (fail)
        go_wp2_with fail
        refine (white_any _ _).mono ?_
        rintro e w1 ⟨⟨q, rfl⟩, rfl⟩
        cases q
        · go_wp2_with fail
          refine (hex_any _ _).mono ?_
          rintro e w1 ⟨⟨q, rfl⟩, rfl⟩
          by_cases hq : q < 0
          · go_wp2_with fail
            refine (fail_any b s (k' + 1) _ _ (by first | exact (HR.out.drewN _).setAt (k' + 1) _ (by omega) (by omega) | exact ((HR.out.drewN _).setAt (k' + 1) _ (by omega) (by omega)).setOdd _)).mono ?_
            rintro e w1 ⟨rfl, hk1, hr1⟩
            have HK1 := Lib.hid ((HKP.out.trans (Kept.trans (S := (· = b)) (a := wr) (by repeat (first | exact Kept.refl _ _ | refine Kept.drewN ?_ _ | refine Kept.setCell ?_ ⟨b, 1, none⟩ _ (fun _ => rfl) | refine Kept.setCell ?_ ⟨b, 4, none⟩ _ (fun _ => rfl))) hk1 (fun _ _ h => h)) (fun _ _ h => h)))
            have HR1 := Lib.hid hr1
            clear hk1 hr1
            go_wp2_with fail
            go_ret
            exact ⟨RetStr.mk _ (by show (0 : Nat) ≤ _; omega), HK1.out, ⟨k' + 1, by omega, HR1.out⟩⟩
          · cases od
            · go_wp2_with (go_at_call 57; refine (hex_any _ _).mono ?_; rintro e w1 ⟨⟨q, rfl⟩, rfl⟩)
              go_roundg (s.size - (k' + 1))
              case measure => omega
              case rel => exact ⟨k' + 1, _, _, by omega, rfl, rfl, lit_same HO.out HKP.out (by repeat (first | exact Kept.refl _ _ | refine Kept.drewN ?_ _ | refine Kept.setCell ?_ ⟨b, 1, none⟩ _ (fun _ => rfl) | refine Kept.setCell ?_ ⟨b, 4, none⟩ _ (fun _ => rfl))) (by first | exact (HR.out.drewN _).setAt (k' + 1) _ (by omega) (by omega) | exact ((HR.out.drewN _).setAt (k' + 1) _ (by omega) (by omega)).setOdd _) hbw (by omega) (by omega)⟩
            · go_wp2_with (first | (go_at_call 57; refine (hex_any _ _).mono ?_; rintro e w1 ⟨⟨q, rfl⟩, rfl⟩) | (at_builtin; refine wp_app1 102 5 1 1 _ Tryz.info5 Tryz.underlying102 rfl (by decide) w.heap.size u3 xs.length _ [.int .u8 _] _ _ _ _ rfl rfl _ rfl rfl rfl (by simp) (lit_own hbw HO.out (by repeat (first | exact Kept.refl _ _ | refine Kept.drewN ?_ _ | refine Kept.setCell ?_ ⟨b, 1, none⟩ _ (fun _ => rfl) | refine Kept.setCell ?_ ⟨b, 4, none⟩ _ (fun _ => rfl)))) rfl (by intro u hu; simp at hu; subst hu; rfl) (by omega) (by omega) (by first | omega | (simp; omega)) ?_; intro v1 w1 ho1 hk1; have RL := Lib.hid (lit_app (k := k) (k1 := k' + 1) hbw HO.out HKP.out (by repeat (first | exact Kept.refl _ _ | refine Kept.drewN ?_ _ | refine Kept.setCell ?_ ⟨b, 1, none⟩ _ (fun _ => rfl) | refine Kept.setCell ?_ ⟨b, 4, none⟩ _ (fun _ => rfl))) (by first | exact (HR.out.drewN _).setAt (k' + 1) _ (by omega) (by omega) | exact ((HR.out.drewN _).setAt (k' + 1) _ (by omega) (by omega)).setOdd _) hk1 ho1 (by omega) (by omega)); clear ho1 hk1))
              go_roundg (s.size - (k' + 1))
              case measure => omega
              case rel => exact ⟨k' + 1, _, _, by omega, rfl, rfl, RL.out⟩
        · go_wp2_with fail
          all_goals (go_roundg (s.size - (k' + 1)); (case measure => omega); (case rel => exact ⟨k' + 1, _, _, by omega, rfl, rfl, lit_same HO.out HKP.out (by repeat (first | exact Kept.refl _ _ | refine Kept.drewN ?_ _ | refine Kept.setCell ?_ ⟨b, 1, none⟩ _ (fun _ => rfl) | refine Kept.setCell ?_ ⟨b, 4, none⟩ _ (fun _ => rfl))) (by first | exact (HR.out.drewN _).setAt (k' + 1) _ (by omega) (by omega) | exact ((HR.out.drewN _).setAt (k' + 1) _ (by omega) (by omega)).setOdd _) hbw (by omega) (by omega)⟩))
    · go_wp2_with fail
      go_quiet (fail)
      go_wp2_with fail
      refine (fail_any b s k' 1 _ (HR.out.drewN _)).mono ?_
      rintro e w1 ⟨rfl, hk1, hr1⟩
      have HK1 := Lib.hid ((HKP.out.trans ((Kept.refl (· = b) wr).drewN _) (fun _ _ h => h)).trans hk1 (fun _ _ h => h))
      have HR1 := Lib.hid hr1
      clear hk1 hr1
      go_wp2_with fail
      go_ret
      exact ⟨RetStr.mk _ (by show (0 : Nat) ≤ _; omega), HK1.out, ⟨k', hkk, HR1.out⟩⟩

end Go.Proofs.YtcpijmbdibgdmaaGreatDoor

/-
  LiteralBytes and HexBytes: they return, whatever the text.
-/
namespace Go.Proofs.YtcpijmbdibgdmaaGreatDoor
open Go Go.RowKit

/-- It returns a string of at most `n` bytes, and a bool. -/
def RetStrBool (n : Nat) (e : Ending) : Prop := ∃ (t : ByteArray) (y : Bool), t.size ≤ n ∧ e = .returned (.tuple #[.string t, .bool y])
theorem RetStrBool.mk {n : Nat} (t : ByteArray) (y : Bool) (h : t.size ≤ n) : RetStrBool n (.returned (.tuple #[.string t, .bool y])) := ⟨t, y, h, rfl⟩

theorem below_drewN' {B : Nat} {a b : World} (h : Below B a b) (n : Nat) : Below B a (b.drewN n) := ⟨h.os, h.tape, h.output, h.size, h.block⟩

theorem Kept.newBelow {w w1 : World} {o : Obj} (h : Kept (· = w.heap.size) (w.alloc o) w1) : Below w.heap.size w w1 :=
  Kept.below (S := (· = w.heap.size)) (((Kept.refl _ w).alloc o).trans h (fun _ _ h => h)) (fun k h => by omega) (Nat.le_refl _)

theorem rdr_new (w : World) (T : ByteArray) : Rdr (w.alloc (.cells #[.string T, .int .i64 0, .int .i64 0, .int .i64 0, .bool false, .bool false] 124)) w.heap.size T 0 := by
  refine ⟨by omega, by go_simp, by go_simp, ⟨0, by go_simp⟩, ⟨false, by go_simp⟩, ⟨false, by go_simp⟩, by go_simp, by go_simp, by go_simp, by go_simp⟩

set_option maxRecDepth 100000 in
set_option maxHeartbeats 400000 in
theorem literalBytes_any (s : ByteArray) (w : World) (hs : s.size ≤ 140737488351232) :
    Calls Tryz.prog 41 #[.string s] w fun e w' => RetStrBool (s.size + 2) e ∧ Below w.heap.size w w' := by
  go_enter Tryz.func41, Tryz.ntmps41
  go_wp2_with fail
  obtain ⟨T, hT⟩ : ∃ T, T = (⟨#[40]⟩ ++ s ++ ⟨#[41]⟩ : ByteArray) := ⟨_, rfl⟩
  have hTs : T.size = s.size + 2 := by rw [hT]; simp [ByteArray.size_append]; show 1 + s.size + 1 = _; omega
  rw [← hT]
  clear hT
  refine (literal_any w.heap.size T 0 _ (rdr_new w T) (by omega)).mono ?_
  rintro e w1 ⟨⟨t, ht, rfl⟩, hk1, ⟨k1, _, hr1⟩⟩
  have HB := Lib.hid hk1.newBelow
  obtain ⟨h0, h1, h2, ⟨x2, h3⟩, ⟨x4, h4⟩, ⟨x5, h5⟩, f1, f2, f4, f5⟩ := hr1
  have ht' : t.size ≤ s.size + 2 := by omega
  clear hk1 ht f1 f2 f4 f5 h4 h5
  rcases Bool.eq_false_or_eq_true (x2 == 0) with c1 | c1
  · rcases Bool.eq_false_or_eq_true ((k1 : Int) == (T.size : Int)) with c2 | c2
    · go_wp2_with fail
      go_quiet (fail)
      go_wp2_with fail
      go_ret2
      exact ⟨RetStrBool.mk _ _ ht', below_drewN' HB.out _⟩
    · go_wp2_with fail
      go_quiet (fail)
      go_wp2_with fail
      go_ret2
      exact ⟨RetStrBool.mk _ _ ht', below_drewN' HB.out _⟩
  · go_wp2_with fail
    go_quiet (fail)
    go_wp2_with fail
    go_ret2
    exact ⟨RetStrBool.mk _ _ ht', below_drewN' HB.out _⟩

set_option maxRecDepth 100000 in
set_option maxHeartbeats 400000 in
theorem hexBytes_any (s : ByteArray) (w : World) (hs : s.size ≤ 140737488351232) :
    Calls Tryz.prog 42 #[.string s] w fun e w' => RetStrBool (s.size + 2) e ∧ Below w.heap.size w w' := by
  go_enter Tryz.func42, Tryz.ntmps42
  go_wp2
  go_loop [4, 9] (fun _ i => ∃ k : Nat, k ≤ s.size ∧ i = .int .i64 k) (fun _ i => s.size - (intOf i).toNat)
  case atStart => exact ⟨0, by omega, rfl⟩
  case round =>
    obtain ⟨k, hk, rfl⟩ := hrel
    by_cases hlt : k < s.size
    · go_wp2_with fail
      refine (hex_any _ _).mono ?_
      rintro e w1 ⟨⟨q, rfl⟩, rfl⟩
      by_cases hq : q < 0
      · go_wp2_with fail
        go_ret2
        exact ⟨RetStrBool.mk _ _ (by show (0 : Nat) ≤ _; omega), Below.refl _ _⟩
      · go_wp2_with fail
        exact ⟨⟨k + 1, by omega, by go_num⟩, by simp [intOf]; omega⟩
    · go_wp2_with fail
      obtain ⟨T, hT⟩ : ∃ T, T = (⟨#[60]⟩ ++ s ++ ⟨#[62]⟩ : ByteArray) := ⟨_, rfl⟩
      have hTs : T.size = s.size + 2 := by rw [hT]; simp [ByteArray.size_append]; show 1 + s.size + 1 = _; omega
      rw [← hT]
      clear hT
      refine (hexs_any w.heap.size T 0 _ (rdr_new w T) (by omega) (by omega)).mono ?_
      rintro e w1 ⟨⟨t, ht, rfl⟩, hk1, ⟨k1, _, hr1⟩⟩
      have HB := Lib.hid hk1.newBelow
      obtain ⟨h0, h1, h2, ⟨x2, h3⟩, ⟨x4, h4⟩, ⟨x5, h5⟩, f1, f2, f4, f5⟩ := hr1
      have ht' : t.size ≤ s.size + 2 := by omega
      clear hk1 ht f1 f2 f4 f5 h4 h5
      go_wp2_with fail
      go_quiet (fail)
      go_wp2_with fail
      go_ret2
      exact ⟨RetStrBool.mk _ _ ht', below_drewN' HB.out _⟩

end Go.Proofs.YtcpijmbdibgdmaaGreatDoor
