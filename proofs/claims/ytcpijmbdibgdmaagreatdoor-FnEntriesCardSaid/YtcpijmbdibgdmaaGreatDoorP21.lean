/-
  internal/strconv.atof64, parseFloatPrefix, ParseFloat; strconv.ParseFloat: on a string of that form a float, and no error.
-/
import Derived.Test.YtcpijmbdibgdmaaGreatDoorP11
import Derived.Test.YtcpijmbdibgdmaaGreatDoorP13
import Derived.Test.YtcpijmbdibgdmaaGreatDoorP15
import Derived.Test.YtcpijmbdibgdmaaGreatDoorP20
namespace Go.Proofs.YtcpijmbdibgdmaaGreatDoor
open Go Go.RowKit

/-- It returns a float, that all has been read, and no error. -/
def RetF3 (n : Nat) (e : Ending) : Prop := ∃ r, e = .returned (.tuple #[.float .f64 r, .int .i64 n, .nilIface])

set_option maxRecDepth 100000 in
set_option maxHeartbeats 4000000 in
theorem atof64_any (s : ByteArray) (p kk : Nat) (h : Num s p kk) (w : World) (hg : Gl w) :
    Calls Tryz.prog 88 #[.string s] w fun e w' => RetF3 s.size e ∧ Below w.heap.size w w' := by
  have hopt := hg.opt
  have hsz : s.size ≤ 40 := by
    have := h.size
    have := h.k17
    have := h.p1
    omega
  have HN := Lib.hid h
  have HG := Lib.hid hg
  clear h hg
  have hf := fun n w => run_f64of n w
  have hex : s.extract 0 s.size = s := by simp
  go_enter Tryz.func88, Tryz.ntmps88
  go_wp2_with fail
  refine (special_dig s p kk HN.out w).mono ?_
  rintro e w1 ⟨rfl, rfl⟩
  go_wp2_with fail
  refine (readFloat_any s p kk HN.out w).mono ?_
  rintro e w1 ⟨⟨m, x, ng, tr, rfl, hm, hx1, hx2, hbig⟩, rfl⟩
  have HB := Lib.hid hbig
  clear hbig
  cases ng
  · go_wp2_with fail
    refine (bool2u_any false w).mono ?_
    rintro e w1 ⟨rfl, rfl⟩
    by_cases hm0 : m = 0
    · have q0 : ((m : Int) == 0) = true := by simp; omega
      clear hm0
      go_wp2_with fail
      go_ret3
      exact ⟨⟨_, rfl⟩, Below.refl _ _⟩
    · have q0 : ((m : Int) == 0) = false := by simp; omega
      clear hm0
      cases tr
      · go_wp2_with fail
        refine (exact_any m x false (by omega) (by omega) w HG.out).mono ?_
        rintro e w1 ⟨⟨r, b, rfl⟩, hk1⟩
        have HK1 := Lib.hid hk1
        clear hk1
        cases b
        · go_wp2_with fail
          refine (parseFl_any m x _ (by omega) (by omega) (by omega) w1 (HG.out.below (HK1.out.below (fun _ h => h.elim) (Nat.le_refl _)))).mono ?_
          rintro e w2 ⟨⟨r2, rfl⟩, hk2⟩
          have HK2 := Lib.hid (HK1.out.trans hk2 (fun _ _ h => h))
          clear hk2
          go_wp2_with fail
          go_ret3
          exact ⟨⟨_, rfl⟩, HK2.out.below (fun _ h => h.elim) (Nat.le_refl _)⟩
        · go_wp2_with fail
          go_ret3
          exact ⟨⟨_, rfl⟩, HK1.out.below (fun _ h => h.elim) (Nat.le_refl _)⟩
      · go_wp2_with fail
        refine (parseFl_any m x _ (by omega) (by omega) (by omega) w HG.out).mono ?_
        rintro e w2 ⟨⟨r2, rfl⟩, hk2⟩
        have HK2 := Lib.hid hk2
        clear hk2
        go_wp2_with fail
        rw [show ((m : Int) + 1) = ((m + 1 : Nat) : Int) by omega]
        refine (parseFl_any (m + 1) x _ (by omega) (by omega) (by omega) w2 (HG.out.below (HK2.out.below (fun _ h => h.elim) (Nat.le_refl _)))).mono ?_
        rintro e w3 ⟨⟨r3, rfl⟩, hk3⟩
        have HK3 := Lib.hid (HK2.out.trans hk3 (fun _ _ h => h))
        clear hk3
        rcases Bool.eq_false_or_eq_true (FloatKind.f64.format.order r2 r3 == some .eq) with hq | hq
        · go_wp2_with fail
          go_ret3
          exact ⟨⟨_, rfl⟩, HK3.out.below (fun _ h => h.elim) (Nat.le_refl _)⟩
        · go_wp2_with fail
          refine (set_any s p kk HN.out (HB.out trivial) _ w3.heap.size _ (Dec.new w3 186)).mono ?_
          rintro e w4 ⟨rfl, ⟨nd, dp, ng, ds, hd, hok, g1, g2, g3, g4, g5⟩, hk4⟩
          obtain ⟨D, rfl⟩ : ∃ D : Nat, dp = D := ⟨dp.toNat, by omega⟩
          have HD := Lib.hid hd
          have HO := Lib.hid hok
          have hk5 : Kept (· = w3.heap.size) w3 w4 := (((Kept.refl (fun _ => False) w3).alloc (.cells Tryz.zeroCells186 186)).mono (fun _ _ h => h.elim)).trans hk4 (fun _ _ h => h)
          have HK5 := Lib.hid hk5
          clear hd hok hk4 hk5
          go_wp2_with fail
          refine (floatBits_any w3 w4 w3.heap.size nd D ng ds HD.out HO.out g1 (by omega) (by omega) g5 (HG.out.below (HK3.out.below (fun _ h => h.elim) (Nat.le_refl _))) (HK5.out.below (fun k h => by have h' : k = w3.heap.size := h; omega) (Nat.le_refl _)) (Nat.le_refl _)).mono ?_
          rintro e w5 ⟨⟨y, rfl⟩, hk6⟩
          have HK6 := Lib.hid (HK5.out.trans hk6 (fun _ _ h => h))
          clear hk6
          go_wp2_with fail
          go_ret3
          exact ⟨⟨_, rfl⟩, (HK3.out.below (fun _ h => h.elim) (Nat.le_refl _)).trans (HK6.out.below (fun k h => by have h' : k = w3.heap.size := h; have := HK3.out.size; omega) HK3.out.size)⟩
  · go_wp2_with fail
    refine (bool2u_any true w).mono ?_
    rintro e w1 ⟨rfl, rfl⟩
    by_cases hm0 : m = 0
    · have q0 : ((m : Int) == 0) = true := by simp; omega
      clear hm0
      go_wp2_with fail
      go_ret3
      exact ⟨⟨_, rfl⟩, Below.refl _ _⟩
    · have q0 : ((m : Int) == 0) = false := by simp; omega
      clear hm0
      cases tr
      · go_wp2_with fail
        refine (exact_any m x true (by omega) (by omega) w HG.out).mono ?_
        rintro e w1 ⟨⟨r, b, rfl⟩, hk1⟩
        have HK1 := Lib.hid hk1
        clear hk1
        cases b
        · go_wp2_with fail
          refine (parseFl_any m x _ (by omega) (by omega) (by omega) w1 (HG.out.below (HK1.out.below (fun _ h => h.elim) (Nat.le_refl _)))).mono ?_
          rintro e w2 ⟨⟨r2, rfl⟩, hk2⟩
          have HK2 := Lib.hid (HK1.out.trans hk2 (fun _ _ h => h))
          clear hk2
          go_wp2_with fail
          go_ret3
          exact ⟨⟨_, rfl⟩, HK2.out.below (fun _ h => h.elim) (Nat.le_refl _)⟩
        · go_wp2_with fail
          go_ret3
          exact ⟨⟨_, rfl⟩, HK1.out.below (fun _ h => h.elim) (Nat.le_refl _)⟩
      · go_wp2_with fail
        refine (parseFl_any m x _ (by omega) (by omega) (by omega) w HG.out).mono ?_
        rintro e w2 ⟨⟨r2, rfl⟩, hk2⟩
        have HK2 := Lib.hid hk2
        clear hk2
        go_wp2_with fail
        rw [show ((m : Int) + 1) = ((m + 1 : Nat) : Int) by omega]
        refine (parseFl_any (m + 1) x _ (by omega) (by omega) (by omega) w2 (HG.out.below (HK2.out.below (fun _ h => h.elim) (Nat.le_refl _)))).mono ?_
        rintro e w3 ⟨⟨r3, rfl⟩, hk3⟩
        have HK3 := Lib.hid (HK2.out.trans hk3 (fun _ _ h => h))
        clear hk3
        rcases Bool.eq_false_or_eq_true (FloatKind.f64.format.order r2 r3 == some .eq) with hq | hq
        · go_wp2_with fail
          go_ret3
          exact ⟨⟨_, rfl⟩, HK3.out.below (fun _ h => h.elim) (Nat.le_refl _)⟩
        · go_wp2_with fail
          refine (set_any s p kk HN.out (HB.out trivial) _ w3.heap.size _ (Dec.new w3 186)).mono ?_
          rintro e w4 ⟨rfl, ⟨nd, dp, ng, ds, hd, hok, g1, g2, g3, g4, g5⟩, hk4⟩
          obtain ⟨D, rfl⟩ : ∃ D : Nat, dp = D := ⟨dp.toNat, by omega⟩
          have HD := Lib.hid hd
          have HO := Lib.hid hok
          have hk5 : Kept (· = w3.heap.size) w3 w4 := (((Kept.refl (fun _ => False) w3).alloc (.cells Tryz.zeroCells186 186)).mono (fun _ _ h => h.elim)).trans hk4 (fun _ _ h => h)
          have HK5 := Lib.hid hk5
          clear hd hok hk4 hk5
          go_wp2_with fail
          refine (floatBits_any w3 w4 w3.heap.size nd D ng ds HD.out HO.out g1 (by omega) (by omega) g5 (HG.out.below (HK3.out.below (fun _ h => h.elim) (Nat.le_refl _))) (HK5.out.below (fun k h => by have h' : k = w3.heap.size := h; omega) (Nat.le_refl _)) (Nat.le_refl _)).mono ?_
          rintro e w5 ⟨⟨y, rfl⟩, hk6⟩
          have HK6 := Lib.hid (HK5.out.trans hk6 (fun _ _ h => h))
          clear hk6
          go_wp2_with fail
          go_ret3
          exact ⟨⟨_, rfl⟩, (HK3.out.below (fun _ h => h.elim) (Nat.le_refl _)).trans (HK6.out.below (fun k h => by have h' : k = w3.heap.size := h; have := HK3.out.size; omega) HK3.out.size)⟩

theorem prefix64_any (s : ByteArray) (p kk : Nat) (h : Num s p kk) (w : World) (hg : Gl w) :
    Calls Tryz.prog 75 #[.string s, .int .i64 64] w fun e w' => RetF3 s.size e ∧ Below w.heap.size w w' := by
  have HN := Lib.hid h
  have HG := Lib.hid hg
  clear h hg
  go_enter Tryz.func75, Tryz.ntmps75
  go_wp2_with fail
  refine (atof64_any s p kk HN.out w HG.out).mono ?_
  rintro e w1 ⟨⟨r, rfl⟩, hb⟩
  have HB := Lib.hid hb
  clear hb
  go_wp2_with fail
  go_ret3
  exact ⟨⟨_, rfl⟩, HB.out⟩

theorem parse64_any (s : ByteArray) (p kk : Nat) (h : Num s p kk) (w : World) (hg : Gl w) :
    Calls Tryz.prog 62 #[.string s, .int .i64 64] w fun e w' => RetFl e ∧ Below w.heap.size w w' := by
  have hsz : s.size ≤ 40 := by
    have := h.size
    have := h.k17
    have := h.p1
    omega
  have HN := Lib.hid h
  have HG := Lib.hid hg
  clear h hg
  go_enter Tryz.func62, Tryz.ntmps62
  go_wp2_with fail
  refine (prefix64_any s p kk HN.out w HG.out).mono ?_
  rintro e w1 ⟨⟨r, rfl⟩, hb⟩
  have HB := Lib.hid hb
  have hne : ((s.size : Int) != (s.size : Int)) = false := by simp
  clear hb
  go_wp2_with fail
  go_ret2
  exact ⟨⟨_, rfl⟩, HB.out⟩

theorem parseFloat_any (s : ByteArray) (p kk : Nat) (h : Num s p kk) (w : World) (hg : Gl w) :
    Calls Tryz.prog 54 #[.string s, .int .i64 64] w fun e w' => RetFl e ∧ Below w.heap.size w w' := by
  have HN := Lib.hid h
  have HG := Lib.hid hg
  clear h hg
  go_enter Tryz.func54, Tryz.ntmps54
  go_wp2_with fail
  refine (parse64_any s p kk HN.out w HG.out).mono ?_
  rintro e w1 ⟨⟨r, rfl⟩, hb⟩
  have HB := Lib.hid hb
  clear hb
  go_wp2_with fail
  go_ret2
  exact ⟨⟨_, rfl⟩, HB.out⟩

end Go.Proofs.YtcpijmbdibgdmaaGreatDoor
