/-
  internal/strconv.parseFloat64: it returns a float, and no error.
-/
import Derived.Test.YtcpijmbdibgdmaaGreatDoorP12
namespace Go.Proofs.YtcpijmbdibgdmaaGreatDoor
open Go Go.RowKit

theorem toU (y : Int) (h : 0 ≤ y ∧ y < 18446744073709551616) : ∃ n : Nat, y = (n : Int) ∧ n < 18446744073709551616 := ⟨y.toNat, by omega, by omega⟩

theorem uroundI_any (x : Int) (h0 : 0 ≤ x) (h1 : x < 18446744073709551616) (w : World) : Calls Tryz.prog 141 #[.int .u64 x] w fun e w' => RetU e ∧ w = w' := by
  obtain ⟨n, rfl⟩ : ∃ n : Nat, x = n := ⟨x.toNat, by omega⟩
  exact uround_any n w

set_option maxHeartbeats 1000000 in
theorem parseFl_any (m : Nat) (x : Int) (sg : Int) (hm : m < 18446744073709551616) (h1 : x ≤ 20) (h2 : -60 ≤ x) (w : World) (hg : Gl w) :
    Calls Tryz.prog 129 #[.int .u64 m, .int .i64 x, .int .u64 sg] w fun e w' => RetFl e ∧ Kept (fun _ => False) w w' := by
  have hf := fun n w => run_f64of n w
  obtain ⟨k, rfl⟩ : ∃ k : Nat, x = (k : Int) - 348 := ⟨(x + 348).toNat, by omega⟩
  have hbl := bitLen_le m
  have HG := Lib.hid hg
  clear hg
  go_enter Tryz.func129, Tryz.ntmps129
  go_wp2_with (first
    | (go_at_call 96; refine (Tryz.bits_Len64 (m : Int) _ (by omega) (by omega)).mono ?_; rintro e w1 ⟨rfl, hww⟩; cases hww)
    | (go_at_call 136; refine (log2Pow10_any _ (by omega) (by omega) _).mono ?_; rintro e w1 ⟨rfl, hww⟩; cases hww))
  refine (prescale_any _ _ _ _ _ k _ _ (Blk.new _ _ 227) (by omega) (by omega) (by omega) (HG.out.below (((Kept.refl (fun _ => False) _).alloc _).below (fun _ h => h.elim) (Nat.le_refl _)))).mono ?_
  rintro e w1 ⟨rfl, ⟨hi, lo, hh, hl, hb⟩, hk⟩
  have hk0 := Lib.hid ((((Kept.refl (fun _ => False) w).alloc (.cells #[.int .u64 0, .int .u64 0, .int .i64 0] 227)).mono (S' := (· = w.heap.size)) (fun _ _ h => h.elim)).trans hk (fun _ _ h => h))
  have hkf : Kept (fun _ => False) w w1 := hk0.out.mono (fun k hk e => by omega)
  have HKF := Lib.hid hkf
  have q2 := hb.cell 2
  have HB := Lib.hid hb
  simp at q2
  clear hkf hk hb hf
  obtain ⟨E0, hE0⟩ : ∃ E0 : Int, min 1074 (53 - (Lib.bitLen m : Int) - ((k : Int) - 348) * 108853 / 32768) = E0 := ⟨_, rfl⟩
  have hE1 : -90 ≤ E0 ∧ E0 ≤ 1074 := by omega
  rw [hE0]
  rw [hE0] at q2 HB
  obtain ⟨S, hS⟩ : ∃ S : Int, S = -(E0 - (64 - (Lib.bitLen m : Int)) + ((k : Int) - 348) * 108853 / 32768 + 3) := ⟨_, rfl⟩
  have hS1 : -5000 ≤ S ∧ S ≤ 5000 := by omega
  rw [← hS] at q2 HB
  clear hS hE0
  have hf := fun n w => run_f64of n w
  by_cases h64 : 64 ≤ S
  · go_wp2_with fail
    go_ret2
    exact ⟨⟨_, rfl⟩, HKF.out⟩
  · go_wp2_with fail
    obtain ⟨X, hX, hX1⟩ := toU _ (wrapU ((m : Int) * 2 ^ (64 - Lib.bitLen m)))
    rw [hX]
    refine (uscale_any w.heap.size X hi lo S w1 hX1 hh hl HB.out).mono ?_
    rintro e w2 ⟨⟨u, rfl, hu⟩, hk2⟩
    have HK2 := Lib.hid (HKF.out.trans hk2 (fun _ _ h => h))
    clear hk2 hX
    go_wp2_with fail
    refine (unmin_any 9007199254740992 w2).mono ?_
    rintro e w3 ⟨⟨u3, rfl, hu3⟩, rfl⟩
    go_wp2_with (go_at_call 143; refine (bool2i_any _ _).mono ?_; rintro e w4 ⟨rfl, hww⟩; cases hww)
    all_goals
      refine (uroundI_any _ (bitsU _ _ _).1 (bitsU _ _ _).2 w2).mono ?_
      rintro e w3 ⟨⟨r, rfl, hr⟩, rfl⟩
      go_wp2_with fail
      refine (pack64_any _ _ (by omega) (by omega) w2).mono ?_
      rintro e w3 ⟨⟨f, rfl⟩, rfl⟩
      go_wp2_with fail
      go_ret2
      exact ⟨⟨_, rfl⟩, HK2.out⟩

end Go.Proofs.YtcpijmbdibgdmaaGreatDoor
