/-
  internal/strconv's decimal: prefixIsLessThan; leftShift by one and by 53.
-/
import Derived.Test.YtcpijmbdibgdmaaGreatDoorP2
import Derived.Test.YtcpijmbdibgdmaaGreatDoorP6
import Derived.Deep.DeepCutAuto
namespace Go.Proofs.YtcpijmbdibgdmaaGreatDoor
open Go Go.RowKit

set_option maxRecDepth 100000 in
theorem prefix_any (t : ByteArray) (b nd cap d0 : Nat) (x : Bool) (w : World) (hn : 1 ≤ nd) (hn2 : nd ≤ 800) (ht : 1 ≤ t.size) (ht2 : t.size ≤ 100) (hc : w.cell? ⟨b, 0, none⟩ = some (.int .u8 d0)) (hne : d0 ≠ t[0].toNat) (hx : decide (d0 < t[0].toNat) = x) :
    Calls Tryz.prog 170 #[.slice (some ⟨b, 0, none⟩) nd cap, .string t] w fun e w' => e = .returned (.bool x) ∧ ∃ m, w' = w.drewN m := by
  have hn0 : ((d0 : Int) != (t[0].toNat : Int)) = true := by simp; omega
  have l0 : 0 < t.size := by omega
  have ht0 : ¬ t = ByteArray.empty := by
    rintro rfl
    simp at l0
  have HX := Lib.hid hx
  clear hx hne
  go_enter Tryz.func170, Tryz.ntmps170
  go_wp2_with fail
  go_loopw [5] (fun a5 wr => a5 = .int .i64 0 ∧ w = wr) (fun _ _ => 0)
  case atStart => exact ⟨rfl, rfl⟩
  case round =>
    obtain ⟨rfl, rfl⟩ := hrel
    go_wp2_with fail
    go_quiet (fail)
    go_wp2_with fail
    go_quiet (fail)
    go_wp2_with fail
    go_ret
    refine ⟨?_, _, World.drewN_drewN _ _ _⟩
    rw [← HX.out]
    rfl

theorem arrayLen184 : Tryz.prog.arrayLen 184 = 800 := by kernel_rfl
theorem under184 : Tryz.prog.underlying 184 = some (.array (Tryz.prog.arrayLen 184) (Tryz.prog.elem 184)) := by kernel_rfl
theorem size184 (w : World) : (sizeOf (Tryz.prog.elem 184)).run Tryz.prog w = .ok 1 w := by kernel_rfl

theorem run_digs (b nd : Nat) (h : nd ≤ 800) (w : World) : (Instr.sliceAt 184 (.pointer (some ⟨b, 0, none⟩)) (some (.int .i64 0)) (some (.int .i64 nd)) none).run Tryz.prog w = .ok (.slice (some ⟨b, 0, none⟩) nd 800) w := by
  have hs := size184 w
  rw [run_sliceAt_array_lh w 184 _ under184 .i64 .i64 0 nd (by omega) (by omega) (by rw [arrayLen184]; omega), hs]
  simp [slicedAt, arrayLen184, Result.andThen]
  rfl

set_option maxRecDepth 100000 in
set_option maxHeartbeats 4000000 in
theorem left1_any (w : World) (b nd : Nat) (dp : Int) (ng tr : Bool) (ds : Nat → Nat) (h : Dec w b nd dp ng tr ds) (hok : DOk nd ds) (h1 : 1 ≤ nd) (hn : nd ≤ 800) (hl : 49 ≤ ds 0) (hu : ds 0 ≤ 52) (hdp : -100000 ≤ dp ∧ dp ≤ 100000) (hg : Gl w) :
    Calls Tryz.prog 147 #[.pointer (some ⟨b, 0, none⟩), .int .u64 1] w fun e w' => e = .returned (.tuple #[]) ∧
      (∃ (m : Nat) (ds' : Nat → Nat), 1 ≤ m ∧ m ≤ 800 ∧ 48 + 2 * (ds 0 - 48) ≤ ds' 0 ∧ Dec w' b m dp ng tr ds' ∧ DOk m ds') ∧ Kept (· = b) w w' := by
  obtain ⟨lb, lo, lcap, g0, g2, g3, _, _⟩ := hg.lc
  have c0 := h.cnd
  have c1 := h.cdp
  have d0 := h.dig 0 (by omega)
  have f0 := h.fr 800 (by omega)
  have f1 := h.fr 801 (by omega)
  have HD := Lib.hid h
  have HOK := Lib.hid hok
  clear h hok hg
  have hsl := fun w => run_digs b nd hn w
  have hpre := fun (n : Nat) => prefix_any ⟨#[53]⟩ b nd 800 (ds 0) true (w.drewN n) h1 hn (by decide) (by decide) d0 (by show ds 0 ≠ 53; omega) (by show decide (ds 0 < 53) = true; simp; omega)
  have HP := Lib.hid hpre
  clear hpre
  go_enter Tryz.func147, Tryz.ntmps147
  go_wp2_with fail
  go_quiet ((go_at_call 170; go_must (exact (HP.out _).mono fun _ _ ⟨he, m, hm⟩ => ⟨he, _, hm.trans (World.drewN_drewN _ _ _)⟩)))
  go_wp2_with fail
  go_loopw [5, 6, 7] (fun r' w' n' wr => ∃ (q n tr0 : Nat) (ds' : Nat → Nat), r' = .int .i64 ((q : Int) - 1) ∧ w' = .int .i64 q ∧ n' = .int .u64 n ∧ q ≤ nd ∧ n ≤ 1 ∧ tr0 = 0 ∧ (∀ j, j < q → ds' j = ds j) ∧ (∀ j, q ≤ j → j < nd → 48 ≤ ds' j ∧ ds' j ≤ 57) ∧ (q = 0 → n = 0 ∧ 48 + 2 * (ds 0 - 48) ≤ ds' 0) ∧ Dec wr b nd dp ng tr ds' ∧ Kept (· = b) w wr) (fun r' _ _ _ => (intOf r' + 1).toNat)
  case atStart => exact ⟨nd, 0, 0, ds, rfl, rfl, rfl, by omega, by omega, rfl, fun _ _ => rfl, fun j h1 h2 => by omega, fun h => by omega, HD.out.drewN _, (Kept.refl _ _).drewN _⟩
  case round =>
    obtain ⟨q, n, tr0, ds', rfl, rfl, rfl, hq, hn1, _, hds, hdk, hz, hd, hk⟩ := hrel
    have HDS := Lib.hid hds
    have HDK := Lib.hid hdk
    have HZ := Lib.hid hz
    have HD1 := Lib.hid hd
    have HK1 := Lib.hid hk
    have e0 := hd.cnd
    have e1 := hd.cdp
    have k0 := hd.fr 800 (by omega)
    have k1 := hd.fr 801 (by omega)
    clear hds hdk hz hd hk
    cases q with
    | zero =>
      have hn0 := (HZ.out rfl).1
      have hz2 := (HZ.out rfl).2
      subst hn0
      go_wp2_with fail
      go_loopw [7] (fun n' wr2 => n' = .int .u64 0 ∧ wr = wr2) (fun _ _ => 0)
      case atStart => exact ⟨rfl, rfl⟩
      case round =>
        obtain ⟨rfl, rfl⟩ := hrel
        by_cases h800 : 800 ≤ nd
        · have hnd : nd = 800 := by omega
          have HDF := Lib.hid (((HD1.out.setNd nd).setNd 800).setDp dp)
          clear hnd
          go_wp2_with fail
          refine (trim_any _ b 800 dp ng tr ds' HDF.out (by omega)).mono ?_
          rintro e w5 ⟨rfl, ⟨m, hm, hd5, h48, hne⟩, hk5⟩
          have hm1 : 1 ≤ m := by
            rcases Nat.eq_zero_or_pos m with h | h
            · have := h48 0 (by omega) (by omega)
              omega
            · exact h
          rw [if_neg (by omega)] at hd5
          have HD5 := Lib.hid hd5
          have HK5 := Lib.hid hk5
          clear hd5 hk5 h48 hne
          go_wp2_with fail
          exact ⟨rfl, .tuple #[], by simp [results, Tryz.results147, go_sem], rfl, ⟨m, ds', hm1, by omega, hz2, HD5.out, fun j hj => HDK.out j (by omega) (by omega)⟩, (kept_cell (kept_cell (kept_cell HK1.out _ _) _ _) _ _).trans HK5.out (fun _ _ h => h)⟩
        · have HDF := Lib.hid ((HD1.out.setNd nd).setDp dp)
          go_wp2_with fail
          refine (trim_any _ b nd dp ng tr ds' HDF.out (by omega)).mono ?_
          rintro e w5 ⟨rfl, ⟨m, hm, hd5, h48, hne⟩, hk5⟩
          have hm1 : 1 ≤ m := by
            rcases Nat.eq_zero_or_pos m with h | h
            · have := h48 0 (by omega) (by omega)
              omega
            · exact h
          rw [if_neg (by omega)] at hd5
          have HD5 := Lib.hid hd5
          have HK5 := Lib.hid hk5
          clear hd5 hk5 h48 hne
          go_wp2_with fail
          exact ⟨rfl, .tuple #[], by simp [results, Tryz.results147, go_sem], rfl, ⟨m, ds', hm1, by omega, hz2, HD5.out, fun j hj => HDK.out j (by omega) (by omega)⟩, (kept_cell (kept_cell HK1.out _ _) _ _).trans HK5.out (fun _ _ h => h)⟩
    | succ q =>
      have hcr := HOK.out q (by omega)
      have hc := HD1.out.dig q (by omega)
      rw [HDS.out q (by omega)] at hc
      have hf := HD1.out.fr q (by omega)
      go_wp2_with fail
      go_roundw
      case measure => simp only [intOf]; omega
      case rel =>
        have hcst : (((n + (ds q - 48) * 2) % 10 + 48 : Nat) : Int) = (n : Int) + ((ds q : Int) - 48) * 2 - 10 * (((n : Int) + ((ds q : Int) - 48) * 2) / 10) + 48 := by omega
        have h5 := HD1.out.setDig q ((n + (ds q - 48) * 2) % 10 + 48) (by omega)
        rw [hcst] at h5
        refine ⟨q, (n + (ds q - 48) * 2) / 10, 0, upd ds' q ((n + (ds q - 48) * 2) % 10 + 48), rfl, rfl, by congr 1; omega, by omega, by omega, rfl, fun j hj => ?_, fun j h1 h2 => ?_, fun e => ?_, h5, kept_cell HK1.out _ _⟩
        · rw [upd_other ds' _ (by omega)]
          exact HDS.out j (by omega)
        · by_cases e : j = q
          · subst e
            rw [upd_same]
            omega
          · rw [upd_other ds' _ e]
            exact HDK.out j (by omega) h2
        · subst e
          rw [upd_same]
          omega

end Go.Proofs.YtcpijmbdibgdmaaGreatDoor

/-
  internal/strconv's decimal: leftShift by 53; Shift to the left.
-/
namespace Go.Proofs.YtcpijmbdibgdmaaGreatDoor
open Go Go.RowKit

set_option maxRecDepth 100000 in
set_option maxHeartbeats 4000000 in
theorem left53_any (w : World) (b nd : Nat) (dp : Int) (ng tr : Bool) (ds : Nat → Nat) (h : Dec w b nd dp ng tr ds) (hok : DOk nd ds) (h1 : 1 ≤ nd) (hn : nd ≤ 800) (hl : 53 ≤ ds 0) (hdp : -100000 ≤ dp ∧ dp ≤ 100000) (hg : Gl w) :
    Calls Tryz.prog 147 #[.pointer (some ⟨b, 0, none⟩), .int .u64 53] w fun e w' => e = .returned (.tuple #[]) ∧
      (∃ (m : Nat) (tr' : Bool) (ds' : Nat → Nat), m ≤ 800 ∧ Dec w' b m (if m = 0 then 0 else dp + 16) ng tr' ds') ∧ Kept (· = b) w w' := by
  obtain ⟨lb, lo, lcap, g0, _, _, g2, g3⟩ := hg.lc
  have c0 := h.cnd
  have c1 := h.cdp
  have d0 := h.dig 0 (by omega)
  have f0 := h.fr 800 (by omega)
  have f1 := h.fr 801 (by omega)
  have HD := Lib.hid h
  have HOK := Lib.hid hok
  clear h hok hg
  have hsl := fun w => run_digs b nd hn w
  have hpre := fun (n : Nat) => prefix_any ⟨cut53.toArray⟩ b nd 800 (ds 0) false (w.drewN n) h1 hn (by decide) (by decide) d0 (by show ds 0 ≠ 49; omega) (by show decide (ds 0 < 49) = false; simp; omega)
  have HP := Lib.hid hpre
  clear hpre
  go_enter Tryz.func147, Tryz.ntmps147
  go_wp2_with fail
  go_quiet ((go_at_call 170; go_must (exact (HP.out _).mono fun _ _ ⟨he, m, hm⟩ => ⟨he, _, hm.trans (World.drewN_drewN _ _ _)⟩)))
  go_wp2_with fail
  go_loopw [5, 6, 7] (fun r' w' n' wr => ∃ (q n : Nat) (tr' : Bool) (ds' : Nat → Nat), r' = .int .i64 ((q : Int) - 1) ∧ w' = .int .i64 ((q + 16 : Nat) : Int) ∧ n' = .int .u64 n ∧ q ≤ nd ∧ n < 9007199254740992 ∧ (∀ j, j < q → ds' j = ds j) ∧ Dec wr b nd dp ng tr' ds' ∧ Kept (· = b) w wr) (fun r' _ _ _ => (intOf r' + 1).toNat)
  case atStart => exact ⟨nd, 0, tr, ds, rfl, by go_num, rfl, by omega, by omega, fun _ _ => rfl, HD.out.drewN _, (Kept.refl _ _).drewN _⟩
  case round =>
    obtain ⟨q, n, tr', ds', rfl, rfl, rfl, hq, hn1, hds, hd, hk⟩ := hrel
    have HDS := Lib.hid hds
    have HD1 := Lib.hid hd
    have HK1 := Lib.hid hk
    have e0 := hd.cnd
    have e1 := hd.cdp
    have e3 := hd.ctr
    have k0 := hd.fr 800 (by omega)
    have k1 := hd.fr 801 (by omega)
    have k3 := hd.fr 803 (by omega)
    clear hds hd hk
    cases q with
    | zero =>
      go_wp2_with fail
      go_loopw [6, 7] (fun w' n' wr2 => ∃ (x v : Nat) (tr2 : Bool) (ds2 : Nat → Nat), w' = .int .i64 v ∧ n' = .int .u64 x ∧ v ≤ 16 ∧ x < 9007199254740992 ∧ x < 10 ^ v ∧ Dec wr2 b nd dp ng tr2 ds2 ∧ Kept (· = b) w wr2) (fun _ n' _ => (intOf n').toNat)
      case atStart => exact ⟨n, 16, tr', ds', by go_num, rfl, by omega, hn1, by omega, HD1.out, HK1.out⟩
      case round =>
        obtain ⟨x, v, tr2, ds2, rfl, rfl, hv, hx, hxv, hd2, hk2⟩ := hrel
        have HXV := Lib.hid hxv
        have HD2 := Lib.hid hd2
        have HK2 := Lib.hid hk2
        have i0 := hd2.cnd
        have i1 := hd2.cdp
        have j0 := hd2.fr 800 (by omega)
        have j1 := hd2.fr 801 (by omega)
        clear hxv hd2 hk2
        by_cases hx0 : 0 < x
        · cases v with
          | zero =>
            have := HXV.out
            simp at this
            omega
          | succ v =>
            have hcq := HD2.out.dig v (by omega)
            have hfq := HD2.out.fr v (by omega)
            go_wp2_with fail
            go_roundw
            case measure => simp only [intOf]; omega
            case rel =>
              have hcst : ((x % 10 + 48 : Nat) : Int) = (x : Int) - 10 * ((x : Int) / 10) + 48 := by omega
              have h5 := HD2.out.setDig v (x % 10 + 48) (by omega)
              rw [hcst] at h5
              refine ⟨x / 10, v, tr2, upd ds2 v (x % 10 + 48), by go_num, by go_num, by omega, by omega, ?_, h5, kept_cell HK2.out _ _⟩
              have := HXV.out
              rw [Nat.pow_succ] at this
              omega
        · by_cases h800 : 800 ≤ nd + 16
          · have HDF := Lib.hid (((HD2.out.setNd (nd + 16)).setNd 800).setDp (dp + 16))
            go_wp2_with fail
            refine (trim_any _ b 800 (dp + 16) ng tr2 ds2 HDF.out (by omega)).mono ?_
            rintro e w5 ⟨rfl, ⟨m, hm, hd5, h48, hne⟩, hk5⟩
            have HD5 := Lib.hid hd5
            have HK5 := Lib.hid hk5
            clear hd5 hk5 h48 hne
            go_wp2_with fail
            exact ⟨rfl, .tuple #[], by simp [results, Tryz.results147, go_sem], rfl, ⟨m, tr2, ds2, by omega, HD5.out⟩, (kept_cell (kept_cell (kept_cell HK2.out _ _) _ _) _ _).trans HK5.out (fun _ _ h => h)⟩
          · have HDF := Lib.hid ((HD2.out.setNd (nd + 16)).setDp (dp + 16))
            go_wp2_with fail
            refine (trim_any _ b (nd + 16) (dp + 16) ng tr2 ds2 HDF.out (by omega)).mono ?_
            rintro e w5 ⟨rfl, ⟨m, hm, hd5, h48, hne⟩, hk5⟩
            have HD5 := Lib.hid hd5
            have HK5 := Lib.hid hk5
            clear hd5 hk5 h48 hne
            go_wp2_with fail
            exact ⟨rfl, .tuple #[], by simp [results, Tryz.results147, go_sem], rfl, ⟨m, tr2, ds2, by omega, HD5.out⟩, (kept_cell (kept_cell HK2.out _ _) _ _).trans HK5.out (fun _ _ h => h)⟩
    | succ q =>
      have hcr := HOK.out q (by omega)
      have hc := HD1.out.dig q (by omega)
      rw [HDS.out q (by omega)] at hc
      obtain ⟨N, hN, hNb⟩ : ∃ N : Nat, (n : Int) + ((ds q : Int) - 48) * 9007199254740992 = (N : Int) ∧ N < 90071992547409920 := ⟨n + (ds q - 48) * 9007199254740992, by omega, by omega⟩
      by_cases h8 : q + 16 < 800
      · have hcq := HD1.out.dig (q + 16) (by omega)
        have hf := HD1.out.fr (q + 16) (by omega)
        go_wp2_with fail
        go_roundw
        case measure => simp only [intOf]; omega
        case rel =>
          have hcst : ((N % 10 + 48 : Nat) : Int) = (N : Int) - 10 * ((N : Int) / 10) + 48 := by omega
          have h5 := HD1.out.setDig (q + 16) (N % 10 + 48) (by omega)
          rw [hcst] at h5
          refine ⟨q, N / 10, tr', upd ds' (q + 16) (N % 10 + 48), rfl, by go_num, by go_num, by omega, by omega, fun j hj => ?_, h5, kept_cell HK1.out _ _⟩
          rw [upd_other ds' _ (by omega)]
          exact HDS.out j (by omega)
      · rcases Bool.eq_false_or_eq_true (((N : Int) - 10 * ((N : Int) / 10)) != 0) with hrem | hrem
        · go_wp2_with fail
          go_roundw
          case measure => simp only [intOf]; omega
          case rel =>
            refine ⟨q, N / 10, true, ds', rfl, by go_num, by go_num, by omega, by omega, fun j hj => HDS.out j (by omega), ?_, ?_⟩
            · with_reducible exact HD1.out.setTr true
            · with_reducible exact kept_cell HK1.out _ _
        · go_wp2_with fail
          go_roundw
          case measure => simp only [intOf]; omega
          case rel =>
            refine ⟨q, N / 10, tr', ds', rfl, by go_num, by go_num, by omega, by omega, fun j hj => HDS.out j (by omega), ?_, ?_⟩
            · with_reducible exact HD1.out
            · with_reducible exact HK1.out

end Go.Proofs.YtcpijmbdibgdmaaGreatDoor
