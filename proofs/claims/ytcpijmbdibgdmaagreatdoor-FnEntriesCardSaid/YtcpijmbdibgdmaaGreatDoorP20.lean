/-
  internal/strconv's decimal: floatBits: it returns bits, and that there is no overflow.
-/
import Derived.Test.YtcpijmbdibgdmaaGreatDoorP17
import Derived.Test.YtcpijmbdibgdmaaGreatDoorP18
import Derived.Test.YtcpijmbdibgdmaaGreatDoorP19
import Derived.Test.YtcpijmbdibgdmaaGreatDoorP15
import Derived.Test.YtcpijmbdibgdmaaGreatDoorP8
import Derived.Deep.RegionWith
namespace Go.Proofs.YtcpijmbdibgdmaaGreatDoor
open Go Go.RowKit
theorem shiftPos1_any (w : World) (b nd : Nat) (dp : Int) (ng tr : Bool) (ds : Nat → Nat) (h : Dec w b nd dp ng tr ds) (hok : DOk nd ds) (h1 : 1 ≤ nd) (hn : nd ≤ 800) (hl : 49 ≤ ds 0) (hu : ds 0 ≤ 52) (hdp : -100000 ≤ dp ∧ dp ≤ 100000) (hg : Gl w) :
    Calls Tryz.prog 103 #[.pointer (some ⟨b, 0, none⟩), .int .i64 1] w fun e w' => e = .returned (.tuple #[]) ∧
      (∃ (m : Nat) (ds' : Nat → Nat), 1 ≤ m ∧ m ≤ 800 ∧ 48 + 2 * (ds 0 - 48) ≤ ds' 0 ∧ Dec w' b m dp ng tr ds' ∧ DOk m ds') ∧ Kept (· = b) w w' := by
  have c0 := h.cnd
  have hnz : ((nd : Int) == 0) = false := by simp; omega
  have HD := Lib.hid h
  have HOK := Lib.hid hok
  have HG := Lib.hid hg
  clear h hok hg
  go_enter Tryz.func103, Tryz.ntmps103
  go_wp2_with fail
  go_loopw [1] (fun k' wr => k' = .int .i64 1 ∧ w = wr) (fun _ _ => 0)
  case atStart => exact ⟨rfl, rfl⟩
  case round =>
    obtain ⟨rfl, rfl⟩ := hrel
    go_wp2_with fail
    refine (left1_any _ b nd dp ng tr ds HD.out HOK.out h1 hn hl hu hdp HG.out).mono ?_
    rintro e w1 ⟨rfl, hpost, hkp⟩
    have HP := Lib.hid hpost
    have HKP := Lib.hid hkp
    clear hpost hkp
    go_wp2_with fail
    exact ⟨rfl, .tuple #[], by simp [results, Tryz.results103, go_sem], rfl, HP.out, HKP.out⟩

theorem shiftPos53_any (w : World) (b nd : Nat) (dp : Int) (ng tr : Bool) (ds : Nat → Nat) (h : Dec w b nd dp ng tr ds) (hok : DOk nd ds) (h1 : 1 ≤ nd) (hn : nd ≤ 800) (hl : 53 ≤ ds 0) (hdp : -100000 ≤ dp ∧ dp ≤ 100000) (hg : Gl w) :
    Calls Tryz.prog 103 #[.pointer (some ⟨b, 0, none⟩), .int .i64 53] w fun e w' => e = .returned (.tuple #[]) ∧
      (∃ (m : Nat) (tr' : Bool) (ds' : Nat → Nat), m ≤ 800 ∧ Dec w' b m (if m = 0 then 0 else dp + 16) ng tr' ds') ∧ Kept (· = b) w w' := by
  have c0 := h.cnd
  have hnz : ((nd : Int) == 0) = false := by simp; omega
  have HD := Lib.hid h
  have HOK := Lib.hid hok
  have HG := Lib.hid hg
  clear h hok hg
  go_enter Tryz.func103, Tryz.ntmps103
  go_wp2_with fail
  go_loopw [1] (fun k' wr => k' = .int .i64 53 ∧ w = wr) (fun _ _ => 0)
  case atStart => exact ⟨rfl, rfl⟩
  case round =>
    obtain ⟨rfl, rfl⟩ := hrel
    go_wp2_with fail
    refine (left53_any _ b nd dp ng tr ds HD.out HOK.out h1 hn hl hdp HG.out).mono ?_
    rintro e w1 ⟨rfl, hpost, hkp⟩
    have HP := Lib.hid hpost
    have HKP := Lib.hid hkp
    clear hpost hkp
    go_wp2_with fail
    exact ⟨rfl, .tuple #[], by simp [results, Tryz.results103, go_sem], rfl, HP.out, HKP.out⟩

set_option maxRecDepth 100000 in
set_option maxHeartbeats 4000000 in
theorem floatBits_any (w0 w : World) (b nd D : Nat) (ng : Bool) (ds : Nat → Nat) (h : Dec w b nd D ng false ds) (hok : DOk nd ds) (h1 : 1 ≤ nd) (hn : nd ≤ 800) (hD : D ≤ 17) (hl : 49 ≤ ds 0) (hg : Gl w0) (hw0 : Below w0.heap.size w0 w) (hb : w0.heap.size ≤ b) :
    Calls Tryz.prog 125 #[.pointer (some ⟨b, 0, none⟩), .pointer (some ⟨5, 0, none⟩)] w fun e w' => (∃ x : Int, e = .returned (.tuple #[.int .u64 x, .bool false])) ∧ Kept (· = b) w w' := by
  have c0 := h.cnd
  have c1 := h.cdp
  have hnz : ((nd : Int) == 0) = false := by simp; omega
  have HD := Lib.hid h
  have HOK := Lib.hid hok
  have HL := Lib.hid hl
  have HG := Lib.hid hg
  have HW := Lib.hid hw0
  clear h hok hl hg hw0
  go_enter Tryz.func125, Tryz.ntmps125
  go_wp2_with fail
  refine wp_scope_ahead _ 0 rfl ?_
  intro J hJ
  have HJ := Lib.hid hJ
  clear hJ
  go_wp2_with fail
  go_loopg [6] (2 * D + fl (ds 0)) (fun gk a6 wr => ∃ (m E : Nat) (ex : Int) (tr : Bool) (ds1 : Nat → Nat), a6 = .int .i64 ex ∧ gk = 2 * E + fl (ds1 0) ∧ E ≤ 17 ∧ 0 ≤ ex ∧ ex + 27 * gk ≤ 945 ∧ 1 ≤ m ∧ m ≤ 800 ∧ 49 ≤ ds1 0 ∧ DOk m ds1 ∧ Dec wr b m E ng tr ds1 ∧ Kept (· = b) w wr)
  case atStart => exact ⟨nd, D, 0, false, ds, rfl, rfl, hD, by omega, by have := fl_le (ds 0); omega, h1, hn, HL.out, HOK.out, HD.out, Kept.refl _ _⟩
  case round =>
    obtain ⟨m, E, ex, tr, ds1, rfl, hgk, hE, hex0, hex, hm1, hm2, hl1, hok1, hd1, hk1⟩ := hrel
    have HGK := Lib.hid hgk
    have HL1 := Lib.hid hl1
    have HO1 := Lib.hid hok1
    have HD1 := Lib.hid hd1
    have HK1 := Lib.hid hk1
    have h57 := (hok1 0 (by omega)).2
    have c1' := hd1.cdp
    have hW1 := Lib.hid (HW.out.trans (hk1.below (B := w0.heap.size) (fun k h => by have h' : k = b := h; omega) HW.out.size))
    obtain ⟨pb, po, pc, hp0, hp1⟩ := (HG.out.below hW1.out).ptab
    have HP1 := Lib.hid hp1
    clear hgk hl1 hok1 hd1 hk1 hp1
    by_cases hpos : 0 < E
    · obtain ⟨hw1, hw2, hw3, hw4⟩ := pw_le E hpos
      by_cases h9 : 9 ≤ E
      · have hpw : pw E = 27 := by
          have := pw_cases E hpos
          omega
        go_wp2_with fail
        go_quiet (fail)
        go_wp2_with fail
        rw [show (-27 : Int) = -((pw E : Nat) : Int) by rw [hpw]; rfl]
        refine (shiftNeg_any _ b m (pw E) E ng tr ds1 (HD1.out.drewN _) HO1.out hm1 hm2 HL1.out hw1 (by omega) (by omega)).mono ?_
        rintro e w2 ⟨rfl, ⟨m2, r, n, tr2, ds2, q1, q2, hle, hn2, hds2, hd2, hok2⟩, hk2⟩
        have hst := shift_step hpos ⟨HL1.out, h57⟩ hle hn2
        rw [← hds2] at hst
        obtain ⟨s1, s2, s3, s4⟩ := hst
        have hcast : ((E : Int) - ((r : Int) - 1)) = ((E - (r - 1) : Nat) : Int) := by omega
        rw [hcast] at hd2
        have HD2 := Lib.hid hd2
        have HO2 := Lib.hid hok2
        have HK2 := Lib.hid ((HK1.out.drewN _).trans hk2 (fun _ _ h => h))
        have hgk := HGK.out
        obtain ⟨G, hG⟩ : ∃ G, G = 2 * (E - (r - 1)) + fl (ds2 0) := ⟨_, rfl⟩
        rw [← hgk, ← hG] at s3
        have HGG := Lib.hid hG
        clear hle hn2 hds2 hd2 hok2 hk2 hcast hgk hG
        go_wp2_with fail
        go_roundg G
        case measure => omega
        case rel => exact ⟨m2, E - (r - 1), ex + 27, tr2, ds2, by first | rfl | go_num, HGG.out, by omega, by omega, by omega, q1, q2, s4, HO2.out, HD2.out, HK2.out⟩
      · have hcell := HP1.out E (by omega)
        rw [powtab_pw E hpos (by omega)] at hcell
        go_wp2_with fail
        go_quiet (fail)
        go_wp2_with fail
        go_quiet (fail)
        go_wp2_with fail
        refine (shiftNeg_any _ b m (pw E) E ng tr ds1 (HD1.out.drewN _) HO1.out hm1 hm2 HL1.out hw1 (by omega) (by omega)).mono ?_
        rintro e w2 ⟨rfl, ⟨m2, r, n, tr2, ds2, q1, q2, hle, hn2, hds2, hd2, hok2⟩, hk2⟩
        have hst := shift_step hpos ⟨HL1.out, h57⟩ hle hn2
        rw [← hds2] at hst
        obtain ⟨s1, s2, s3, s4⟩ := hst
        have hcast : ((E : Int) - ((r : Int) - 1)) = ((E - (r - 1) : Nat) : Int) := by omega
        rw [hcast] at hd2
        have HD2 := Lib.hid hd2
        have HO2 := Lib.hid hok2
        have HK2 := Lib.hid ((HK1.out.drewN _).trans hk2 (fun _ _ h => h))
        have hgk := HGK.out
        obtain ⟨G, hG⟩ : ∃ G, G = 2 * (E - (r - 1)) + fl (ds2 0) := ⟨_, rfl⟩
        rw [← hgk, ← hG] at s3
        have HGG := Lib.hid hG
        clear hle hn2 hds2 hd2 hok2 hk2 hcast hgk hG
        go_wp2_with fail
        go_roundg G
        case measure => omega
        case rel => exact ⟨m2, E - (r - 1), ex + pw E, tr2, ds2, by first | rfl | go_num, HGG.out, by omega, by omega, by omega, q1, q2, s4, HO2.out, HD2.out, HK2.out⟩
    · have hE0 : E = 0 := by omega
      subst hE0
      have hinf2 := (HG.out.below hW1.out).inf2
      have hinf1 := (HG.out.below hW1.out).inf1
      have hinf0 := (HG.out.below hW1.out).inf0
      have hd10 : Dec wr b m 0 ng tr ds1 := HD1.out
      have HD10 := Lib.hid hd10
      clear hd10
      go_wp2_with fail
      go_loopg [6] (57 - ds1 0) (fun gk a6 wr2 => ∃ (m2 : Nat) (ex2 : Int) (ds2 : Nat → Nat), a6 = .int .i64 ex2 ∧ gk = 57 - ds2 0 ∧ (gk : Int) - 9 ≤ ex2 ∧ ex2 ≤ 945 ∧ 1 ≤ m2 ∧ m2 ≤ 800 ∧ 49 ≤ ds2 0 ∧ DOk m2 ds2 ∧ Dec wr2 b m2 0 ng tr ds2 ∧ Kept (· = b) w wr2)
      case atStart => exact ⟨m, ex, ds1, rfl, rfl, by have := HL1.out; omega, by omega, hm1, hm2, HL1.out, HO1.out, HD10.out, HK1.out⟩
      case round =>
        obtain ⟨m2, ex2, ds2, rfl, hgk2, he1, he2, hm3, hm4, hl2, hok2, hd2, hk2⟩ := hrel
        have HGK2 := Lib.hid hgk2
        have HO2 := Lib.hid hok2
        have HD2 := Lib.hid hd2
        have HK2 := Lib.hid hk2
        have h572 := (hok2 0 (by omega)).2
        have c1'' := hd2.cdp
        have d0'' := hd2.dig 0 (by omega)
        have hW2 := Lib.hid (HW.out.trans (hk2.below (B := w0.heap.size) (fun k h => by have h' : k = b := h; omega) HW.out.size))
        obtain ⟨pb2, po2, pc2, hp02, hp12⟩ := (HG.out.below hW2.out).ptab
        have hcell2 : wr.cell? ⟨pb2, po2, none⟩ = some (.int .i64 1) := hp12 0 (by omega)
        clear hgk2 hok2 hd2 hk2 hp12
        by_cases hlt5 : ds2 0 < 53
        · go_wp2_with fail
          go_quiet (fail)
          go_wp2_with fail
          go_quiet (fail)
          go_wp2_with fail
          refine (shiftPos1_any _ b m2 0 ng tr ds2 (HD2.out.drewN _) HO2.out hm3 hm4 hl2 (by omega) (by omega) ((HG.out.below hW2.out).drewN _)).mono ?_
          rintro e w2 ⟨rfl, ⟨m3, ds3, q1, q2, q3, hd3, hok3⟩, hk3⟩
          have h573 := (hok3 0 (by omega)).2
          have HD3 := Lib.hid hd3
          have HO3 := Lib.hid hok3
          have HK3 := Lib.hid ((HK2.out.drewN _).trans hk3 (fun _ _ h => h))
          have hgk := HGK2.out
          clear hd3 hok3 hk3
          obtain ⟨G, hG⟩ : ∃ G, G = 57 - ds3 0 := ⟨_, rfl⟩
          have hG1 : G < gk := by omega
          have HGG := Lib.hid hG
          clear hgk hG
          go_wp2_with fail
          go_roundg G
          case measure => omega
          case rel => exact ⟨m3, ex2 - 1, ds3, by first | rfl | go_num, HGG.out, by omega, by omega, q1, q2, by omega, HO3.out, HD3.out, HK3.out⟩
        · clear hp02 hcell2
          have hinf2' := (HG.out.below hW2.out).inf2
          have hinf1' := (HG.out.below hW2.out).inf1
          have hinf0' := (HG.out.below hW2.out).inf0
          go_wp2_with fail
          go_quiet (fail)
          go_wp2_with fail
          refine (shiftPos53_any _ b m2 0 ng tr ds2 (HD2.out.drewN _) HO2.out hm3 hm4 (by omega) (by omega) ((HG.out.below hW2.out).drewN _)).mono ?_
          rintro e w2 ⟨rfl, ⟨m3, tr3, ds3, q1, hd3⟩, hk3⟩
          have HK3 := Lib.hid ((HK2.out.drewN _).trans hk3 (fun _ _ h => h))
          obtain ⟨dp3, hdp3⟩ : ∃ dp3 : Int, dp3 = (if m3 = 0 then 0 else 0 + 16) := ⟨_, rfl⟩
          have hdpb : 0 ≤ dp3 ∧ dp3 ≤ 20 := by rw [hdp3]; split <;> omega
          rw [← hdp3] at hd3
          have HD3 := Lib.hid hd3
          clear hd3 hk3 hdp3
          go_wp2_with fail
          refine (roundedInt_any _ b m3 dp3 ng tr3 ds3 HD3.out q1 hdpb).mono ?_
          rintro e w3 ⟨⟨x, rfl, hx⟩, rfl⟩
          have hW3 := Lib.hid (HW.out.trans (HK3.out.below (B := w0.heap.size) (fun k h => by have h' : k = b := h; omega) HW.out.size))
          have hinf2'' := (HG.out.below hW3.out).inf2
          have hinf1'' := (HG.out.below hW3.out).inf1
          have hinf0'' := (HG.out.below hW3.out).inf0
          have hng := HD3.out.cng
          clear hinf2' hinf1' hinf0' hinf2 hinf1 hinf0
          go_wp2_with fail
          · go_quiet (fail)
            go_wp2_with fail
            all_goals
              go_step3
              refine then_goto (jump_goto (HJ.out _ _ ?_))
              go_wp2_with fail
              go_quiet (fail)
              go_wp2_with fail
              all_goals first
                | (go_quiet (fail)
                   go_wp2_with fail
                   rw [Exit.noGoto_ret]
                   go_ret2
                   exact ⟨⟨_, rfl⟩, by first | exact HK3.out | exact HK3.out.drewN _ | exact (HK3.out.drewN _).drewN _ | exact ((HK3.out.drewN _).drewN _).drewN _⟩)
                | (rw [Exit.noGoto_ret]
                   go_ret2
                   exact ⟨⟨_, rfl⟩, by first | exact HK3.out | exact HK3.out.drewN _ | exact (HK3.out.drewN _).drewN _ | exact ((HK3.out.drewN _).drewN _).drewN _⟩)
          all_goals
            go_step3
            refine then_goto (jump_goto (HJ.out _ _ ?_))
            go_wp2_with fail
            go_quiet (fail)
            go_wp2_with fail
            all_goals first
              | (go_quiet (fail)
                 go_wp2_with fail
                 rw [Exit.noGoto_ret]
                 go_ret2
                 exact ⟨⟨_, rfl⟩, by first | exact HK3.out | exact HK3.out.drewN _ | exact (HK3.out.drewN _).drewN _ | exact ((HK3.out.drewN _).drewN _).drewN _⟩)
              | (rw [Exit.noGoto_ret]
                 go_ret2
                 exact ⟨⟨_, rfl⟩, by first | exact HK3.out | exact HK3.out.drewN _ | exact (HK3.out.drewN _).drewN _ | exact ((HK3.out.drewN _).drewN _).drewN _⟩)

end Go.Proofs.YtcpijmbdibgdmaaGreatDoor
