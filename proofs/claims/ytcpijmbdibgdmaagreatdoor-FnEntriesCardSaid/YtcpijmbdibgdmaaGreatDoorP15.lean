/-
  internal/strconv's decimal: set, of a string of that form whose digits ahead of the point are not all zeros.
-/
import Derived.Test.YtcpijmbdibgdmaaGreatDoorN2
import Derived.Test.YtcpijmbdibgdmaaGreatDoorP6
namespace Go.Proofs.YtcpijmbdibgdmaaGreatDoor
open Go Go.RowKit

/-- How far the digits have been set. -/
structure St (s : ByteArray) (p kk i : Nat) (dot dg : Bool) (nd : Nat) (dp : Int) (ds : Nat → Nat) : Prop where
  hip : p ≤ i
  hil : i ≤ s.size
  hdot : dot = decide (p + kk < i)
  hdg : dg = decide (p < i)
  hnd : nd ≤ i - p
  hdp0 : dot = false → -((i : Int) - p) ≤ dp ∧ dp ≤ 0
  hz : dot = false → nd = 0 → ∀ j (h : j < s.size), p ≤ j → j < i → s[j].toNat = 48
  hdp1 : dot = true → 1 ≤ dp ∧ dp ≤ kk ∧ 1 ≤ nd
  ok : DOk nd ds
  lead : 1 ≤ nd → 49 ≤ ds 0

theorem St.start (s : ByteArray) (p kk : Nat) (ds : Nat → Nat) (h : p ≤ s.size) : St s p kk p false false 0 0 ds :=
  ⟨Nat.le_refl _, h, by simp, by simp, by omega, fun _ => by omega, fun _ _ j _ h1 h2 => by omega, fun h => by simp at h, fun j hj => by omega, fun h => by omega⟩

variable {s : ByteArray} {p kk i nd : Nat} {dot dg : Bool} {dp : Int} {ds : Nat → Nat}

theorem St.point (h : St s p kk i dot dg nd dp ds) (hb : Big s p kk) (hi : i = p + kk) (hk : 1 ≤ kk) (hlt : i < s.size) : St s p kk (i + 1) true dg nd nd ds := by
  have hd : dot = false := by rw [h.hdot]; simp; omega
  have hn := h.hnd
  have hn1 : 1 ≤ nd := by
    rcases Nat.eq_zero_or_pos nd with e | e
    · obtain ⟨j, hj, h1, h2, h3⟩ := hb
      exact absurd (h.hz hd e j hj h1 (by omega)) h3
    · exact e
  refine ⟨by have := h.hip; omega, hlt, by simp; omega, ?_, by omega, fun e => by simp at e, fun e => by simp at e, fun _ => by omega, h.ok, h.lead⟩
  rw [h.hdg]
  simp
  omega

theorem St.zero (h : St s p kk i dot dg nd dp ds) (hi : i ≠ p + kk) (hn : nd = 0) (hlt : i < s.size) (h48 : s[i].toNat = 48) : St s p kk (i + 1) dot true nd (dp - 1) ds := by
  subst hn
  have hip := h.hip
  have hdf : dot = false := by
    cases dot
    · rfl
    · have := h.hdp1 rfl; omega
  refine ⟨by omega, hlt, ?_, by simp; omega, by omega, fun e => by have := h.hdp0 e; omega, fun e e0 j hj h1 h2 => ?_, fun e => by rw [hdf] at e; simp at e, h.ok, h.lead⟩
  · rw [h.hdot]
    by_cases c : p + kk < i
    · simp [c]; omega
    · simp [c]; omega
  · by_cases ej : j = i
    · subst ej; exact h48
    · exact h.hz e e0 j hj h1 (by omega)

theorem St.digit (h : St s p kk i dot dg nd dp ds) (hi : i ≠ p + kk) (hlt : i < s.size) (hc : 48 ≤ s[i].toNat ∧ s[i].toNat ≤ 57) (hz : nd = 0 → s[i].toNat ≠ 48) :
    St s p kk (i + 1) dot true (nd + 1) dp (upd ds nd s[i].toNat) := by
  have hip := h.hip
  have hnd := h.hnd
  refine ⟨by omega, hlt, ?_, by simp; omega, by omega, fun e => by have := h.hdp0 e; omega, fun e e0 => by omega, fun e => by have := h.hdp1 e; omega, fun j hj => ?_, fun _ => ?_⟩
  · rw [h.hdot]
    by_cases c : p + kk < i
    · simp [c]; omega
    · simp [c]; omega
  · by_cases e : j = nd
    · subst e
      rw [upd_same]
      exact hc
    · rw [upd_other ds _ e]
      exact h.ok j (by omega)
  · rcases Nat.eq_zero_or_pos nd with e | e
    · subst e
      rw [upd_same]
      have := hz rfl
      omega
    · rw [upd_other ds _ (by omega)]
      exact h.lead e

theorem St.done (h : St s p kk i dot dg nd dp ds) (hi : i = s.size) (hk : s.size = p + kk + 13) (hk17 : kk ≤ 17) : dot = true ∧ dg = true ∧ 1 ≤ nd ∧ nd ≤ 30 ∧ 1 ≤ dp ∧ dp ≤ 17 := by
  have hd : dot = true := by rw [h.hdot]; simp; omega
  have h1 := h.hdp1 hd
  have := h.hnd
  exact ⟨hd, by rw [h.hdg]; simp; omega, by omega, by omega, by omega, by omega⟩

end Go.Proofs.YtcpijmbdibgdmaaGreatDoor

/-
  internal/strconv's decimal: set, the walk.
-/
namespace Go.Proofs.YtcpijmbdibgdmaaGreatDoor
open Go Go.RowKit

/-- What set leaves. -/
def SetPost (w w' : World) (b : Nat) : Prop := (∃ (nd : Nat) (dp : Int) (ng : Bool) (ds : Nat → Nat), Dec w' b nd dp ng false ds ∧ DOk nd ds ∧ 1 ≤ nd ∧ nd ≤ 30 ∧ 1 ≤ dp ∧ dp ≤ 17 ∧ 49 ≤ ds 0) ∧ Kept (· = b) w w'

set_option maxRecDepth 100000 in
set_option maxHeartbeats 4000000 in
theorem set_any (s : ByteArray) (p kk : Nat) (h : Num s p kk) (hbig : Big s p kk) (w : World) (b : Nat) (ds0 : Nat → Nat) (hd : Dec w b 0 0 false false ds0) :
    Calls Tryz.prog 124 #[.pointer (some ⟨b, 0, none⟩), .string s] w fun e w' => e = .returned (.bool true) ∧ SetPost w w' b := by
  have hsz := h.size
  have hk1 := h.k1
  have hk17 := h.k17
  have hp1 := h.p1
  have HN := Lib.hid h
  have HBIG := Lib.hid hbig
  have HSZ := Lib.hid hsz
  have hsz1 : p + kk + 13 ≤ s.size := by omega
  have hsz2 : s.size ≤ p + kk + 13 := by omega
  have c2 := hd.cng
  have c3 := hd.ctr
  have f2 := hd.fr 802 (by omega)
  have f3 := hd.fr 803 (by omega)
  have HD0 := Lib.hid hd
  clear h hsz hbig hd
  have HR0 := Lib.hid (St.start s p kk ds0 (by omega))
  have l0 : 0 < s.size := by omega
  have l1 : 1 < s.size := by omega
  have hne : ¬ s = ByteArray.empty := by
    rintro rfl
    simp at l0
  rcases (show p = 0 ∨ p = 1 by omega) with hp | hp
  · have hd0 := HN.out.dig 0 l0 (by omega) (by omega)
    have q43 : ((s[0].toNat : Int) == 43) = false := by simp; omega
    have q45 : ((s[0].toNat : Int) == 45) = false := by simp; omega
    have HST := Lib.hid (show Value.int .i64 0 = .int .i64 p by rw [hp]; rfl)
    clear hp
    go_enter Tryz.func124, Tryz.ntmps124
    go_wp2_with fail
    clear q43 q45 hd0
    have HDI := Lib.hid ((HD0.out.setNg false).setTr false)
    have HKI := Lib.hid (kept_cell (kept_cell (Kept.refl (· = b) w) 802 (.bool false)) 803 (.bool false))
    go_loopw [5, 6, 7] (fun a5 a6 a7 wr => ∃ (i nd : Nat) (dot dg : Bool) (dp : Int) (ds : Nat → Nat), a5 = .int .i64 i ∧ a6 = .bool dot ∧ a7 = .bool dg ∧ St s p kk i dot dg nd dp ds ∧ Dec wr b nd dp false false ds ∧ Kept (· = b) w wr) (fun a5 _ _ _ => s.size - (intOf a5).toNat)
    case atStart => exact ⟨p, 0, false, false, 0, ds0, HST.out, rfl, rfl, HR0.out, HDI.out, HKI.out⟩
    case round =>
      obtain ⟨i, nd, dot, dg, dp, ds, rfl, rfl, rfl, hr, hdc, hkp⟩ := hrel
      have hip := hr.hip
      have hil := hr.hil
      have hnd := hr.hnd
      have hdpb : -40 ≤ dp ∧ dp ≤ 17 := by
        cases dot
        · have := hr.hdp0 rfl; omega
        · have := hr.hdp1 rfl; omega
      have e0 := hdc.cnd
      have e1 := hdc.cdp
      have g0 := hdc.fr 800 (by omega)
      have g1 := hdc.fr 801 (by omega)
      have HR := Lib.hid hr
      have HD := Lib.hid hdc
      have HK := Lib.hid hkp
      clear hr hdc hkp
      by_cases hlt : i < s.size
      · by_cases hd : i = p + kk
        · have hc := HN.out.dot (by omega)
          have hpt := Lib.hid (HR.out.point HBIG.out hd hk1 hlt)
          have hdt : dot = false := by rw [HR.out.hdot]; simp; omega
          subst hdt
          simp only [← hd] at hc
          have q95 : ((s[i].toNat : Int) == 95) = false := by simp; omega
          have q46 : ((s[i].toNat : Int) == 46) = true := by simp; omega
          clear hc hd
          go_wp2_with fail
          go_roundw
          case rel => exact ⟨i + 1, nd, true, dg, nd, ds, by go_num, rfl, rfl, hpt.out, HD.out.setDp nd, kept_cell HK.out _ _⟩
          case measure => simp [intOf]; omega
        · have hc := HN.out.dig i hlt hip hd
          have HDI := Lib.hid hd
          have q95 : ((s[i].toNat : Int) == 95) = false := by simp; omega
          have q46 : ((s[i].toNat : Int) == 46) = false := by simp; omega
          by_cases hz : s[i].toNat = 48
          · have q48 : ((s[i].toNat : Int) == 48) = true := by simp; omega
            have p48 : ((s[i].toNat : Int) != 48) = false := by simp; omega
            have HZ := Lib.hid hz
            clear hz hd
            by_cases hn : nd = 0
            · have hpt := Lib.hid (HR.out.zero HDI.out hn hlt HZ.out)
              subst hn
              go_wp2_with fail
              go_roundw
              case rel => exact ⟨i + 1, 0, dot, true, dp - 1, ds, by go_num, rfl, rfl, hpt.out, HD.out.setDp (dp - 1), kept_cell HK.out _ _⟩
              case measure => simp [intOf]; omega
            · have n0 : ((nd : Int) == 0) = false := by simp; omega
              have hpt := Lib.hid (HR.out.digit HDI.out hlt hc (fun e => absurd e hn))
              have hcq := HD.out.dig nd (by omega)
              have hfq := HD.out.fr nd (by omega)
              go_wp2_with fail
              go_region
              all_goals
                go_wp2_with fail
                go_roundw
                case rel => exact ⟨i + 1, nd + 1, dot, true, dp, upd ds nd s[i].toNat, by go_num, rfl, rfl, hpt.out, ((HD.out.setDig nd s[i].toNat (by omega)).drew).setNd (nd + 1), kept_cell ((kept_cell HK.out _ _).drew) _ _⟩
                case measure => simp [intOf]; omega
          · have q48 : ((s[i].toNat : Int) == 48) = false := by simp; omega
            have p48 : ((s[i].toNat : Int) != 48) = true := by simp; omega
            have hpt := Lib.hid (HR.out.digit HDI.out hlt hc (fun _ => hz))
            have hcq := HD.out.dig nd (by omega)
            have hfq := HD.out.fr nd (by omega)
            clear hz hd
            go_wp2_with fail
            go_region
            all_goals
              go_wp2_with fail
              go_roundw
              case rel => exact ⟨i + 1, nd + 1, dot, true, dp, upd ds nd s[i].toNat, by go_num, rfl, rfl, hpt.out, ((HD.out.setDig nd s[i].toNat (by omega)).drew).setNd (nd + 1), kept_cell ((kept_cell HK.out _ _).drew) _ _⟩
              case measure => simp [intOf]; omega
      · have hie : i = s.size := by omega
        obtain ⟨hdt, hdg, h1, h2, h3, h4⟩ := HR.out.done hie HSZ.out hk17
        have HIE := Lib.hid hie
        subst hdt
        subst hdg
        have q1 : ((i : Int) != (s.size : Int)) = false := by simp; omega
        clear hie
        go_wp2_with fail
        go_ret
        exact ⟨rfl, ⟨nd, dp, false, ds, HD.out, HR.out.ok, h1, h2, h3, h4, HR.out.lead h1⟩, HK.out⟩
  · have hs0 := HN.out.sign l0 hp
    have hd0 := HN.out.dig 1 l1 (by omega) (by omega)
    have q43 : ((s[0].toNat : Int) == 43) = false := by simp; omega
    have q45 : ((s[0].toNat : Int) == 45) = true := by simp; omega
    have HST := Lib.hid (show Value.int .i64 1 = .int .i64 p by rw [hp]; rfl)
    clear hp hs0
    go_enter Tryz.func124, Tryz.ntmps124
    go_wp2_with fail
    clear q43 q45 hd0
    have HDI := Lib.hid (((HD0.out.setNg false).setTr false).setNg true)
    have HKI := Lib.hid (kept_cell (kept_cell (kept_cell (Kept.refl (· = b) w) 802 (.bool false)) 803 (.bool false)) 802 (.bool true))
    go_loopw [5, 6, 7] (fun a5 a6 a7 wr => ∃ (i nd : Nat) (dot dg : Bool) (dp : Int) (ds : Nat → Nat), a5 = .int .i64 i ∧ a6 = .bool dot ∧ a7 = .bool dg ∧ St s p kk i dot dg nd dp ds ∧ Dec wr b nd dp true false ds ∧ Kept (· = b) w wr) (fun a5 _ _ _ => s.size - (intOf a5).toNat)
    case atStart => exact ⟨p, 0, false, false, 0, ds0, HST.out, rfl, rfl, HR0.out, HDI.out, HKI.out⟩
    case round =>
      obtain ⟨i, nd, dot, dg, dp, ds, rfl, rfl, rfl, hr, hdc, hkp⟩ := hrel
      have hip := hr.hip
      have hil := hr.hil
      have hnd := hr.hnd
      have hdpb : -40 ≤ dp ∧ dp ≤ 17 := by
        cases dot
        · have := hr.hdp0 rfl; omega
        · have := hr.hdp1 rfl; omega
      have e0 := hdc.cnd
      have e1 := hdc.cdp
      have g0 := hdc.fr 800 (by omega)
      have g1 := hdc.fr 801 (by omega)
      have HR := Lib.hid hr
      have HD := Lib.hid hdc
      have HK := Lib.hid hkp
      clear hr hdc hkp
      by_cases hlt : i < s.size
      · by_cases hd : i = p + kk
        · have hc := HN.out.dot (by omega)
          have hpt := Lib.hid (HR.out.point HBIG.out hd hk1 hlt)
          have hdt : dot = false := by rw [HR.out.hdot]; simp; omega
          subst hdt
          simp only [← hd] at hc
          have q95 : ((s[i].toNat : Int) == 95) = false := by simp; omega
          have q46 : ((s[i].toNat : Int) == 46) = true := by simp; omega
          clear hc hd
          go_wp2_with fail
          go_roundw
          case rel => exact ⟨i + 1, nd, true, dg, nd, ds, by go_num, rfl, rfl, hpt.out, HD.out.setDp nd, kept_cell HK.out _ _⟩
          case measure => simp [intOf]; omega
        · have hc := HN.out.dig i hlt hip hd
          have HDI := Lib.hid hd
          have q95 : ((s[i].toNat : Int) == 95) = false := by simp; omega
          have q46 : ((s[i].toNat : Int) == 46) = false := by simp; omega
          by_cases hz : s[i].toNat = 48
          · have q48 : ((s[i].toNat : Int) == 48) = true := by simp; omega
            have p48 : ((s[i].toNat : Int) != 48) = false := by simp; omega
            have HZ := Lib.hid hz
            clear hz hd
            by_cases hn : nd = 0
            · have hpt := Lib.hid (HR.out.zero HDI.out hn hlt HZ.out)
              subst hn
              go_wp2_with fail
              go_roundw
              case rel => exact ⟨i + 1, 0, dot, true, dp - 1, ds, by go_num, rfl, rfl, hpt.out, HD.out.setDp (dp - 1), kept_cell HK.out _ _⟩
              case measure => simp [intOf]; omega
            · have n0 : ((nd : Int) == 0) = false := by simp; omega
              have hpt := Lib.hid (HR.out.digit HDI.out hlt hc (fun e => absurd e hn))
              have hcq := HD.out.dig nd (by omega)
              have hfq := HD.out.fr nd (by omega)
              go_wp2_with fail
              go_region
              all_goals
                go_wp2_with fail
                go_roundw
                case rel => exact ⟨i + 1, nd + 1, dot, true, dp, upd ds nd s[i].toNat, by go_num, rfl, rfl, hpt.out, ((HD.out.setDig nd s[i].toNat (by omega)).drew).setNd (nd + 1), kept_cell ((kept_cell HK.out _ _).drew) _ _⟩
                case measure => simp [intOf]; omega
          · have q48 : ((s[i].toNat : Int) == 48) = false := by simp; omega
            have p48 : ((s[i].toNat : Int) != 48) = true := by simp; omega
            have hpt := Lib.hid (HR.out.digit HDI.out hlt hc (fun _ => hz))
            have hcq := HD.out.dig nd (by omega)
            have hfq := HD.out.fr nd (by omega)
            clear hz hd
            go_wp2_with fail
            go_region
            all_goals
              go_wp2_with fail
              go_roundw
              case rel => exact ⟨i + 1, nd + 1, dot, true, dp, upd ds nd s[i].toNat, by go_num, rfl, rfl, hpt.out, ((HD.out.setDig nd s[i].toNat (by omega)).drew).setNd (nd + 1), kept_cell ((kept_cell HK.out _ _).drew) _ _⟩
              case measure => simp [intOf]; omega
      · have hie : i = s.size := by omega
        obtain ⟨hdt, hdg, h1, h2, h3, h4⟩ := HR.out.done hie HSZ.out hk17
        have HIE := Lib.hid hie
        subst hdt
        subst hdg
        have q1 : ((i : Int) != (s.size : Int)) = false := by simp; omega
        clear hie
        go_wp2_with fail
        go_ret
        exact ⟨rfl, ⟨nd, dp, true, ds, HD.out, HR.out.ok, h1, h2, h3, h4, HR.out.lead h1⟩, HK.out⟩

end Go.Proofs.YtcpijmbdibgdmaaGreatDoor
