/-
  internal/strconv.readFloat on such a string.
-/
import Derived.Test.YtcpijmbdibgdmaaGreatDoorN2
import Derived.Deep.DeepCutAuto
namespace Go.Proofs.YtcpijmbdibgdmaaGreatDoor
open Go Go.RowKit

set_option maxRecDepth 100000 in
set_option maxHeartbeats 4000000 in
theorem readFloat_any (s : ByteArray) (p kk : Nat) (h : Num s p kk) (w : World) :
    Calls Tryz.prog 118 #[.string s] w fun e w' => RetRead s p kk e ∧ w = w' := by
  have hsz := h.size
  have hk1 := h.k1
  have hk17 := h.k17
  have hp1 := h.p1
  have HN := Lib.hid h
  have HSZ := Lib.hid hsz
  have hsz1 : p + kk + 13 ≤ s.size := by omega
  have hsz2 : s.size ≤ p + kk + 13 := by omega
  clear h hsz
  go_enter Tryz.func118, Tryz.ntmps118
  have HR0 := Lib.hid (Rd.start s p kk (by omega))
  have l0 : 0 < s.size := by omega
  have l1 : 1 < s.size := by omega
  have l2 : 2 < s.size := by omega
  have hne : ¬ s = ByteArray.empty := by
    rintro rfl
    simp at l0
  rcases (show p = 0 ∨ p = 1 by omega) with hp | hp
  · have hd0 := HN.out.dig 0 l0 (by omega) (by omega)
    have q43 : ((s[0].toNat : Int) == 43) = false := by simp; omega
    have q45 : ((s[0].toNat : Int) == 45) = false := by simp; omega
    have hst : Value.int .i64 0 = .int .i64 p := by rw [hp]; rfl
    have HST := Lib.hid hst
    clear hst
    by_cases h48 : s[0].toNat = 48
    · have hq : 46 ≤ s[1].toNat ∧ s[1].toNat ≤ 57 := by
        by_cases e : 1 = p + kk
        · have := HN.out.dot (by omega)
          simp only [← e] at this
          omega
        · have := HN.out.dig 1 l1 (by omega) e
          omega
      have q48 : ((s[0].toNat : Int) == 48) = true := by simp; omega
      have q120 : ((s[1].toNat : Int) == 120) = false := by simp; omega
      clear h48 hp
      go_wp2_with fail
      go_step3
      go_wp2_with (go_at_call 133; refine (lower_dig _ _ hq.1 hq.2).mono ?_; rintro e w1 ⟨rfl, rfl⟩)
      go_step3
      go_wp2_with fail
      clear q48 q120 q43 q45 hd0 hq
      go_loop [2, 5, 7, 9, 13, 14, 15, 16, 17] (fun a2 a5 a7 a9 a13 a14 a15 a16 a17 => ∃ (i nd nm m : Nat) (dot dg tr : Bool) (dp : Int), a2 = .int .u64 m ∧ a5 = .bool tr ∧ a7 = .int .i64 i ∧ a9 = .bool false ∧ a13 = .bool dot ∧ a14 = .bool dg ∧ a15 = .int .i64 nd ∧ a16 = .int .i64 nm ∧ a17 = .int .i64 dp ∧ Rd s p kk i dot dg nd nm dp m tr) (fun _ _ a7 _ _ _ _ _ _ => s.size - (intOf a7).toNat)
      case atStart => exact ⟨p, 0, 0, 0, false, false, false, 0, rfl, rfl, HST.out, rfl, rfl, rfl, rfl, rfl, rfl, HR0.out⟩
      case round =>
        obtain ⟨i, nd, nm, m, dot, dg, tr, dp, rfl, rfl, rfl, rfl, rfl, rfl, rfl, rfl, rfl, hr⟩ := hrel
        have hip := hr.hip
        have hil := hr.hil
        have hnd := hr.hnd
        have hnm : nm ≤ nd ∧ nm ≤ 19 := by have := hr.hnm; omega
        have hdpb : -40 ≤ dp ∧ dp ≤ 17 := by
          cases dot
          · have := hr.hdp0 rfl; omega
          · have := hr.hdp1 rfl; omega
        have HR := Lib.hid hr
        clear hr
        by_cases hlt : i < s.size
        · by_cases hd : i = p + kk
          · have hc := HN.out.dot (by omega)
            have hpt := Lib.hid (HR.out.point hd hk1 hlt)
            have hdt : dot = false := by rw [HR.out.hdot]; simp; omega
            subst hdt
            simp only [← hd] at hc
            have q95 : ((s[i].toNat : Int) == 95) = false := by simp; omega
            have q46 : ((s[i].toNat : Int) == 46) = true := by simp; omega
            have HD := Lib.hid hd
            clear hc hd
            go_wp2_with fail
            go_round
            case rel => exact ⟨i + 1, nd, nm, m, true, dg, tr, nd, rfl, rfl, by go_num, rfl, rfl, rfl, rfl, rfl, rfl, hpt.out⟩
            case measure => simp [intOf]; omega
          · have hc := HN.out.dig i hlt hip hd
            have HD := Lib.hid hd
            have q95 : ((s[i].toNat : Int) == 95) = false := by simp; omega
            have q46 : ((s[i].toNat : Int) == 46) = false := by simp; omega
            by_cases hz : s[i].toNat = 48
            · have q48 : ((s[i].toNat : Int) == 48) = true := by simp; omega
              have p48 : ((s[i].toNat : Int) != 48) = false := by simp; omega
              have HZ := Lib.hid hz
              clear hz hd
              by_cases hn : nd = 0
              · have hpt := Lib.hid (HR.out.zero HD.out hn hlt)
                subst hn
                go_wp2_with fail
                go_round
                case rel => exact ⟨i + 1, 0, nm, m, dot, true, tr, dp - 1, rfl, rfl, by go_num, rfl, rfl, rfl, rfl, rfl, rfl, hpt.out⟩
                case measure => simp [intOf]; omega
              · have n0 : ((nd : Int) == 0) = false := by simp; omega
                by_cases h19 : nm < 19
                · have hm := Nat.lt_of_lt_of_le HR.out.hm (pow_le18 (n := nm) (by omega))
                  have hpt := Lib.hid (HR.out.digit HD.out hlt HSZ.out (fun e => absurd e hn) (m * 10 + (s[i].toNat - 48)) (nm + 1) tr (.inl ⟨h19, rfl, by omega, rfl⟩))
                  go_wp2_with fail
                  go_round
                  case rel => exact ⟨i + 1, nd + 1, nm + 1, m * 10 + (s[i].toNat - 48), dot, true, tr, dp, by go_num, rfl, by go_num, rfl, rfl, rfl, by go_num, by go_num, rfl, hpt.out⟩
                  case measure => simp [intOf]; omega
                · have hpt := Lib.hid (HR.out.digit HD.out hlt HSZ.out (fun e => absurd e hn) m nm tr (.inr ⟨by omega, rfl, rfl⟩))
                  go_wp2_with fail
                  go_round
                  case rel => exact ⟨i + 1, nd + 1, nm, m, dot, true, tr, dp, rfl, rfl, by go_num, rfl, rfl, rfl, by go_num, rfl, rfl, hpt.out⟩
                  case measure => simp [intOf]; omega
            · have q48 : ((s[i].toNat : Int) == 48) = false := by simp; omega
              have p48 : ((s[i].toNat : Int) != 48) = true := by simp; omega
              have HZ := Lib.hid hz
              clear hz hd
              by_cases h19 : nm < 19
              · have hm := Nat.lt_of_lt_of_le HR.out.hm (pow_le18 (n := nm) (by omega))
                have hpt := Lib.hid (HR.out.digit HD.out hlt HSZ.out (fun _ => HZ.out) (m * 10 + (s[i].toNat - 48)) (nm + 1) tr (.inl ⟨h19, rfl, by omega, rfl⟩))
                go_wp2_with fail
                go_round
                case rel => exact ⟨i + 1, nd + 1, nm + 1, m * 10 + (s[i].toNat - 48), dot, true, tr, dp, by go_num, rfl, by go_num, rfl, rfl, rfl, by go_num, by go_num, rfl, hpt.out⟩
                case measure => simp [intOf]; omega
              · have hpt := Lib.hid (HR.out.digit HD.out hlt HSZ.out (fun _ => HZ.out) m nm true (.inr ⟨by omega, rfl, rfl⟩))
                go_wp2_with fail
                go_round
                case rel => exact ⟨i + 1, nd + 1, nm, m, dot, true, true, dp, rfl, rfl, by go_num, rfl, rfl, rfl, by go_num, rfl, rfl, hpt.out⟩
                case measure => simp [intOf]; omega
        · have hie : i = s.size := by omega
          obtain ⟨hdt, hdg, hm, hx1, hx2, hx3, hx4, hbig⟩ := HR.out.done hie HSZ.out hk17
          have HB := Lib.hid hbig
          have HIE := Lib.hid hie
          subst hdt
          subst hdg
          clear hbig hie
          by_cases hm0 : m = 0
          · have q0 : ((m : Int) != 0) = false := by simp; omega
            have HM := Lib.hid hm0
            clear hm0
            go_wp2_with fail
            refine bodyPost_ret (v := .tuple #[.int .u64 m, .int .i64 0, .bool false, .bool tr, .bool false, .int .i64 i, .bool true]) (by simp [results, Tryz.results118, go_sem]) rfl ⟨⟨m, 0, false, tr, by rw [HIE.out], hm, by omega, by omega, HB.out⟩, rfl⟩
          · have q0 : ((m : Int) != 0) = true := by simp; omega
            have HM := Lib.hid hm0
            clear hm0
            go_wp2_with fail
            refine bodyPost_ret (v := .tuple #[.int .u64 m, .int .i64 (dp - nm), .bool false, .bool tr, .bool false, .int .i64 i, .bool true]) (by simp [results, Tryz.results118, go_sem]) rfl ⟨⟨m, dp - nm, false, tr, by rw [HIE.out], hm, hx1, hx2, HB.out⟩, rfl⟩
    · have q48 : ((s[0].toNat : Int) == 48) = false := by simp; omega
      clear h48 hp
      go_wp2_with fail
      go_step3
      go_wp2_with fail
      go_step3
      go_wp2_with fail
      clear q48 q43 q45 hd0
      go_loop [2, 5, 7, 9, 13, 14, 15, 16, 17] (fun a2 a5 a7 a9 a13 a14 a15 a16 a17 => ∃ (i nd nm m : Nat) (dot dg tr : Bool) (dp : Int), a2 = .int .u64 m ∧ a5 = .bool tr ∧ a7 = .int .i64 i ∧ a9 = .bool false ∧ a13 = .bool dot ∧ a14 = .bool dg ∧ a15 = .int .i64 nd ∧ a16 = .int .i64 nm ∧ a17 = .int .i64 dp ∧ Rd s p kk i dot dg nd nm dp m tr) (fun _ _ a7 _ _ _ _ _ _ => s.size - (intOf a7).toNat)
      case atStart => exact ⟨p, 0, 0, 0, false, false, false, 0, rfl, rfl, HST.out, rfl, rfl, rfl, rfl, rfl, rfl, HR0.out⟩
      case round =>
        obtain ⟨i, nd, nm, m, dot, dg, tr, dp, rfl, rfl, rfl, rfl, rfl, rfl, rfl, rfl, rfl, hr⟩ := hrel
        have hip := hr.hip
        have hil := hr.hil
        have hnd := hr.hnd
        have hnm : nm ≤ nd ∧ nm ≤ 19 := by have := hr.hnm; omega
        have hdpb : -40 ≤ dp ∧ dp ≤ 17 := by
          cases dot
          · have := hr.hdp0 rfl; omega
          · have := hr.hdp1 rfl; omega
        have HR := Lib.hid hr
        clear hr
        by_cases hlt : i < s.size
        · by_cases hd : i = p + kk
          · have hc := HN.out.dot (by omega)
            have hpt := Lib.hid (HR.out.point hd hk1 hlt)
            have hdt : dot = false := by rw [HR.out.hdot]; simp; omega
            subst hdt
            simp only [← hd] at hc
            have q95 : ((s[i].toNat : Int) == 95) = false := by simp; omega
            have q46 : ((s[i].toNat : Int) == 46) = true := by simp; omega
            have HD := Lib.hid hd
            clear hc hd
            go_wp2_with fail
            go_round
            case rel => exact ⟨i + 1, nd, nm, m, true, dg, tr, nd, rfl, rfl, by go_num, rfl, rfl, rfl, rfl, rfl, rfl, hpt.out⟩
            case measure => simp [intOf]; omega
          · have hc := HN.out.dig i hlt hip hd
            have HD := Lib.hid hd
            have q95 : ((s[i].toNat : Int) == 95) = false := by simp; omega
            have q46 : ((s[i].toNat : Int) == 46) = false := by simp; omega
            by_cases hz : s[i].toNat = 48
            · have q48 : ((s[i].toNat : Int) == 48) = true := by simp; omega
              have p48 : ((s[i].toNat : Int) != 48) = false := by simp; omega
              have HZ := Lib.hid hz
              clear hz hd
              by_cases hn : nd = 0
              · have hpt := Lib.hid (HR.out.zero HD.out hn hlt)
                subst hn
                go_wp2_with fail
                go_round
                case rel => exact ⟨i + 1, 0, nm, m, dot, true, tr, dp - 1, rfl, rfl, by go_num, rfl, rfl, rfl, rfl, rfl, rfl, hpt.out⟩
                case measure => simp [intOf]; omega
              · have n0 : ((nd : Int) == 0) = false := by simp; omega
                by_cases h19 : nm < 19
                · have hm := Nat.lt_of_lt_of_le HR.out.hm (pow_le18 (n := nm) (by omega))
                  have hpt := Lib.hid (HR.out.digit HD.out hlt HSZ.out (fun e => absurd e hn) (m * 10 + (s[i].toNat - 48)) (nm + 1) tr (.inl ⟨h19, rfl, by omega, rfl⟩))
                  go_wp2_with fail
                  go_round
                  case rel => exact ⟨i + 1, nd + 1, nm + 1, m * 10 + (s[i].toNat - 48), dot, true, tr, dp, by go_num, rfl, by go_num, rfl, rfl, rfl, by go_num, by go_num, rfl, hpt.out⟩
                  case measure => simp [intOf]; omega
                · have hpt := Lib.hid (HR.out.digit HD.out hlt HSZ.out (fun e => absurd e hn) m nm tr (.inr ⟨by omega, rfl, rfl⟩))
                  go_wp2_with fail
                  go_round
                  case rel => exact ⟨i + 1, nd + 1, nm, m, dot, true, tr, dp, rfl, rfl, by go_num, rfl, rfl, rfl, by go_num, rfl, rfl, hpt.out⟩
                  case measure => simp [intOf]; omega
            · have q48 : ((s[i].toNat : Int) == 48) = false := by simp; omega
              have p48 : ((s[i].toNat : Int) != 48) = true := by simp; omega
              have HZ := Lib.hid hz
              clear hz hd
              by_cases h19 : nm < 19
              · have hm := Nat.lt_of_lt_of_le HR.out.hm (pow_le18 (n := nm) (by omega))
                have hpt := Lib.hid (HR.out.digit HD.out hlt HSZ.out (fun _ => HZ.out) (m * 10 + (s[i].toNat - 48)) (nm + 1) tr (.inl ⟨h19, rfl, by omega, rfl⟩))
                go_wp2_with fail
                go_round
                case rel => exact ⟨i + 1, nd + 1, nm + 1, m * 10 + (s[i].toNat - 48), dot, true, tr, dp, by go_num, rfl, by go_num, rfl, rfl, rfl, by go_num, by go_num, rfl, hpt.out⟩
                case measure => simp [intOf]; omega
              · have hpt := Lib.hid (HR.out.digit HD.out hlt HSZ.out (fun _ => HZ.out) m nm true (.inr ⟨by omega, rfl, rfl⟩))
                go_wp2_with fail
                go_round
                case rel => exact ⟨i + 1, nd + 1, nm, m, dot, true, true, dp, rfl, rfl, by go_num, rfl, rfl, rfl, by go_num, rfl, rfl, hpt.out⟩
                case measure => simp [intOf]; omega
        · have hie : i = s.size := by omega
          obtain ⟨hdt, hdg, hm, hx1, hx2, hx3, hx4, hbig⟩ := HR.out.done hie HSZ.out hk17
          have HB := Lib.hid hbig
          have HIE := Lib.hid hie
          subst hdt
          subst hdg
          clear hbig hie
          by_cases hm0 : m = 0
          · have q0 : ((m : Int) != 0) = false := by simp; omega
            have HM := Lib.hid hm0
            clear hm0
            go_wp2_with fail
            refine bodyPost_ret (v := .tuple #[.int .u64 m, .int .i64 0, .bool false, .bool tr, .bool false, .int .i64 i, .bool true]) (by simp [results, Tryz.results118, go_sem]) rfl ⟨⟨m, 0, false, tr, by rw [HIE.out], hm, by omega, by omega, HB.out⟩, rfl⟩
          · have q0 : ((m : Int) != 0) = true := by simp; omega
            have HM := Lib.hid hm0
            clear hm0
            go_wp2_with fail
            refine bodyPost_ret (v := .tuple #[.int .u64 m, .int .i64 (dp - nm), .bool false, .bool tr, .bool false, .int .i64 i, .bool true]) (by simp [results, Tryz.results118, go_sem]) rfl ⟨⟨m, dp - nm, false, tr, by rw [HIE.out], hm, hx1, hx2, HB.out⟩, rfl⟩
  · have hs0 := HN.out.sign l0 hp
    have hd0 := HN.out.dig 1 l1 (by omega) (by omega)
    have q43 : ((s[0].toNat : Int) == 43) = false := by simp; omega
    have q45 : ((s[0].toNat : Int) == 45) = true := by simp; omega
    have hst : Value.int .i64 1 = .int .i64 p := by rw [hp]; rfl
    have HST := Lib.hid hst
    clear hs0 hst
    by_cases h48 : s[1].toNat = 48
    · have hq : 46 ≤ s[2].toNat ∧ s[2].toNat ≤ 57 := by
        by_cases e : 2 = p + kk
        · have := HN.out.dot (by omega)
          simp only [← e] at this
          omega
        · have := HN.out.dig 2 l2 (by omega) e
          omega
      have q48 : ((s[1].toNat : Int) == 48) = true := by simp; omega
      have q120 : ((s[2].toNat : Int) == 120) = false := by simp; omega
      clear h48 hp
      go_wp2_with fail
      go_step3
      go_wp2_with (go_at_call 133; refine (lower_dig _ _ hq.1 hq.2).mono ?_; rintro e w1 ⟨rfl, rfl⟩)
      go_step3
      go_wp2_with fail
      clear q48 q120 q43 q45 hd0 hq
      go_loop [2, 5, 7, 9, 13, 14, 15, 16, 17] (fun a2 a5 a7 a9 a13 a14 a15 a16 a17 => ∃ (i nd nm m : Nat) (dot dg tr : Bool) (dp : Int), a2 = .int .u64 m ∧ a5 = .bool tr ∧ a7 = .int .i64 i ∧ a9 = .bool false ∧ a13 = .bool dot ∧ a14 = .bool dg ∧ a15 = .int .i64 nd ∧ a16 = .int .i64 nm ∧ a17 = .int .i64 dp ∧ Rd s p kk i dot dg nd nm dp m tr) (fun _ _ a7 _ _ _ _ _ _ => s.size - (intOf a7).toNat)
      case atStart => exact ⟨p, 0, 0, 0, false, false, false, 0, rfl, rfl, HST.out, rfl, rfl, rfl, rfl, rfl, rfl, HR0.out⟩
      case round =>
        obtain ⟨i, nd, nm, m, dot, dg, tr, dp, rfl, rfl, rfl, rfl, rfl, rfl, rfl, rfl, rfl, hr⟩ := hrel
        have hip := hr.hip
        have hil := hr.hil
        have hnd := hr.hnd
        have hnm : nm ≤ nd ∧ nm ≤ 19 := by have := hr.hnm; omega
        have hdpb : -40 ≤ dp ∧ dp ≤ 17 := by
          cases dot
          · have := hr.hdp0 rfl; omega
          · have := hr.hdp1 rfl; omega
        have HR := Lib.hid hr
        clear hr
        by_cases hlt : i < s.size
        · by_cases hd : i = p + kk
          · have hc := HN.out.dot (by omega)
            have hpt := Lib.hid (HR.out.point hd hk1 hlt)
            have hdt : dot = false := by rw [HR.out.hdot]; simp; omega
            subst hdt
            simp only [← hd] at hc
            have q95 : ((s[i].toNat : Int) == 95) = false := by simp; omega
            have q46 : ((s[i].toNat : Int) == 46) = true := by simp; omega
            have HD := Lib.hid hd
            clear hc hd
            go_wp2_with fail
            go_round
            case rel => exact ⟨i + 1, nd, nm, m, true, dg, tr, nd, rfl, rfl, by go_num, rfl, rfl, rfl, rfl, rfl, rfl, hpt.out⟩
            case measure => simp [intOf]; omega
          · have hc := HN.out.dig i hlt hip hd
            have HD := Lib.hid hd
            have q95 : ((s[i].toNat : Int) == 95) = false := by simp; omega
            have q46 : ((s[i].toNat : Int) == 46) = false := by simp; omega
            by_cases hz : s[i].toNat = 48
            · have q48 : ((s[i].toNat : Int) == 48) = true := by simp; omega
              have p48 : ((s[i].toNat : Int) != 48) = false := by simp; omega
              have HZ := Lib.hid hz
              clear hz hd
              by_cases hn : nd = 0
              · have hpt := Lib.hid (HR.out.zero HD.out hn hlt)
                subst hn
                go_wp2_with fail
                go_round
                case rel => exact ⟨i + 1, 0, nm, m, dot, true, tr, dp - 1, rfl, rfl, by go_num, rfl, rfl, rfl, rfl, rfl, rfl, hpt.out⟩
                case measure => simp [intOf]; omega
              · have n0 : ((nd : Int) == 0) = false := by simp; omega
                by_cases h19 : nm < 19
                · have hm := Nat.lt_of_lt_of_le HR.out.hm (pow_le18 (n := nm) (by omega))
                  have hpt := Lib.hid (HR.out.digit HD.out hlt HSZ.out (fun e => absurd e hn) (m * 10 + (s[i].toNat - 48)) (nm + 1) tr (.inl ⟨h19, rfl, by omega, rfl⟩))
                  go_wp2_with fail
                  go_round
                  case rel => exact ⟨i + 1, nd + 1, nm + 1, m * 10 + (s[i].toNat - 48), dot, true, tr, dp, by go_num, rfl, by go_num, rfl, rfl, rfl, by go_num, by go_num, rfl, hpt.out⟩
                  case measure => simp [intOf]; omega
                · have hpt := Lib.hid (HR.out.digit HD.out hlt HSZ.out (fun e => absurd e hn) m nm tr (.inr ⟨by omega, rfl, rfl⟩))
                  go_wp2_with fail
                  go_round
                  case rel => exact ⟨i + 1, nd + 1, nm, m, dot, true, tr, dp, rfl, rfl, by go_num, rfl, rfl, rfl, by go_num, rfl, rfl, hpt.out⟩
                  case measure => simp [intOf]; omega
            · have q48 : ((s[i].toNat : Int) == 48) = false := by simp; omega
              have p48 : ((s[i].toNat : Int) != 48) = true := by simp; omega
              have HZ := Lib.hid hz
              clear hz hd
              by_cases h19 : nm < 19
              · have hm := Nat.lt_of_lt_of_le HR.out.hm (pow_le18 (n := nm) (by omega))
                have hpt := Lib.hid (HR.out.digit HD.out hlt HSZ.out (fun _ => HZ.out) (m * 10 + (s[i].toNat - 48)) (nm + 1) tr (.inl ⟨h19, rfl, by omega, rfl⟩))
                go_wp2_with fail
                go_round
                case rel => exact ⟨i + 1, nd + 1, nm + 1, m * 10 + (s[i].toNat - 48), dot, true, tr, dp, by go_num, rfl, by go_num, rfl, rfl, rfl, by go_num, by go_num, rfl, hpt.out⟩
                case measure => simp [intOf]; omega
              · have hpt := Lib.hid (HR.out.digit HD.out hlt HSZ.out (fun _ => HZ.out) m nm true (.inr ⟨by omega, rfl, rfl⟩))
                go_wp2_with fail
                go_round
                case rel => exact ⟨i + 1, nd + 1, nm, m, dot, true, true, dp, rfl, rfl, by go_num, rfl, rfl, rfl, by go_num, rfl, rfl, hpt.out⟩
                case measure => simp [intOf]; omega
        · have hie : i = s.size := by omega
          obtain ⟨hdt, hdg, hm, hx1, hx2, hx3, hx4, hbig⟩ := HR.out.done hie HSZ.out hk17
          have HB := Lib.hid hbig
          have HIE := Lib.hid hie
          subst hdt
          subst hdg
          clear hbig hie
          by_cases hm0 : m = 0
          · have q0 : ((m : Int) != 0) = false := by simp; omega
            have HM := Lib.hid hm0
            clear hm0
            go_wp2_with fail
            refine bodyPost_ret (v := .tuple #[.int .u64 m, .int .i64 0, .bool true, .bool tr, .bool false, .int .i64 i, .bool true]) (by simp [results, Tryz.results118, go_sem]) rfl ⟨⟨m, 0, true, tr, by rw [HIE.out], hm, by omega, by omega, HB.out⟩, rfl⟩
          · have q0 : ((m : Int) != 0) = true := by simp; omega
            have HM := Lib.hid hm0
            clear hm0
            go_wp2_with fail
            refine bodyPost_ret (v := .tuple #[.int .u64 m, .int .i64 (dp - nm), .bool true, .bool tr, .bool false, .int .i64 i, .bool true]) (by simp [results, Tryz.results118, go_sem]) rfl ⟨⟨m, dp - nm, true, tr, by rw [HIE.out], hm, hx1, hx2, HB.out⟩, rfl⟩
    · have q48 : ((s[1].toNat : Int) == 48) = false := by simp; omega
      clear h48 hp
      go_wp2_with fail
      go_step3
      go_wp2_with fail
      go_step3
      go_wp2_with fail
      clear q48 q43 q45 hd0
      go_loop [2, 5, 7, 9, 13, 14, 15, 16, 17] (fun a2 a5 a7 a9 a13 a14 a15 a16 a17 => ∃ (i nd nm m : Nat) (dot dg tr : Bool) (dp : Int), a2 = .int .u64 m ∧ a5 = .bool tr ∧ a7 = .int .i64 i ∧ a9 = .bool false ∧ a13 = .bool dot ∧ a14 = .bool dg ∧ a15 = .int .i64 nd ∧ a16 = .int .i64 nm ∧ a17 = .int .i64 dp ∧ Rd s p kk i dot dg nd nm dp m tr) (fun _ _ a7 _ _ _ _ _ _ => s.size - (intOf a7).toNat)
      case atStart => exact ⟨p, 0, 0, 0, false, false, false, 0, rfl, rfl, HST.out, rfl, rfl, rfl, rfl, rfl, rfl, HR0.out⟩
      case round =>
        obtain ⟨i, nd, nm, m, dot, dg, tr, dp, rfl, rfl, rfl, rfl, rfl, rfl, rfl, rfl, rfl, hr⟩ := hrel
        have hip := hr.hip
        have hil := hr.hil
        have hnd := hr.hnd
        have hnm : nm ≤ nd ∧ nm ≤ 19 := by have := hr.hnm; omega
        have hdpb : -40 ≤ dp ∧ dp ≤ 17 := by
          cases dot
          · have := hr.hdp0 rfl; omega
          · have := hr.hdp1 rfl; omega
        have HR := Lib.hid hr
        clear hr
        by_cases hlt : i < s.size
        · by_cases hd : i = p + kk
          · have hc := HN.out.dot (by omega)
            have hpt := Lib.hid (HR.out.point hd hk1 hlt)
            have hdt : dot = false := by rw [HR.out.hdot]; simp; omega
            subst hdt
            simp only [← hd] at hc
            have q95 : ((s[i].toNat : Int) == 95) = false := by simp; omega
            have q46 : ((s[i].toNat : Int) == 46) = true := by simp; omega
            have HD := Lib.hid hd
            clear hc hd
            go_wp2_with fail
            go_round
            case rel => exact ⟨i + 1, nd, nm, m, true, dg, tr, nd, rfl, rfl, by go_num, rfl, rfl, rfl, rfl, rfl, rfl, hpt.out⟩
            case measure => simp [intOf]; omega
          · have hc := HN.out.dig i hlt hip hd
            have HD := Lib.hid hd
            have q95 : ((s[i].toNat : Int) == 95) = false := by simp; omega
            have q46 : ((s[i].toNat : Int) == 46) = false := by simp; omega
            by_cases hz : s[i].toNat = 48
            · have q48 : ((s[i].toNat : Int) == 48) = true := by simp; omega
              have p48 : ((s[i].toNat : Int) != 48) = false := by simp; omega
              have HZ := Lib.hid hz
              clear hz hd
              by_cases hn : nd = 0
              · have hpt := Lib.hid (HR.out.zero HD.out hn hlt)
                subst hn
                go_wp2_with fail
                go_round
                case rel => exact ⟨i + 1, 0, nm, m, dot, true, tr, dp - 1, rfl, rfl, by go_num, rfl, rfl, rfl, rfl, rfl, rfl, hpt.out⟩
                case measure => simp [intOf]; omega
              · have n0 : ((nd : Int) == 0) = false := by simp; omega
                by_cases h19 : nm < 19
                · have hm := Nat.lt_of_lt_of_le HR.out.hm (pow_le18 (n := nm) (by omega))
                  have hpt := Lib.hid (HR.out.digit HD.out hlt HSZ.out (fun e => absurd e hn) (m * 10 + (s[i].toNat - 48)) (nm + 1) tr (.inl ⟨h19, rfl, by omega, rfl⟩))
                  go_wp2_with fail
                  go_round
                  case rel => exact ⟨i + 1, nd + 1, nm + 1, m * 10 + (s[i].toNat - 48), dot, true, tr, dp, by go_num, rfl, by go_num, rfl, rfl, rfl, by go_num, by go_num, rfl, hpt.out⟩
                  case measure => simp [intOf]; omega
                · have hpt := Lib.hid (HR.out.digit HD.out hlt HSZ.out (fun e => absurd e hn) m nm tr (.inr ⟨by omega, rfl, rfl⟩))
                  go_wp2_with fail
                  go_round
                  case rel => exact ⟨i + 1, nd + 1, nm, m, dot, true, tr, dp, rfl, rfl, by go_num, rfl, rfl, rfl, by go_num, rfl, rfl, hpt.out⟩
                  case measure => simp [intOf]; omega
            · have q48 : ((s[i].toNat : Int) == 48) = false := by simp; omega
              have p48 : ((s[i].toNat : Int) != 48) = true := by simp; omega
              have HZ := Lib.hid hz
              clear hz hd
              by_cases h19 : nm < 19
              · have hm := Nat.lt_of_lt_of_le HR.out.hm (pow_le18 (n := nm) (by omega))
                have hpt := Lib.hid (HR.out.digit HD.out hlt HSZ.out (fun _ => HZ.out) (m * 10 + (s[i].toNat - 48)) (nm + 1) tr (.inl ⟨h19, rfl, by omega, rfl⟩))
                go_wp2_with fail
                go_round
                case rel => exact ⟨i + 1, nd + 1, nm + 1, m * 10 + (s[i].toNat - 48), dot, true, tr, dp, by go_num, rfl, by go_num, rfl, rfl, rfl, by go_num, by go_num, rfl, hpt.out⟩
                case measure => simp [intOf]; omega
              · have hpt := Lib.hid (HR.out.digit HD.out hlt HSZ.out (fun _ => HZ.out) m nm true (.inr ⟨by omega, rfl, rfl⟩))
                go_wp2_with fail
                go_round
                case rel => exact ⟨i + 1, nd + 1, nm, m, dot, true, true, dp, rfl, rfl, by go_num, rfl, rfl, rfl, by go_num, rfl, rfl, hpt.out⟩
                case measure => simp [intOf]; omega
        · have hie : i = s.size := by omega
          obtain ⟨hdt, hdg, hm, hx1, hx2, hx3, hx4, hbig⟩ := HR.out.done hie HSZ.out hk17
          have HB := Lib.hid hbig
          have HIE := Lib.hid hie
          subst hdt
          subst hdg
          clear hbig hie
          by_cases hm0 : m = 0
          · have q0 : ((m : Int) != 0) = false := by simp; omega
            have HM := Lib.hid hm0
            clear hm0
            go_wp2_with fail
            refine bodyPost_ret (v := .tuple #[.int .u64 m, .int .i64 0, .bool true, .bool tr, .bool false, .int .i64 i, .bool true]) (by simp [results, Tryz.results118, go_sem]) rfl ⟨⟨m, 0, true, tr, by rw [HIE.out], hm, by omega, by omega, HB.out⟩, rfl⟩
          · have q0 : ((m : Int) != 0) = true := by simp; omega
            have HM := Lib.hid hm0
            clear hm0
            go_wp2_with fail
            refine bodyPost_ret (v := .tuple #[.int .u64 m, .int .i64 (dp - nm), .bool true, .bool tr, .bool false, .int .i64 i, .bool true]) (by simp [results, Tryz.results118, go_sem]) rfl ⟨⟨m, dp - nm, true, tr, by rw [HIE.out], hm, hx1, hx2, HB.out⟩, rfl⟩

end Go.Proofs.YtcpijmbdibgdmaaGreatDoor
