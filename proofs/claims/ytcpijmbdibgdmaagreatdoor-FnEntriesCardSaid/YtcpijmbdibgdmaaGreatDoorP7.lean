/-
  internal/strconv's decimal: rightShift.
-/
import Derived.Test.YtcpijmbdibgdmaaGreatDoorP6
import Derived.Deep.DeepCutAuto
namespace Go.Proofs.YtcpijmbdibgdmaaGreatDoor
open Go Go.RowKit

/-- The leading digits of a decimal, as far as they have been read: `r` places make the number `n`, which is below ten times the mark. -/
def Lead (K d0 r n : Nat) : Prop := (r = 0 ∧ n = 0) ∨ (1 ≤ r ∧ 10 ^ (r - 1) ≤ n ∧ n < 10 * K ∧ (r = 1 → n = d0) ∧ (2 ≤ r → 10 ^ (r - 2) < K))

theorem Lead.bound {K d0 r n : Nat} (h : Lead K d0 r n) (hK : 0 < K) : n < 10 * K := by
  rcases h with ⟨_, rfl⟩ | ⟨_, _, h, _⟩ <;> omega

theorem Lead.step {K d0 r n c : Nat} (h : Lead K d0 r n) (hn : n < K) (hc : c ≤ 9) (h0 : r = 0 → c = d0 ∧ 1 ≤ c) : Lead K d0 (r + 1) (n * 10 + c) := by
  right
  rcases h with ⟨rfl, rfl⟩ | ⟨h1, h2, h3, h4, h5⟩
  · have := h0 rfl
    exact ⟨by omega, by simp; omega, by omega, fun _ => by omega, fun h => by omega⟩
  · refine ⟨by omega, ?_, by omega, fun h => by omega, fun _ => ?_⟩
    · have e : r + 1 - 1 = (r - 1) + 1 := by omega
      rw [e, Nat.pow_succ]
      omega
    · have e : r + 1 - 2 = r - 1 := by omega
      rw [e]
      omega

/-- Ten to that power is below the mark: few places. -/
theorem Lead.few {K d0 r n : Nat} (h : Lead K d0 r n) (hK : K ≤ 1152921504606846976) : r ≤ 20 := by
  rcases h with ⟨rfl, _⟩ | ⟨h1, h2, h3, h4, h5⟩
  · omega
  · rcases Nat.lt_or_ge r 21 with h | h
    · omega
    · exfalso
      have h6 := h5 (by omega)
      have h7 : 10 ^ 19 ≤ 10 ^ (r - 2) := Nat.pow_le_pow_right (by decide) (by omega)
      have h8 : (10 : Nat) ^ 19 = 10000000000000000000 := by decide
      omega

theorem and_mask (n k : Nat) (hk : k ≤ 60) (hn : n < 18446744073709551616) : bits .and .u64 (n : Int) (((2 ^ k : Nat) : Int) - 1) = ((n % 2 ^ k : Nat) : Int) := by
  have hp : 0 < 2 ^ k := Nat.pow_pos (by decide)
  have hp2 : 2 ^ k ≤ 2 ^ 60 := Nat.pow_le_pow_right (by decide) hk
  have h60 : (2 : Nat) ^ 60 = 1152921504606846976 := by decide
  have e : (((2 ^ k : Nat) : Int) - 1) = ((2 ^ k - 1 : Nat) : Int) := by omega
  have hb : bits .and .u64 (n : Int) ((2 ^ k - 1 : Nat) : Int) = IntKind.u64.wrap ((BitVec.ofInt 64 (n : Int) &&& BitVec.ofInt 64 ((2 ^ k - 1 : Nat) : Int)).toNat) := rfl
  rw [e, hb, BitVec.toNat_and]
  have h1 : (BitVec.ofInt 64 (n : Int)).toNat = n := by
    simp
    omega
  have h2 : (BitVec.ofInt 64 ((2 ^ k - 1 : Nat) : Int)).toNat = 2 ^ k - 1 := by
    simp only [BitVec.toNat_ofInt]
    omega
  rw [h1, h2, Nat.and_two_pow_sub_one_eq_mod, IntKind.wrap_u64]
  have := Nat.mod_lt n hp
  omega

set_option maxRecDepth 100000 in
set_option maxHeartbeats 4000000 in
theorem rightShift_any (w : World) (b nd k : Nat) (dp : Int) (ng tr : Bool) (ds : Nat → Nat) (h : Dec w b nd dp ng tr ds) (hok : DOk nd ds) (h1 : 1 ≤ nd) (hn : nd ≤ 800) (hl : 49 ≤ ds 0) (hk1 : 1 ≤ k) (hk : k ≤ 60) (hdp : -100000 ≤ dp ∧ dp ≤ 100000) :
    Calls Tryz.prog 148 #[.pointer (some ⟨b, 0, none⟩), .int .u64 k] w fun e w' => e = .returned (.tuple #[]) ∧
      (∃ (m r n : Nat) (tr' : Bool) (ds' : Nat → Nat), 1 ≤ m ∧ m ≤ 800 ∧ Lead (2 ^ k) (ds 0 - 48) r n ∧ 2 ^ k ≤ n ∧ ds' 0 = 48 + n / 2 ^ k ∧ Dec w' b m (dp - (r - 1)) ng tr' ds' ∧ DOk m ds') ∧ Kept (· = b) w w' := by
  have c0 := h.cnd
  have c1 := h.cdp
  have f0 := h.fr 800 (by omega)
  have f1 := h.fr 801 (by omega)
  have f3 := h.fr 803 (by omega)
  have HD := Lib.hid h
  have HOK := Lib.hid hok
  have HL := Lib.hid hl
  clear h hok hl
  obtain ⟨K, hK⟩ : ∃ K, K = 2 ^ k := ⟨_, rfl⟩
  have hK0 : 0 < K := by rw [hK]; exact Nat.pow_pos (by decide)
  have hK1 : K ≤ 1152921504606846976 := by
    rw [hK]
    have : 2 ^ k ≤ 2 ^ 60 := Nat.pow_le_pow_right (by decide) hk
    have h60 : (2 : Nat) ^ 60 = 1152921504606846976 := by decide
    omega
  have hKi : (2 : Int) ^ k = (K : Int) := by rw [hK]; simp
  have HKK := Lib.hid hK
  rw [← hK]
  clear hK
  go_enter Tryz.func148, Tryz.ntmps148
  go_upto_region 2 with fail
  go_cut [6] (fun n wr => n = .int .u64 0 ∧ w = wr)
  case first =>
    go_wp2_with fail
    go_meet
    case rel => exact ⟨rfl, rfl⟩
  case rest =>
    obtain ⟨rfl, rfl⟩ := hcut
    apply_assumption
    go_step
    go_cut [4, 6, 7] (fun r' n' _ wr => ∃ r n : Nat, r' = .int .i64 r ∧ n' = .int .u64 n ∧ Lead K (ds 0 - 48) r n ∧ K ≤ n ∧ w = wr)
    case first =>
      go_wp2_with fail
      go_loopg [4, 6, 7] (nd + 1) (fun gk r' n' _ wr => ∃ r n : Nat, r' = .int .i64 r ∧ n' = .int .u64 n ∧ gk + r = nd + 1 ∧ r ≤ nd ∧ Lead K (ds 0 - 48) r n ∧ w = wr)
      case atStart => exact ⟨0, 0, rfl, rfl, by omega, by omega, .inl ⟨rfl, rfl⟩, rfl⟩
      case round =>
        obtain ⟨r, n, rfl, rfl, hg, hr, hle, rfl⟩ := hrel
        have HLE := Lib.hid hle
        have hnb := hle.bound hK0
        clear hle
        by_cases hnK : n < K
        · have hz : ((n : Int) / (K : Int) == 0) = true := by
            rw [beq_iff_eq]
            exact Int.ediv_eq_zero_of_lt (by omega) (by omega)
          by_cases hrn : r < nd
          · have hc := HD.out.dig r (by omega)
            have hcr := HOK.out r hrn
            go_wp2_with fail
            go_roundg (nd - r)
            case measure => omega
            case rel =>
              have hst := HLE.out.step (c := ds r - 48) hnK (by omega) (fun h => by subst h; have := HL.out; omega)
              refine ⟨r + 1, n * 10 + (ds r - 48), by go_num, ?_, by omega, by omega, hst, rfl⟩
              congr 1
              omega
          · have hn1 : 1 ≤ n := by
              rcases HLE.out with ⟨h, _⟩ | ⟨_, h, _⟩
              · omega
              · have := Nat.pow_pos (n := r - 1) (show 0 < 10 by decide)
                omega
            have hn0 : ((n : Int) == 0) = false := by simp; omega
            go_wp2_with fail
            go_loopg [4, 6] (21 - r) (fun g2 r' n' wr => ∃ r2 n2 : Nat, r' = .int .i64 r2 ∧ n' = .int .u64 n2 ∧ g2 + r2 = 21 ∧ 1 ≤ r2 ∧ Lead K (ds 0 - 48) r2 n2 ∧ w = wr)
            case atStart =>
              have := HLE.out.few hK1
              exact ⟨r, n, rfl, rfl, by omega, by omega, HLE.out, rfl⟩
            case round =>
              obtain ⟨r2, n2, rfl, rfl, hg2, hr2, hle2, rfl⟩ := hrel
              have HLE2 := Lib.hid hle2
              have hnb2 := hle2.bound hK0
              clear hle2
              by_cases hnK2 : n2 < K
              · have hz2 : ((n2 : Int) / (K : Int) == 0) = true := by
                  rw [beq_iff_eq]
                  exact Int.ediv_eq_zero_of_lt (by omega) (by omega)
                have hst := HLE2.out.step (c := 0) hnK2 (by omega) (fun h => by omega)
                have hf := hst.few hK1
                have HST := Lib.hid hst
                clear hst
                go_wp2_with fail
                go_roundg (21 - (r2 + 1))
                case measure => omega
                case rel => exact ⟨r2 + 1, n2 * 10 + 0, by go_num, by go_num, by omega, by omega, HST.out, rfl⟩
              · have hz2 : ((n2 : Int) / (K : Int) == 0) = false := by
                  have h1 : (1 : Int) ≤ (n2 : Int) / (K : Int) := (Int.le_ediv_iff_mul_le (by omega)).2 (by omega)
                  simp
                  omega
                go_wp2_with fail
                go_meet
                case rel => exact ⟨r2, n2, rfl, rfl, HLE2.out, by omega, rfl⟩
        · have hz : ((n : Int) / (K : Int) == 0) = false := by
            have h1 : (1 : Int) ≤ (n : Int) / (K : Int) := (Int.le_ediv_iff_mul_le (by omega)).2 (by omega)
            simp
            omega
          go_wp2_with fail
          go_meet
          case rel => exact ⟨r, n, rfl, rfl, HLE.out, by omega, rfl⟩
    case rest =>
      obtain ⟨r, n, rfl, rfl, hle, hnK, rfl⟩ := hcut
      have HLE := Lib.hid hle
      have hnb := hle.bound hK0
      have hrf := hle.few hK1
      clear hle
      have hr1 : 1 ≤ r := by
        rcases HLE.out with ⟨_, h⟩ | ⟨h, _⟩ <;> omega
      go_wp2_with fail
      go_loopw [4, 5, 6] (fun r' q' n' wr => ∃ (q n3 : Nat) (ds3 : Nat → Nat), r' = .int .i64 ((r + q : Nat) : Int) ∧ q' = .int .i64 q ∧ n' = .int .u64 n3 ∧ (q = 0 ∨ r + q ≤ nd) ∧ n3 < 10 * K ∧ (q = 0 → n3 = n) ∧ (1 ≤ q → ds3 0 = 48 + n / K) ∧ (∀ j, q ≤ j → ds3 j = ds j) ∧ DOk q ds3 ∧ Dec wr b nd (dp - (r - 1)) ng tr ds3 ∧ Kept (· = b) w wr) (fun r' _ _ _ => (nd - intOf r').toNat)
      case atStart =>
        exact ⟨0, n, ds, by go_num, rfl, rfl, .inl rfl, hnb, fun _ => rfl, fun h => by omega, fun j _ => rfl, fun j hj => by omega, HD.out.setDp _, kept_cell (Kept.refl _ w) _ _⟩
      case round =>
        obtain ⟨q, n3, ds3, rfl, rfl, rfl, hq, hn3, hq0, hq1, hds, hdk, hd3, hk3⟩ := hrel
        have HQ0 := Lib.hid hq0
        have HQ1 := Lib.hid hq1
        have HDS := Lib.hid hds
        have HDK := Lib.hid hdk
        have HD3 := Lib.hid hd3
        have HK3 := Lib.hid hk3
        have e0 := hd3.cnd
        clear hq0 hq1 hds hdk hd3 hk3
        by_cases hlt : r + q < nd
        · have hcr := HOK.out (r + q) hlt
          have hc := HD3.out.dig (r + q) (by omega)
          rw [HDS.out (r + q) (by omega)] at hc
          have hcq := HD3.out.dig q (by omega)
          have hfq := HD3.out.fr q (by omega)
          have ha : bits .and .u64 (n3 : Int) ((K : Int) - 1) = ((n3 % K : Nat) : Int) := by
            have := and_mask n3 k hk (by omega)
            rw [← HKK.out] at this
            exact this
          have hm := Nat.mod_lt n3 hK0
          have hd9 : n3 / K ≤ 9 := by
            have := (Nat.div_lt_iff_lt_mul hK0).2 hn3
            omega
          obtain ⟨D, hD⟩ : ∃ D, D = n3 / K := ⟨_, rfl⟩
          have hDi : (n3 : Int) / (K : Int) = (D : Int) := by rw [hD]; simp
          rw [← hD] at hd9
          have HDD := Lib.hid hD
          obtain ⟨M, hM⟩ : ∃ M, M = n3 % K := ⟨_, rfl⟩
          rw [← hM] at ha hm
          have HMM := Lib.hid hM
          clear hD hM
          go_wp2_with fail
          go_roundw
          case rel =>
            refine ⟨q + 1, M * 10 + (ds (r + q) - 48), upd ds3 q (48 + D), by go_num, by go_num, ?_, by omega, by omega, by omega, ?_, ?_, ?_, ?_, ?_⟩
            · congr 1
              omega
            · intro _
              by_cases e : q = 0
              · subst e
                rw [upd_same, HDD.out, HQ0.out rfl]
              · rw [upd_other ds3 _ (by omega)]
                exact HQ1.out (by omega)
            · intro j hj
              rw [upd_other ds3 _ (by omega)]
              exact HDS.out j (by omega)
            · intro j hj
              by_cases e : j = q
              · subst e
                rw [upd_same]
                omega
              · rw [upd_other ds3 _ e]
                exact HDK.out j (by omega)
            · have h5 := HD3.out.setDig q (48 + D) (by omega)
              have hcst : (((48 + D : Nat)) : Int) = (D : Int) + 48 := by omega
              rw [hcst] at h5
              exact h5
            · exact kept_cell HK3.out _ _
          case measure => simp only [intOf]; omega
        · go_wp2_with fail
          go_loopg [5, 6, 11] (k + 1) (fun gk q' n' _ wr4 => ∃ (q4 n4 : Nat) (tr4 : Bool) (ds4 : Nat → Nat), q' = .int .i64 q4 ∧ n' = .int .u64 n4 ∧ q4 ≤ 800 ∧ gk ≤ k + 1 ∧ n4 < 10 * K ∧ 2 ^ (k + 1 - gk) ∣ n4 ∧ (gk = 0 → n4 = 0) ∧ (q4 = 0 → n4 = n) ∧ (1 ≤ q4 → ds4 0 = 48 + n / K) ∧ DOk q4 ds4 ∧ Dec wr4 b nd (dp - (r - 1)) ng tr4 ds4 ∧ Kept (· = b) w wr4)
          case atStart => exact ⟨q, n3, tr, ds3, rfl, rfl, by omega, by omega, hn3, by simp, by omega, HQ0.out, HQ1.out, HDK.out, HD3.out, HK3.out⟩
          case round =>
            obtain ⟨q4, n4, tr4, ds4, rfl, rfl, hq4, hgk, hn4, hdv, hg0, hq40, hq41, hdk4, hd4, hk4⟩ := hrel
            have HDV := Lib.hid hdv
            have HG0 := Lib.hid hg0
            have HQ40 := Lib.hid hq40
            have HQ41 := Lib.hid hq41
            have HDK4 := Lib.hid hdk4
            have HD4 := Lib.hid hd4
            have HK4 := Lib.hid hk4
            have e0 := hd4.cnd
            have e3 := hd4.ctr
            have g0 := hd4.fr 800 (by omega)
            have g3 := hd4.fr 803 (by omega)
            clear hdv hg0 hq40 hq41 hdk4 hd4 hk4
            by_cases hpos : 0 < n4
            · have hgpos : 1 ≤ gk := by
                rcases Nat.eq_zero_or_pos gk with h | h
                · have := HG0.out h
                  omega
                · exact h
              have ha4 : bits .and .u64 (n4 : Int) ((K : Int) - 1) = ((n4 % K : Nat) : Int) := by
                have := and_mask n4 k hk (by omega)
                rw [← HKK.out] at this
                exact this
              have hm4 := Nat.mod_lt n4 hK0
              have hd94 : n4 / K ≤ 9 := by
                have := (Nat.div_lt_iff_lt_mul hK0).2 hn4
                omega
              have hdvm : 2 ^ (k + 1 - gk) ∣ n4 % K := by
                have hKd : 2 ^ (k + 1 - gk) ∣ K := by rw [HKK.out]; exact Nat.pow_dvd_pow 2 (by omega)
                exact (Nat.dvd_mod_iff hKd).2 HDV.out
              obtain ⟨D, hD⟩ : ∃ D, D = n4 / K := ⟨_, rfl⟩
              have hDi : (n4 : Int) / (K : Int) = (D : Int) := by rw [hD]; simp
              rw [← hD] at hd94
              have HDD := Lib.hid hD
              obtain ⟨M, hM⟩ : ∃ M, M = n4 % K := ⟨_, rfl⟩
              rw [← hM] at ha4 hm4 hdvm
              have HDVM := Lib.hid hdvm
              have HMM := Lib.hid hM
              have hnext : 2 ^ (k + 1 - (gk - 1)) ∣ M * 10 := by
                have e : k + 1 - (gk - 1) = (k + 1 - gk) + 1 := by omega
                rw [e, Nat.pow_succ]
                exact Nat.mul_dvd_mul HDVM.out (by decide)
              have hlast : gk - 1 = 0 → M * 10 = 0 := by
                intro h
                have e : gk = 1 := by omega
                have h6 := HDVM.out
                rw [e, Nat.add_sub_cancel, ← HKK.out] at h6
                have := Nat.eq_zero_of_dvd_of_lt h6 hm4
                omega
              have HNX := Lib.hid hnext
              have HLA := Lib.hid hlast
              clear hD hM hdvm hnext hlast
              by_cases hq8 : q4 < 800
              · have hcq := HD4.out.dig q4 hq8
                have hfq := HD4.out.fr q4 (by omega)
                go_wp2_with fail
                go_roundg (gk - 1)
                case measure => omega
                case rel =>
                  refine ⟨q4 + 1, M * 10, tr4, upd ds4 q4 (48 + D), by go_num, by go_num, by omega, by omega, by omega, HNX.out, HLA.out, by omega, ?_, ?_, ?_, ?_⟩
                  · intro _
                    by_cases e : q4 = 0
                    · subst e
                      rw [upd_same, HDD.out, HQ40.out rfl]
                    · rw [upd_other ds4 _ (by omega)]
                      exact HQ41.out (by omega)
                  · intro j hj
                    by_cases e : j = q4
                    · subst e
                      rw [upd_same]
                      omega
                    · rw [upd_other ds4 _ e]
                      exact HDK4.out j (by omega)
                  · have h5 := HD4.out.setDig q4 (48 + D) (by omega)
                    have hcst : (((48 + D : Nat)) : Int) = (D : Int) + 48 := by omega
                    rw [hcst] at h5
                    exact h5
                  · exact kept_cell HK4.out _ _
              · by_cases hD0 : 0 < D
                · go_wp2_with fail
                  go_roundg (gk - 1)
                  case measure => omega
                  case rel => exact ⟨q4, M * 10, true, ds4, rfl, by go_num, by omega, by omega, by omega, HNX.out, HLA.out, by omega, HQ41.out, HDK4.out, HD4.out.setTr true, kept_cell HK4.out _ _⟩
                · go_wp2_with fail
                  go_roundg (gk - 1)
                  case measure => omega
                  case rel => exact ⟨q4, M * 10, tr4, ds4, rfl, by go_num, by omega, by omega, by omega, HNX.out, HLA.out, by omega, HQ41.out, HDK4.out, HD4.out, HK4.out⟩
            · have hq1 : 1 ≤ q4 := by
                rcases Nat.eq_zero_or_pos q4 with h | h
                · have := HQ40.out h
                  omega
                · exact h
              have h49 : 49 ≤ ds4 0 := by
                rw [HQ41.out hq1]
                have := (Nat.one_le_div_iff hK0).2 hnK
                omega
              go_wp2_with fail
              refine (trim_any _ b q4 _ ng tr4 ds4 (HD4.out.setNd q4) hq4).mono ?_
              rintro e w5 ⟨rfl, ⟨m, hm, hd5, h48, hne⟩, hk5⟩
              have hm1 : 1 ≤ m := by
                rcases Nat.eq_zero_or_pos m with h | h
                · have := h48 0 (by omega) (by omega)
                  omega
                · exact h
              go_wp2_with fail
              refine ⟨rfl, .tuple #[], by simp [results, Tryz.results148, go_sem], rfl, ⟨m, r, n, tr4, ds4, hm1, by omega, HLE.out, hnK, HQ41.out hq1, ?_, fun j hj => HDK4.out j (by omega)⟩, (kept_cell HK4.out _ _).trans hk5 (fun _ _ h => h)⟩
              rw [if_neg (by omega)] at hd5
              exact hd5

end Go.Proofs.YtcpijmbdibgdmaaGreatDoor
