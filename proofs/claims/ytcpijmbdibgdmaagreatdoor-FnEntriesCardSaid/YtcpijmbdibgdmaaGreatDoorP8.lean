/-
  internal/strconv.ftoa64 and FormatFloat: the form of what they write.
-/
import Derived.Test.YtcpijmbdibgdmaaGreatDoorP4
import Derived.Test.YtcpijmbdibgdmaaGreatDoorP6
import Derived.Test.YtcpijmbdibgdmaaGreatDoorP7
import Derived.Laws.Externs
import Derived.Deep.RegionWith
namespace Go.Proofs.YtcpijmbdibgdmaaGreatDoor
set_option linter.unusedVariables false
set_option linter.unusedSimpArgs false
open Go Go.RowKit

theorem run_f64bits (r : Nat) (w : World) : (callFunc 92 #[.float .f64 r]).run Tryz.prog w = .ok (.value (.int .u64 r)) w := by
  rw [run_callFunc_extern Tryz.func92 (by kernel_rfl) (by kernel_rfl) (by kernel_rfl) (e := Extern.MathFloatBits.float64bits) (by kernel_rfl)]
  rfl

theorem run_f64from (n : Nat) (w : World) : (callFunc 127 #[.int .u64 n]).run Tryz.prog w = .ok (.value (.float .f64 n)) w := by
  rw [run_callFunc_extern Tryz.func127 (by kernel_rfl) (by kernel_rfl) (by kernel_rfl) (e := Extern.MathFloatBits.float64frombits) (by kernel_rfl)]
  rfl

/-- Shift to the right. -/
theorem shiftNeg_any (w : World) (b nd k : Nat) (dp : Int) (ng tr : Bool) (ds : Nat → Nat) (h : Dec w b nd dp ng tr ds) (hok : DOk nd ds) (h1 : 1 ≤ nd) (hn : nd ≤ 800) (hl : 49 ≤ ds 0) (hk1 : 1 ≤ k) (hk : k ≤ 60) (hdp : -100000 ≤ dp ∧ dp ≤ 100000) :
    Calls Tryz.prog 103 #[.pointer (some ⟨b, 0, none⟩), .int .i64 (-(k : Int))] w fun e w' => e = .returned (.tuple #[]) ∧
      (∃ (m r n : Nat) (tr' : Bool) (ds' : Nat → Nat), 1 ≤ m ∧ m ≤ 800 ∧ Lead (2 ^ k) (ds 0 - 48) r n ∧ 2 ^ k ≤ n ∧ ds' 0 = 48 + n / 2 ^ k ∧ Dec w' b m (dp - (r - 1)) ng tr' ds' ∧ DOk m ds') ∧ Kept (· = b) w w' := by
  have c0 := h.cnd
  have hnz : ((nd : Int) == 0) = false := by simp; omega
  have HD := Lib.hid h
  have HOK := Lib.hid hok
  have HL := Lib.hid hl
  clear h hok hl
  go_enter Tryz.func103, Tryz.ntmps103
  go_wp2_with fail
  go_loopw [1] (fun k' wr => k' = .int .i64 (-(k : Int)) ∧ w = wr) (fun _ _ => 0)
  case atStart => exact ⟨rfl, rfl⟩
  case round =>
    obtain ⟨rfl, rfl⟩ := hrel
    go_wp2_with fail
    refine (rightShift_any _ b nd k dp ng tr ds HD.out HOK.out h1 hn HL.out hk1 hk hdp).mono ?_
    rintro e w1 ⟨rfl, hpost, hkp⟩
    have HP := Lib.hid hpost
    have HKP := Lib.hid hkp
    clear hpost hkp
    go_wp2_with fail
    exact ⟨rfl, .tuple #[], by simp [results, Tryz.results103, go_sem], rfl, HP.out, HKP.out⟩

theorem and2047 (x : Nat) (hx : x < 18446744073709551616) : bits .and .i64 (x : Int) 2047 = ((x % 2048 : Nat) : Int) := by
  have hb : bits .and .i64 (x : Int) 2047 = IntKind.i64.wrap ((BitVec.ofInt 64 (x : Int) &&& BitVec.ofInt 64 2047).toNat) := rfl
  have h1 : (BitVec.ofInt 64 (x : Int)).toNat = x := by
    simp
    omega
  have h2 : (BitVec.ofInt 64 2047).toNat = 2 ^ 11 - 1 := by decide
  rw [hb, BitVec.toNat_and, h1, h2, Nat.and_two_pow_sub_one_eq_mod, IntKind.wrap_i64]
  omega

theorem bitLen53 (x : Nat) (h0 : 4503599627370496 ≤ x) (h1 : x < 9007199254740992) : Lib.bitLen x = 53 := by
  rw [Lib.bitLen_shift 52 x (by simpa using h0) (by omega)]
  have : x / 2 ^ 52 = 1 := by
    have e : (2 : Nat) ^ 52 = 4503599627370496 := by decide
    rw [e]
    omega
  rw [this]
  decide

theorem or52 (x : Nat) (h : x < 4503599627370496) : bits .or .u64 (x : Int) 4503599627370496 = ((x + 4503599627370496 : Nat) : Int) := by
  have hb : bits .or .u64 (x : Int) 4503599627370496 = IntKind.u64.wrap ((BitVec.ofInt 64 (x : Int) ||| BitVec.ofInt 64 4503599627370496).toNat) := rfl
  have h1 : (BitVec.ofInt 64 (x : Int)).toNat = x := by
    simp
    omega
  have h2 : (BitVec.ofInt 64 4503599627370496).toNat = 2 ^ 52 * 1 := by decide
  have h3 : x ||| 2 ^ 52 * 1 = 2 ^ 52 * 1 + x := by
    rw [Nat.or_comm]
    exact (Nat.two_pow_add_eq_or_of_lt (by simpa using h) 1).symm
  rw [hb, BitVec.toNat_or, h1, h2, h3, IntKind.wrap_u64]
  omega

theorem rep_at (n : Nat) (x : Value) (t : List Value) (j : Nat) (hj : j < n) : (List.replicate n x ++ t)[j]? = some x := by
  rw [List.getElem?_append_left (by rw [List.length_replicate]; exact hj), List.getElem?_replicate, if_pos hj]

theorem rep_tail (n : Nat) (x : Value) (t : List Value) (i : Nat) : (List.replicate n x ++ t)[n + i]? = t[i]? := by
  rw [List.getElem?_append_right (by rw [List.length_replicate]; omega), List.length_replicate, Nat.add_sub_cancel_left]

def tail186 : List Value := [.int .i64 0, .int .i64 0, .bool false, .bool false]

theorem zero186 : Tryz.zeroCells186 = (List.replicate 800 (Value.int .u8 0) ++ tail186).toArray := by kernel_rfl

theorem Dec.new (w : World) (T : TypeId) : Dec (w.alloc (.cells Tryz.zeroCells186 T)) w.heap.size 0 0 false false (fun _ => 0) := by
  have hb : Blk (w.alloc (.cells Tryz.zeroCells186 T)) w.heap.size Tryz.zeroCells186 T := Blk.new w _ T
  have hc : ∀ j, (w.alloc (.cells Tryz.zeroCells186 T)).cell? ⟨w.heap.size, j, none⟩ = (List.replicate 800 (Value.int .u8 0) ++ tail186)[j]? := by
    intro j
    rw [hb.cell j, zero186, List.getElem?_toArray]
  refine ⟨fun j hj => ?_, ?_, ?_, ?_, ?_, fun j _ => hb.frozen j⟩
  · rw [hc j, rep_at 800 _ _ j hj]
    rfl
  · exact (hc 800).trans (rep_tail 800 _ tail186 0)
  · exact (hc 801).trans (rep_tail 800 _ tail186 1)
  · exact (hc 802).trans (rep_tail 800 _ tail186 2)
  · exact (hc 803).trans (rep_tail 800 _ tail186 3)

theorem Dec.digs {w : World} {b nd : Nat} {dp : Int} {ng tr : Bool} {ds : Nat → Nat} (h : Dec w b nd dp ng tr ds) (hok : DOk nd ds) (hn : nd ≤ 800) : Digs w b nd :=
  fun j hj => ⟨ds j, h.dig j (by omega), hok j hj⟩

theorem Efg.begin {w w1 : World} {base sb nd : Nat} {v0 : Value} (hown : w.ownsRow base 5 1 v0 0 []) (hk : Kept (fun _ => False) w w1) (hb : base ≤ w.heap.size) (hsb : sb < w1.heap.size) (hd : Digs w1 sb nd) (hne : v0.ownBlock ≠ some sb) :
    Efg w1 w1 base sb nd v0 [] :=
  ⟨hk.own hown (fun _ _ h => h), hne, hd, Below.refl _ _, Nat.le_refl _, by have := hk.size; omega, hsb⟩

set_option maxRecDepth 100000 in
set_option maxHeartbeats 4000000 in
theorem ftoa_zero (r base : Nat) (v0 : Value) (w : World) (hr : r < 18446744073709551616) (hE : r / 4503599627370496 % 2048 = 0) (hown : w.ownsRow base 5 1 v0 0 []) (hb : base ≤ w.heap.size) (hb3 : 3 ≤ base) (hg : Gl w) :
    Calls Tryz.prog 81 #[v0, .float .f64 r, .int .u8 102, .int .i64 12] w fun e w' => RetShape base w' e ∧ Below base w w' := by
  have hx := run_f64bits r
  have hopt := hg.opt
  have HG := Lib.hid hg
  have HO := Lib.hid hown
  clear hg hown
  obtain ⟨M, hM⟩ : ∃ M, M = r % 4503599627370496 := ⟨_, rfl⟩
  have ha1 : bits .and .i64 ((r : Int) / 4503599627370496) 2047 = 0 := by
    have h := and2047 (r / 4503599627370496) (by omega)
    rw [hE] at h
    exact h
  have ha2 : bits .and .u64 (r : Int) 4503599627370495 = (M : Int) := by
    have h := and_mask r 52 (by omega) hr
    rw [hM]
    exact h
  have hM1 : M < 4503599627370496 := by rw [hM]; exact Nat.mod_lt _ (by decide)
  clear hE hM
  go_enter Tryz.func81, Tryz.ntmps81
  go_wp2_with fail
  go_quiet (fail)
  by_cases hM0 : M = 0
  · have hz : ((M : Int) == 0) = true := by simp; omega
    go_wp2_with fail
    have hlt : 2 < w.heap.size := World.block_lt_of_cell? _ _ hopt
    refine (fmtF_any _ base 2 0 0 0 0 v0 none _ (Efg.begin HO.out ((Kept.refl _ w).drewN _) hb (by exact hlt) (fun j hj => by omega) (fun e => by have := (HO.out.lt _ e).1; omega)) (by omega) (by omega) (by omega) (by omega) (by omega)).mono ?_
    rintro e w1 ⟨hs, hb1⟩
    have HS := Lib.hid hs
    obtain ⟨v1, xs, rfl, ho1, hsh⟩ := hs
    obtain ⟨na, nc, rfl⟩ := own_form ho1
    clear ho1 hsh
    go_wp2_with fail
    go_ret
    exact ⟨HS.out, (((Kept.refl (fun _ => False) w).drewN _).below (fun _ h => h.elim) hb).trans hb1⟩
  · have hz : ((M : Int) == 0) = false := by simp; omega
    go_wp2_with fail
    refine (log10Pow2_any _ (by omega) (by omega) _).mono ?_
    rintro e w1 ⟨rfl, rfl⟩
    go_wp2_with fail
    have hkw := ((Kept.refl (fun _ => False) w).drewN nq).alloc (.cells (Array.replicate 24 (.int .u8 0)) 181)
    refine (fmtF_any _ base w.heap.size 0 24 24 0 v0 (some ⟨w.heap.size, 0, none⟩) _ (Efg.begin HO.out hkw hb (by simp) (fun j hj => by omega) (fun e => by have := (HO.out.lt _ e).2; omega)) (by omega) (by omega) (by omega) (by omega) (fun _ => rfl)).mono ?_
    rintro e w1 ⟨hs, hb1⟩
    have HS := Lib.hid hs
    obtain ⟨v1, xs, rfl, ho1, hsh⟩ := hs
    obtain ⟨na, nc, rfl⟩ := own_form ho1
    clear ho1 hsh
    go_wp2_with fail
    go_ret
    exact ⟨HS.out, (hkw.below (fun _ h => h.elim) hb).trans hb1⟩

set_option maxRecDepth 100000 in
set_option maxHeartbeats 4000000 in
theorem ftoa_norm (r base : Nat) (v0 : Value) (w : World) (hr : r < 18446744073709551616) (hE1 : 1 ≤ r / 4503599627370496 % 2048) (hE2 : r / 4503599627370496 % 2048 ≤ 1069) (hown : w.ownsRow base 5 1 v0 0 []) (hb : base ≤ w.heap.size) (hb3 : 3 ≤ base) (hg : Gl w) :
    Calls Tryz.prog 81 #[v0, .float .f64 r, .int .u8 102, .int .i64 12] w fun e w' => RetShape base w' e ∧ Below base w w' := by
  have hx := run_f64bits r
  have hopt := hg.opt
  have HG := Lib.hid hg
  have HO := Lib.hid hown
  clear hg hown
  obtain ⟨E, hE⟩ : ∃ E, E = r / 4503599627370496 % 2048 := ⟨_, rfl⟩
  obtain ⟨M0, hM⟩ : ∃ M, M = r % 4503599627370496 := ⟨_, rfl⟩
  have ha1 : bits .and .i64 ((r : Int) / 4503599627370496) 2047 = (E : Int) := by
    have h := and2047 (r / 4503599627370496) (by omega)
    rw [← hE] at h
    rw [← h]
    congr 1
  have ha2 : bits .and .u64 (r : Int) 4503599627370495 = (M0 : Int) := by
    have h := and_mask r 52 (by omega) hr
    rw [hM]
    exact h
  have hM1 : M0 < 4503599627370496 := by rw [hM]; exact Nat.mod_lt _ (by decide)
  obtain ⟨M, hMM⟩ : ∃ M, M = M0 + 4503599627370496 := ⟨_, rfl⟩
  have ha3 : bits .or .u64 (M0 : Int) 4503599627370496 = (M : Int) := by
    have h := or52 M0 hM1
    rw [← hMM] at h
    exact h
  have hMl : 4503599627370496 ≤ M ∧ M < 9007199254740992 := by omega
  have hz : ((M : Int) == 0) = false := by simp; omega
  have hbl : Lib.bitLen M = 53 := bitLen53 M hMl.1 hMl.2
  obtain ⟨M2, hM2⟩ : ∃ M2 : Nat, (M : Int) * 2048 = (M2 : Int) := ⟨M * 2048, by omega⟩
  rw [← hE] at hE1 hE2
  have hE3 : ((E : Int) == 2047) = false := by simp; omega
  have hE4 : ((E : Int) == 0) = false := by simp; omega
  clear hE hM hMM hM1
  go_enter Tryz.func81, Tryz.ntmps81
  go_wp2_with fail
  go_quiet (fail)
  by_cases hge : 1023 ≤ E
  · go_wp2_with fail
    refine (log10Pow2_any _ (by omega) (by omega) _).mono ?_
    rintro e w1 ⟨rfl, rfl⟩
    obtain ⟨L, hL⟩ : ∃ L : Nat, ((1 + ((E : Int) + -1023)) * 78913 / 262144) = (L : Int) := ⟨((1 + ((E : Int) + -1023)) * 78913 / 262144).toNat, by omega⟩
    by_cases hd : L ≤ 5
    · obtain ⟨n, hn⟩ : ∃ n : Nat, 1 + (L : Int) + 12 = (n : Int) := ⟨13 + L, by omega⟩
      go_wp2_with fail
      refine (Tryz.bits_Len64 (M : Int) _ (by omega) (by omega)).mono ?_
      rintro e w1 ⟨rfl, rfl⟩
      go_wp2_with fail
      have hkw := Lib.hid (((Kept.refl (fun _ => False) w).drewN nq).alloc (.cells (Array.replicate 24 (.int .u8 0)) 181))
      refine (fixedWidth_any M2 _ n _ (by omega) (by omega) (by omega) (by omega) (by omega) (HG.out.below (hkw.out.below (fun _ h => h.elim) (Nat.le_refl _)))).mono ?_
      rintro e w2 ⟨⟨d, p, rfl, hd64, hp1, hp2⟩, hb2⟩
      have hbuf := Lib.hid ((Buf.new (w.drewN nq) 181).kept (Kept.ofBelow (S := fun _ => False) hb2 (fun k h1 h2 => by omega)) (fun h => h))
      have hk2 := Lib.hid (hkw.out.trans (Kept.ofBelow (S := fun _ => False) hb2 (fun k h1 h2 => by omega)) (fun _ _ h => h))
      have hs2 := hb2.size
      simp at hs2
      clear hb2
      by_cases hd0 : d = 0
      · subst hd0
        go_wp2_with fail
        refine (fmtF_any _ base w.heap.size 0 24 24 0 v0 (some ⟨w.heap.size, 0, none⟩) _ (Efg.begin HO.out hk2.out hb (by omega) (fun j hj => by omega) (fun e => by have := (HO.out.lt _ e).2; omega)) (by omega) (by omega) (by omega) (by omega) (fun _ => rfl)).mono ?_
        rintro e w3 ⟨hs, hb3⟩
        have HS := Lib.hid hs
        obtain ⟨v1, xs, rfl, ho1, hsh⟩ := hs
        obtain ⟨na, nc, rfl⟩ := own_form ho1
        clear ho1 hsh
        go_wp2_with fail
        go_ret
        exact ⟨HS.out, (hk2.out.below (fun _ h => h.elim) hb).trans hb3⟩
      · have hdz : ((d : Int) != 0) = true := by simp; omega
        have hg2 := Lib.hid ((HG.out.below (hk2.out.below (fun _ h => h.elim) (Nat.le_refl _))).below (w' := w2.drew) ⟨rfl, rfl, rfl, Nat.le_refl _, fun _ _ => rfl⟩)
        go_wp2_with fail
        go_region_with (first
          | (go_at_call 99; refine (Tryz.internal_strconv_numDigits d (by omega) hd64 _ ?_).mono ?_; exact hg2.out.p10; rintro e w3 ⟨rfl, rfl⟩)
          | (go_at_call 98; refine (setDigits_any w.heap.size d p _ ?_ (by omega) hd64 ⟨hp1, hp2⟩).mono ?_; exact (fun j hj => ⟨hbuf.out.cell j hj, hbuf.out.fr j hj⟩); rintro e w3 ⟨⟨dp, nd, rfl, hq1, hq2, hq3, hdg⟩, hk3⟩; have HK3 := Lib.hid hk3; have HDG := Lib.hid hdg; clear hk3 hdg))
        all_goals
          have hs3 := HK3.out.size
          go_wp2_with fail
          have hk23 := Lib.hid ((hk2.out.drew.mono (S' := (· = w.heap.size)) (fun _ _ h => h.elim)).trans HK3.out (fun _ _ h => h))
          have hown3 : w3.ownsRow base 5 1 v0 0 [] := hk23.out.own HO.out (fun k e h => by have := (HO.out.lt k e).2; omega)
          refine (fmtF_any _ base w.heap.size nd 24 24 dp v0 (some ⟨w.heap.size, 0, none⟩) _ ⟨hown3, fun e => by have := (HO.out.lt _ e).2; omega, HDG.out, Below.refl _ _, Nat.le_refl _, by have := hk23.out.size; omega, by have : w2.drew.heap.size = w2.heap.size := rfl; omega⟩ (by omega) (by omega) (by omega) (by omega) (fun _ => rfl)).mono ?_
          rintro e w4 ⟨hs, hb4⟩
          have HS := Lib.hid hs
          obtain ⟨v1, xs, rfl, ho1, hsh⟩ := hs
          obtain ⟨na, nc, rfl⟩ := own_form ho1
          clear ho1 hsh
          go_wp2_with fail
          go_ret
          exact ⟨HS.out, (hk23.out.below (fun _ h => by omega) hb).trans hb4⟩
    · obtain ⟨k, hk⟩ : ∃ k : Nat, (E : Int) + -1023 - 52 = -(k : Int) := ⟨1075 - E, by omega⟩
      have hk6 : 1 ≤ k ∧ k ≤ 60 := by omega
      go_wp2_with fail
      have hk0 := Lib.hid (((Kept.refl (fun _ => False) w).drewN nq).alloc (.cells Tryz.zeroCells186 186))
      refine (assign_any _ w.heap.size M 0 false false _ 0 (Dec.new (w.drewN nq) 186) (by omega) (by omega)).mono ?_
      rintro e w1 ⟨rfl, ⟨m, nn, ds, hm1, hm2, hm3, hd1, hok1, hl1⟩, hkp1⟩
      have hk1 := Lib.hid ((hk0.out.mono (S' := (· = w.heap.size)) (fun _ _ h => h.elim)).trans hkp1 (fun _ _ h => h))
      have HD1 := Lib.hid hd1
      have HO1 := Lib.hid hok1
      clear hkp1 hd1 hok1
      go_wp2_with fail
      refine (shiftNeg_any _ w.heap.size m k nn false false ds HD1.out HO1.out hm1 (by omega) hl1 hk6.1 hk6.2 (by omega)).mono ?_
      rintro e w2 ⟨rfl, ⟨m2, r2, n2, tr2, ds2, hn1, hn2, hle, hn3, hn4, hd2, hok2⟩, hkp2⟩
      have hfew := hle.few (by have : 2 ^ k ≤ 2 ^ 60 := Nat.pow_le_pow_right (by decide) hk6.2
                               have h60 : (2 : Nat) ^ 60 = 1152921504606846976 := by decide
                               omega)
      have hr2 : 1 ≤ r2 := by
        have hpk : 0 < 2 ^ k := Nat.pow_pos (by decide)
        rcases hle with ⟨_, h⟩ | ⟨h, _⟩ <;> omega
      have hk2 := Lib.hid (hk1.out.trans hkp2 (fun _ _ h => h))
      have c1 := hd2.cdp
      have HD2 := Lib.hid hd2
      have HO2 := Lib.hid hok2
      clear hkp2 hd2 hok2 hle hn3 hn4
      go_wp2_with fail
      refine (round_any _ w.heap.size m2 _ _ false tr2 ds2 HD2.out HO2.out hn2 (by omega)).mono ?_
      rintro e w3 ⟨rfl, ⟨m3, dp3, ds3, hm3', hdp3, hd3, hok3⟩, hkp3⟩
      have hk3 := Lib.hid (hk2.out.trans hkp3 (fun _ _ h => h))
      have c2 := hd3.cdp
      have c3 := hd3.cnd
      have HD3 := Lib.hid hd3
      have HO3 := Lib.hid hok3
      have hdpb : -1000 ≤ dp3 ∧ dp3 ≤ 17 := by omega
      clear hkp3 hd3 hok3 hdp3
      go_wp2_with fail
      have hown3 : w3.ownsRow base 5 1 v0 0 [] := hk3.out.own HO.out (fun k e h => by have := (HO.out.lt k e).2; omega)
      have hsz3 := hk3.out.size
      have hlt3 := HD3.out.lt
      have HE3 := Lib.hid (show Efg w3.drew w3.drew base w.heap.size m3 v0 [] from
        ⟨((Kept.refl (fun _ => False) w3).drew).own hown3 (fun _ _ h => h), fun e => by have := (HO.out.lt _ e).2; omega, (HD3.out.drew).digs HO3.out (by omega), Below.refl _ _, Nat.le_refl _, by have : w3.drew.heap.size = w3.heap.size := rfl; omega, hlt3⟩)
      clear hown3
      go_region_with ((go_at_call 95; refine (fmtF_any _ base w.heap.size m3 800 800 dp3 v0 (some ⟨w.heap.size, 0, none⟩) _ HE3.out hdpb (by omega) (by omega) (by omega) (fun _ => rfl)).mono ?_; rintro e w4 ⟨hs, hb4⟩; have HS := Lib.hid hs; have HB4 := Lib.hid hb4; obtain ⟨v1, xs, rfl, ho1, hsh⟩ := hs; obtain ⟨na, nc, rfl⟩ := own_form ho1; clear ho1 hsh hb4))
      all_goals
        go_wp2_with fail
        go_ret
        exact ⟨HS.out, ((hk3.out.drew).below (fun _ h => by omega) hb).trans HB4.out⟩
  · go_wp2_with fail
    refine (log10Pow2_any _ (by omega) (by omega) _).mono ?_
    rintro e w1 ⟨rfl, rfl⟩
    obtain ⟨L, hL⟩ : ∃ L : Nat, ((-((E : Int) + -1023)) * 78913 / 262144) = (L : Int) := ⟨((-((E : Int) + -1023)) * 78913 / 262144).toNat, by omega⟩
    by_cases hd : L ≤ 12
    · obtain ⟨n, hn⟩ : ∃ n : Nat, 13 - (L : Int) = (n : Int) := ⟨13 - L, by omega⟩
      go_wp2_with fail
      refine (Tryz.bits_Len64 (M : Int) _ (by omega) (by omega)).mono ?_
      rintro e w1 ⟨rfl, rfl⟩
      go_wp2_with fail
      have hkw := Lib.hid (((Kept.refl (fun _ => False) w).drewN nq).alloc (.cells (Array.replicate 24 (.int .u8 0)) 181))
      refine (fixedWidth_any M2 _ n _ (by omega) (by omega) (by omega) (by omega) (by omega) (HG.out.below (hkw.out.below (fun _ h => h.elim) (Nat.le_refl _)))).mono ?_
      rintro e w2 ⟨⟨d, p, rfl, hd64, hp1, hp2⟩, hb2⟩
      have hbuf := Lib.hid ((Buf.new (w.drewN nq) 181).kept (Kept.ofBelow (S := fun _ => False) hb2 (fun k h1 h2 => by omega)) (fun h => h))
      have hk2 := Lib.hid (hkw.out.trans (Kept.ofBelow (S := fun _ => False) hb2 (fun k h1 h2 => by omega)) (fun _ _ h => h))
      have hs2 := hb2.size
      simp at hs2
      clear hb2
      by_cases hd0 : d = 0
      · subst hd0
        go_wp2_with fail
        refine (fmtF_any _ base w.heap.size 0 24 24 0 v0 (some ⟨w.heap.size, 0, none⟩) _ (Efg.begin HO.out hk2.out hb (by omega) (fun j hj => by omega) (fun e => by have := (HO.out.lt _ e).2; omega)) (by omega) (by omega) (by omega) (by omega) (fun _ => rfl)).mono ?_
        rintro e w3 ⟨hs, hb3⟩
        have HS := Lib.hid hs
        obtain ⟨v1, xs, rfl, ho1, hsh⟩ := hs
        obtain ⟨na, nc, rfl⟩ := own_form ho1
        clear ho1 hsh
        go_wp2_with fail
        go_ret
        exact ⟨HS.out, (hk2.out.below (fun _ h => h.elim) hb).trans hb3⟩
      · have hdz : ((d : Int) != 0) = true := by simp; omega
        have hg2 := Lib.hid ((HG.out.below (hk2.out.below (fun _ h => h.elim) (Nat.le_refl _))).below (w' := w2.drew) ⟨rfl, rfl, rfl, Nat.le_refl _, fun _ _ => rfl⟩)
        go_wp2_with fail
        go_region_with (first
          | (go_at_call 99; refine (Tryz.internal_strconv_numDigits d (by omega) hd64 _ ?_).mono ?_; exact hg2.out.p10; rintro e w3 ⟨rfl, rfl⟩)
          | (go_at_call 98; refine (setDigits_any w.heap.size d p _ ?_ (by omega) hd64 ⟨hp1, hp2⟩).mono ?_; exact (fun j hj => ⟨hbuf.out.cell j hj, hbuf.out.fr j hj⟩); rintro e w3 ⟨⟨dp, nd, rfl, hq1, hq2, hq3, hdg⟩, hk3⟩; have HK3 := Lib.hid hk3; have HDG := Lib.hid hdg; clear hk3 hdg))
        all_goals
          have hs3 := HK3.out.size
          go_wp2_with fail
          have hk23 := Lib.hid ((hk2.out.drew.mono (S' := (· = w.heap.size)) (fun _ _ h => h.elim)).trans HK3.out (fun _ _ h => h))
          have hown3 : w3.ownsRow base 5 1 v0 0 [] := hk23.out.own HO.out (fun k e h => by have := (HO.out.lt k e).2; omega)
          refine (fmtF_any _ base w.heap.size nd 24 24 dp v0 (some ⟨w.heap.size, 0, none⟩) _ ⟨hown3, fun e => by have := (HO.out.lt _ e).2; omega, HDG.out, Below.refl _ _, Nat.le_refl _, by have := hk23.out.size; omega, by have : w2.drew.heap.size = w2.heap.size := rfl; omega⟩ (by omega) (by omega) (by omega) (by omega) (fun _ => rfl)).mono ?_
          rintro e w4 ⟨hs, hb4⟩
          have HS := Lib.hid hs
          obtain ⟨v1, xs, rfl, ho1, hsh⟩ := hs
          obtain ⟨na, nc, rfl⟩ := own_form ho1
          clear ho1 hsh
          go_wp2_with fail
          go_ret
          exact ⟨HS.out, (hk23.out.below (fun _ h => by omega) hb).trans hb4⟩
    · go_wp2_with fail
      have hk2 := Lib.hid (((Kept.refl (fun _ => False) w).drewN nq).alloc (.cells (Array.replicate 24 (.int .u8 0)) 181))
      refine (fmtF_any _ base w.heap.size 0 24 24 0 v0 (some ⟨w.heap.size, 0, none⟩) _ (Efg.begin HO.out hk2.out hb (by simp) (fun j hj => by omega) (fun e => by have := (HO.out.lt _ e).2; omega)) (by omega) (by omega) (by omega) (by omega) (fun _ => rfl)).mono ?_
      rintro e w3 ⟨hs, hb3⟩
      have HS := Lib.hid hs
      obtain ⟨v1, xs, rfl, ho1, hsh⟩ := hs
      obtain ⟨na, nc, rfl⟩ := own_form ho1
      clear ho1 hsh
      go_wp2_with fail
      go_ret
      exact ⟨HS.out, (hk2.out.below (fun _ h => h.elim) hb).trans hb3⟩

end Go.Proofs.YtcpijmbdibgdmaaGreatDoor
