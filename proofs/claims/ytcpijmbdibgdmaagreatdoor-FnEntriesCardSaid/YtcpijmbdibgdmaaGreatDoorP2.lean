/-
  Small functions of the standard library's decimal conversion.
-/
import Derived.Test.YtcpijmbdibgdmaaGreatDoorG1
import Derived.Test.YtcpijmbdibgdmaaGreatDoorShelf
import Derived.BigQuiet
import Derived.BigRegion
import Derived.Deep.DeepMust
import Derived.Deep.QuietTactic
namespace Go.Proofs.YtcpijmbdibgdmaaGreatDoor
open Go Go.RowKit

theorem log10Pow2_any (x : Int) (h0 : -100000 ≤ x) (h1 : x ≤ 100000) (w : World) :
    Calls Tryz.prog 100 #[.int .i64 x] w fun e w' => e = .returned (.int .i64 (x * 78913 / 262144)) ∧ w = w' := by
  go_enter Tryz.func100, Tryz.ntmps100
  go_wp2_with fail
  go_ret
  exact ⟨rfl, rfl⟩

theorem log2Pow10_any (x : Int) (h0 : -100000 ≤ x) (h1 : x ≤ 100000) (w : World) :
    Calls Tryz.prog 136 #[.int .i64 x] w fun e w' => e = .returned (.int .i64 (x * 108853 / 32768)) ∧ w = w' := by
  go_enter Tryz.func136, Tryz.ntmps136
  go_wp2_with fail
  go_ret
  exact ⟨rfl, rfl⟩

theorem bool2u_any (x : Bool) (w : World) :
    Calls Tryz.prog 126 #[.bool x] w fun e w' => e = .returned (.int .u64 (if x then 1 else 0)) ∧ w = w' := by
  go_enter Tryz.func126, Tryz.ntmps126
  cases x
  · go_wp2
    go_ret
    simp
  · go_wp2
    go_ret
    simp

theorem bool2n_any (x : Bool) (w : World) :
    Calls Tryz.prog 169 #[.bool x] w fun e w' => e = .returned (.int .u64 (if x then 1 else 0)) ∧ w = w' := by
  go_enter Tryz.func169, Tryz.ntmps169
  cases x
  · go_wp2
    go_ret
    simp
  · go_wp2
    go_ret
    simp

theorem quiet_same {P : Program} {f : FuncId} {args : Array Value} {w : World} {n : Nat} {v : Value}
    (h : Calls P f args (w.drewN n) fun e w' => e = .returned v ∧ w.drewN n = w') : Calls P f args (w.drewN n) fun e w'' => e = .returned v ∧ ∃ m, w'' = w.drewN m :=
  h.mono fun _ _ ⟨he, hm⟩ => ⟨he, n, hm.symm⟩

/-- It returns a number of 64 bits. -/
def RetU (e : Ending) : Prop := ∃ n : Nat, e = .returned (.int .u64 n) ∧ n < 18446744073709551616

theorem wrapU (y : Int) : 0 ≤ IntKind.u64.wrap y ∧ IntKind.u64.wrap y < 18446744073709551616 := by
  rw [IntKind.wrap_u64]
  omega

theorem bitsU (op : BinOp) (x y : Int) : 0 ≤ bits op .u64 x y ∧ bits op .u64 x y < 18446744073709551616 := wrapU _

theorem divU (x : Int) (k : Nat) (h0 : 0 ≤ x) (h1 : x < 18446744073709551616) : 0 ≤ x / 2 ^ k ∧ x / 2 ^ k < 18446744073709551616 := by
  have hp : (0 : Int) < 2 ^ k := Int.pow_pos (by decide)
  have h2 := Int.ediv_le_self (b := 2 ^ k) h0
  exact ⟨Int.ediv_nonneg h0 (by omega), by omega⟩

theorem RetU.of {m : Int} (h0 : 0 ≤ m) (h1 : m < 18446744073709551616) : RetU (.returned (.int .u64 m)) := ⟨m.toNat, by rw [Int.toNat_of_nonneg h0], by omega⟩

theorem unmin_any (x : Nat) (w : World) : Calls Tryz.prog 144 #[.int .u64 x] w fun e w' => RetU e ∧ w = w' := by
  go_enter Tryz.func144, Tryz.ntmps144
  go_wp2_with fail
  go_ret
  have := wrapU (IntKind.u64.wrap (↑x * 4) - 2)
  exact ⟨RetU.of this.1 this.2, rfl⟩

theorem uround_any (x : Nat) (w : World) : Calls Tryz.prog 141 #[.int .u64 x] w fun e w' => RetU e ∧ w = w' := by
  go_enter Tryz.func141, Tryz.ntmps141
  go_wp2_with fail
  go_ret
  have := wrapU (IntKind.u64.wrap (↑x + 1) + bits BinOp.and IntKind.u64 (↑x / 4) 1)
  exact ⟨RetU.of (by omega) (by omega), rfl⟩

theorem udiv_any (x : Nat) (hx : x < 18446744073709551616) (w : World) : Calls Tryz.prog 145 #[.int .u64 x, .int .u64 10] w fun e w' => RetU e ∧ Kept (fun _ => False) w w' := by
  go_enter Tryz.func145, Tryz.ntmps145
  go_wp2_with fail
  go_quiet ((go_at_call 169; exact quiet_same (bool2n_any _ _)))
  go_wp2_with fail
  all_goals
    go_ret
    exact ⟨RetU.of (bitsU _ _ _).1 (bitsU _ _ _).2, (Kept.refl _ _).drewN _⟩

set_option maxHeartbeats 1000000 in
theorem prescale_any (b : Nat) (c0 c1 c2 : Value) (ex : Int) (k : Nat) (lp : Int) (w : World) (hb : Blk w b #[c0, c1, c2] 227) (hk : k < 696) (he : -100000 ≤ ex ∧ ex ≤ 100000) (hl : -100000 ≤ lp ∧ lp ≤ 100000) (hg : Gl w) :
    Calls Tryz.prog 135 #[.pointer (some ⟨b, 0, none⟩), .int .i64 ex, .int .i64 (k - 348), .int .i64 lp] w fun e w' => e = .returned (.tuple #[]) ∧
      (∃ hi lo : Nat, hi < 18446744073709551616 ∧ lo < 18446744073709551616 ∧ Blk w' b #[.int .u64 hi, .int .u64 lo, .int .i64 (-(ex + lp + 3))] 227) ∧ Kept (· = b) w w' := by
  obtain ⟨hi, h0, h1, h2⟩ := hg.tab (k * 2) (by omega)
  obtain ⟨lo, l0, l1, l2⟩ := hg.tab (k * 2 + 1) (by omega)
  have q0 := hb.cell 0
  have q1 := hb.cell 1
  have q2 := hb.cell 2
  simp at q0 q1 q2
  have f0 := hb.frozen 0
  have f1 := hb.frozen 1
  have f2 := hb.frozen 2
  have HB := Lib.hid hb
  clear hb hg
  obtain ⟨k', hk'⟩ : ∃ k' : Int, k' = (k : Int) - 348 := ⟨_, rfl⟩
  rw [← hk']
  have hk2 : (k' + 348).toNat = k := by omega
  go_enter Tryz.func135, Tryz.ntmps135
  go_wp2_with fail
  refine ⟨rfl, .tuple #[], by simp [results, Tryz.results135, go_sem], rfl, ⟨hi.toNat, lo.toNat, by omega, by omega, ?_⟩, (((Kept.refl (· = b) w).setCell _ _ (fun _ => rfl)).setCell _ _ (fun _ => rfl)).setCell _ _ (fun _ => rfl)⟩
  have h3 := ((HB.out.set 0 (.int .u64 hi)).set 1 (.int .u64 lo)).set 2 (.int .i64 (-(ex + lp + 3)))
  rw [Int.toNat_of_nonneg h1, Int.toNat_of_nonneg l1]
  simpa using h3

theorem and63 (x : Int) : 0 ≤ bits .and .i64 x 63 ∧ bits .and .i64 x 63 ≤ 63 := by
  have h : (BitVec.ofInt 64 x &&& BitVec.ofInt 64 63).toNat ≤ 63 := by
    rw [BitVec.toNat_and]
    exact Nat.and_le_right
  have e : bits .and .i64 x 63 = IntKind.i64.wrap ((BitVec.ofInt 64 x &&& BitVec.ofInt 64 63).toNat) := rfl
  rw [e, IntKind.wrap_i64]
  omega

/-- It returns two numbers of 64 bits. -/
def RetUU (e : Ending) : Prop := ∃ h l : Nat, e = .returned (.tuple #[.int .u64 h, .int .u64 l]) ∧ h < 18446744073709551616 ∧ l < 18446744073709551616

theorem mul64_any (x y : Nat) (hx : x < 18446744073709551616) (hy : y < 18446744073709551616) (w : World) :
    Calls Tryz.prog 168 #[.int .u64 x, .int .u64 y] w fun e w' => RetUU e ∧ w' = w :=
  (Tryz.bits_Mul64 x y hx hy w).mono fun _ _ h => ⟨⟨_, _, h.1, (Nat.div_lt_iff_lt_mul (by decide)).2 (Nat.mul_lt_mul'' hx hy), Nat.mod_lt _ (by decide)⟩, h.2⟩

set_option maxHeartbeats 1000000 in
theorem uscale_any (b : Nat) (x hi lo : Nat) (s : Int) (w : World) (hx : x < 18446744073709551616) (hh : hi < 18446744073709551616) (hl : lo < 18446744073709551616) (hb : Blk w b #[.int .u64 hi, .int .u64 lo, .int .i64 s] 227) :
    Calls Tryz.prog 137 #[.int .u64 x, .pointer (some ⟨b, 0, none⟩)] w fun e w' => RetU e ∧ Kept (fun _ => False) w w' := by
  have q0 := hb.cell 0
  have q1 := hb.cell 1
  have q2 := hb.cell 2
  simp at q0 q1 q2
  clear hb
  obtain ⟨S, hS⟩ : ∃ S, S = bits .and .i64 s 63 := ⟨_, rfl⟩
  have hS1 := and63 s
  rw [← hS] at hS1
  have hS' := hS.symm
  clear hS
  go_enter Tryz.func137, Tryz.ntmps137
  go_wp2_with (first | (go_at_call 168; refine (mul64_any _ _ hx (by assumption) _).mono ?_; rintro e w1 ⟨⟨mh, ml, rfl, hmh, hml⟩, rfl⟩) | (go_at_call 126; refine (bool2u_any _ _).mono ?_; rintro e w2 ⟨rfl, rfl⟩))
  all_goals first
    | (go_ret
       exact ⟨RetU.of (bitsU _ _ _).1 (bitsU _ _ _).2, Kept.refl _ _⟩)
    | (go_quiet ((go_at_call 126; exact quiet_same (bool2u_any _ _)))
       go_wp2_with fail
       all_goals
         go_ret
         exact ⟨RetU.of (bitsU _ _ _).1 (bitsU _ _ _).2, (Kept.refl _ _).drewN _⟩)

end Go.Proofs.YtcpijmbdibgdmaaGreatDoor

/-
  internal/strconv.fixedWidthFloat, setDigits.
-/
namespace Go.Proofs.YtcpijmbdibgdmaaGreatDoor
open Go Go.RowKit

theorem prescale_int (b : Nat) (c0 c1 c2 : Value) (ex p lp : Int) (w : World) (hb : Blk w b #[c0, c1, c2] 227) (hp : -348 ≤ p ∧ p ≤ 347) (he : -100000 ≤ ex ∧ ex ≤ 100000) (hl : -100000 ≤ lp ∧ lp ≤ 100000) (hg : Gl w) :
    Calls Tryz.prog 135 #[.pointer (some ⟨b, 0, none⟩), .int .i64 ex, .int .i64 p, .int .i64 lp] w fun e w' => e = .returned (.tuple #[]) ∧
      (∃ hi lo : Nat, hi < 18446744073709551616 ∧ lo < 18446744073709551616 ∧ Blk w' b #[.int .u64 hi, .int .u64 lo, .int .i64 (-(ex + lp + 3))] 227) ∧ Kept (· = b) w w' := by
  have h := prescale_any b c0 c1 c2 ex (p + 348).toNat lp w hb (by omega) he hl hg
  rw [show (((p + 348).toNat : Nat) : Int) - 348 = p by omega] at h
  exact h

/-- It returns a number of 64 bits and a small power. -/
def RetFw (e : Ending) : Prop := ∃ (d : Nat) (p : Int), e = .returned (.tuple #[.int .u64 d, .int .i64 p]) ∧ d < 18446744073709551616 ∧ -12 ≤ p ∧ p ≤ -11

set_option maxHeartbeats 2000000 in
theorem fixedWidth_any (m : Nat) (ex : Int) (n : Nat) (w : World) (hm : m < 18446744073709551616) (he : -50000 ≤ ex ∧ ex ≤ 50000) (hn : n ≤ 18) (hp : 12 ≤ (n : Int) - 1 - (ex + 63) * 78913 / 262144) (hp' : (n : Int) - 1 - (ex + 63) * 78913 / 262144 ≤ 13) (hg : Gl w) :
    Calls Tryz.prog 101 #[.int .u64 m, .int .i64 ex, .int .i64 n, .int .i64 12, .int .u8 102] w fun e w' => RetFw e ∧ Below w.heap.size w w' := by
  have HG := Lib.hid hg
  clear hg
  obtain ⟨P, hP⟩ : ∃ P, P = (n : Int) - 1 - (ex + 63) * 78913 / 262144 := ⟨_, rfl⟩
  rw [← hP] at hp hp'
  obtain ⟨L, hL⟩ : ∃ L, L = (ex + 63) * 78913 / 262144 := ⟨_, rfl⟩
  have hPL : (n : Int) - 1 - L = P := by rw [hP, hL]
  clear hP
  have HL := Lib.hid hL
  clear hL
  go_enter Tryz.func101, Tryz.ntmps101
  go_wp2_with fail
  refine (log10Pow2_any _ (by omega) (by omega) _).mono ?_
  rintro e w1 ⟨rfl, rfl⟩
  rw [← HL.out]
  go_wp2_with (first | (go_at_call 136; refine (log2Pow10_any _ (by omega) (by omega) _).mono ?_; rintro e w1 ⟨rfl, rfl⟩))
  have hb0 := Blk.new w #[.int .u64 0, .int .u64 0, .int .i64 0] 227
  refine (prescale_int _ _ _ _ _ _ _ _ hb0 (by omega) (by omega) (by omega) (HG.out.below ((Below.refl _ _).alloc (Nat.le_refl _) _))).mono ?_
  rintro e w1 ⟨rfl, ⟨hi, lo, hhi, hlo, hb1⟩, hk1⟩
  have HW1 := Lib.hid (((Below.refl w.heap.size w).alloc (Nat.le_refl _) (.cells #[.int .u64 0, .int .u64 0, .int .i64 0] 227)).trans (hk1.below (fun k e => by omega) (by simp)))
  have hs1 := hk1.size
  simp at hs1
  clear hk1 hb0
  go_wp2_with fail
  refine (uscale_any _ m hi lo _ _ hm hhi hlo hb1).mono ?_
  rintro e w2 ⟨⟨u, rfl, hu⟩, hk2⟩
  have HW2 := Lib.hid (HW1.out.trans (hk2.below (fun k e => e.elim) (by omega)))
  have hs2 := hk2.size
  have hc := (HG.out.below HW2.out).p10_cell n (by omega)
  clear hb1 hk2
  go_wp2_with fail
  refine (unmin_any _ _).mono ?_
  rintro e w3 ⟨⟨um, rfl, hum⟩, rfl⟩
  by_cases hge : um ≤ u
  · go_wp2_with fail
    refine (udiv_any u hu _).mono ?_
    rintro e w4 ⟨⟨u4, rfl, hu4⟩, hk4⟩
    have hs4 := hk4.size
    have HW4 := Lib.hid (HW2.out.trans (hk4.below (fun k e => e.elim) (by omega)))
    clear hk4
    go_wp2_with fail
    go_loopw [11, 13] (fun p' u' wr => ∃ (q : Int) (x : Nat), p' = .int .i64 q ∧ u' = .int .u64 x ∧ x < 18446744073709551616 ∧ 11 ≤ q ∧ q ≤ 13 ∧ Below w.heap.size w wr ∧ w.heap.size ≤ wr.heap.size) (fun p' _ _ => (intOf p' - 11).toNat)
    case atStart => exact ⟨_, _, rfl, rfl, by assumption, by omega, by omega, HW4.out, by omega⟩
    case round =>
      obtain ⟨q, x, rfl, rfl, hx, hq1, hq2, hbw, hsw⟩ := hrel
      have HBW := Lib.hid hbw
      clear hbw
      by_cases hlt : 12 < q
      · go_wp2_with fail
        refine (udiv_any x hx _).mono ?_
        rintro e w5 ⟨⟨y, rfl, hy⟩, hk5⟩
        have hs5 := hk5.size
        have HBW5 := Lib.hid (HBW.out.trans (hk5.below (fun k e => e.elim) hsw))
        clear hk5
        go_wp2_with fail
        go_roundw
        case rel => exact ⟨_, _, rfl, rfl, hy, by omega, by omega, HBW5.out, by omega⟩
        case measure => simp [intOf]; omega
      · go_wp2_with fail
        refine (uround_any x _).mono ?_
        rintro e w5 ⟨⟨y, rfl, hy⟩, rfl⟩
        go_wp2_with fail
        go_ret2
        exact ⟨⟨_, _, rfl, hy, by omega, by omega⟩, HBW.out⟩
  · go_wp2_with fail
    go_loopw [11, 13] (fun p' u' wr => ∃ (q : Int) (x : Nat), p' = .int .i64 q ∧ u' = .int .u64 x ∧ x < 18446744073709551616 ∧ 11 ≤ q ∧ q ≤ 13 ∧ Below w.heap.size w wr ∧ w.heap.size ≤ wr.heap.size) (fun p' _ _ => (intOf p' - 11).toNat)
    case atStart => exact ⟨_, _, rfl, rfl, by assumption, by omega, by omega, HW2.out, by omega⟩
    case round =>
      obtain ⟨q, x, rfl, rfl, hx, hq1, hq2, hbw, hsw⟩ := hrel
      have HBW := Lib.hid hbw
      clear hbw
      by_cases hlt : 12 < q
      · go_wp2_with fail
        refine (udiv_any x hx _).mono ?_
        rintro e w5 ⟨⟨y, rfl, hy⟩, hk5⟩
        have hs5 := hk5.size
        have HBW5 := Lib.hid (HBW.out.trans (hk5.below (fun k e => e.elim) hsw))
        clear hk5
        go_wp2_with fail
        go_roundw
        case rel => exact ⟨_, _, rfl, rfl, hy, by omega, by omega, HBW5.out, by omega⟩
        case measure => simp [intOf]; omega
      · go_wp2_with fail
        refine (uround_any x _).mono ?_
        rintro e w5 ⟨⟨y, rfl, hy⟩, rfl⟩
        go_wp2_with fail
        go_ret2
        exact ⟨⟨_, _, rfl, hy, by omega, by omega⟩, HBW.out⟩

end Go.Proofs.YtcpijmbdibgdmaaGreatDoor
