/-
  internal/strconv: special, atof64exact, pack64, parseFloat64: what kind of thing they return.
-/
import Derived.Test.YtcpijmbdibgdmaaGreatDoorN2
import Derived.Test.YtcpijmbdibgdmaaGreatDoorP2
import Derived.Laws.Externs
import Derived.Deep.RegionWith
namespace Go.Proofs.YtcpijmbdibgdmaaGreatDoor
open Go Go.RowKit

theorem run_f64of (n : Int) (w : World) : (callFunc 127 #[.int .u64 n]).run Tryz.prog w = .ok (.value (.float .f64 n.toNat)) w := by
  rw [run_callFunc_extern Tryz.func127 (by kernel_rfl) (by kernel_rfl) (by kernel_rfl) (e := Extern.MathFloatBits.float64frombits) (by kernel_rfl)]
  rfl

@[go_sem] theorem unary_negf (k : FloatKind) (b : Nat) : Op.unary .neg (.float k b) = pure (.float k (Op.negFloat k b)) := rfl

set_option maxRecDepth 100000 in
theorem prefix_dig (s t : ByteArray) (hs : 8 ≤ s.size) (hs2 : s.size ≤ 100) (ht : 3 ≤ t.size) (ht2 : t.size ≤ 8) (h1 : s[0].toNat ≤ 57) (h2 : 97 ≤ t[0].toNat) (w : World) :
    Calls Tryz.prog 158 #[.string s, .string t] w fun e w' => e = .returned (.int .i64 0) ∧ w = w' := by
  have hm : min (t.size : Int) (s.size : Int) = (t.size : Int) := by omega
  have hne : ((s[0].toNat : Int) != (t[0].toNat : Int)) = true := by simp; omega
  go_enter Tryz.func158, Tryz.ntmps158
  go_wp2_with fail
  go_loop [6] (fun a6 => a6 = .int .i64 0) (fun _ => 0)
  case atStart => rfl
  case round =>
    subst hrel
    go_wp2_with fail
    go_ret
    exact ⟨rfl, rfl⟩

set_option maxRecDepth 100000 in
theorem special_dig (s : ByteArray) (p kk : Nat) (h : Num s p kk) (w : World) :
    Calls Tryz.prog 117 #[.string s] w fun e w' => e = .returned (.tuple #[.float .f64 0, .int .i64 0, .bool false]) ∧ w = w' := by
  have hsz := h.size
  have hk1 := h.k1
  have hk17 := h.k17
  have hp1 := h.p1
  have l0 : 0 < s.size := by omega
  have l1 : 1 < s.size := by omega
  have hne : ¬ s = ByteArray.empty := by
    rintro rfl
    simp at l0
  have hsz1 : p + kk + 13 ≤ s.size := by omega
  have hsz2 : s.size ≤ p + kk + 13 := by omega
  have HSZ := Lib.hid hsz
  clear hsz
  rcases (show p = 0 ∨ p = 1 by omega) with hp | hp
  · have hd0 := h.dig 0 l0 (by omega) (by omega)
    have q43 : ((s[0].toNat : Int) == 43) = false := by simp; omega
    have q45 : ((s[0].toNat : Int) == 45) = false := by simp; omega
    have q1 : ((s[0].toNat : Int) == 105) = false := by simp; omega
    have q2 : ((s[0].toNat : Int) == 73) = false := by simp; omega
    have q3 : ((s[0].toNat : Int) == 110) = false := by simp; omega
    have q4 : ((s[0].toNat : Int) == 78) = false := by simp; omega
    clear h hp
    go_enter Tryz.func117, Tryz.ntmps117
    go_wp2_with fail
    go_ret3
    exact ⟨rfl, rfl⟩
  · have hs0 := h.sign l0 hp
    have hd0 := h.dig 1 l1 (by omega) (by omega)
    have q43 : ((s[0].toNat : Int) == 43) = false := by simp; omega
    have q45 : ((s[0].toNat : Int) == 45) = true := by simp; omega
    clear hs0 h hp
    go_enter Tryz.func117, Tryz.ntmps117
    have hz : ((s.size : Int) == 0) = false := by simp; omega
    have HX := Lib.hid (show (s.extract 1 s.size).size = s.size - 1 by simp)
    have hX0 : 0 < (s.extract 1 s.size).size := by rw [HX.out]; omega
    have HX1 := Lib.hid (show (s.extract 1 s.size)[0].toNat = s[1].toNat by simp [ByteArray.getElem_extract])
    go_wp2_with (go_at_call 158; go_must (refine (prefix_dig _ ⟨#[105, 110, 102, 105, 110, 105, 116, 121]⟩ (by rw [HX.out]; omega) (by rw [HX.out]; omega) (by decide) (by decide) (by rw [HX1.out]; omega) (show (97 : Nat) ≤ 105 by decide) _).mono ?_); rintro e w1 ⟨rfl, rfl⟩)
    go_ret3
    exact ⟨rfl, rfl⟩

/-- It returns a float, and no error. -/
def RetFl (e : Ending) : Prop := ∃ r, e = .returned (.tuple #[.float .f64 r, .nilIface])

theorem pack64_any (m : Int) (x : Int) (h1 : x ≤ 900) (h2 : -10000 ≤ x) (w : World) :
    Calls Tryz.prog 164 #[.int .u64 m, .int .i64 x] w fun e w' => RetFl e ∧ w = w' := by
  have hf := fun n w => run_f64of n w
  go_enter Tryz.func164, Tryz.ntmps164
  go_wp2_with fail
  all_goals
    go_ret2
    exact ⟨⟨_, rfl⟩, rfl⟩

/-- It returns a float and a bool. -/
def RetFB (e : Ending) : Prop := ∃ (r : Nat) (b : Bool), e = .returned (.tuple #[.float .f64 r, .bool b])

theorem run_float_any {P : Program} (w : World) (op : BinOp) (t : TypeId) (k : FloatKind) (x y : Nat) (h : op = .add ∨ op = .sub ∨ op = .mul ∨ op = .quo) :
    ∃ (r : Nat) (w' : World), (w' = w ∨ w' = w.drew) ∧ (binOp op t (.float k x) (.float k y)).run P w = .ok (.float k r) w' := by
  cases hr : floatBits op k x y with
  | some r => exact ⟨r, w, .inl rfl, run_float_arith w op t k x y r hr⟩
  | none =>
    refine ⟨(Question.nanBits k x y).cut (w.tape w.drawn (.nanBits k x y)), w.drew, .inr rfl, ?_⟩
    unfold floatBits at hr
    rcases h with rfl | rfl | rfl | rfl <;> simp only at hr <;> simp [binOp, Op.floatArith, hr, Question.forced]

theorem kept_of_drew {w w' : World} (h : w' = w ∨ w' = w.drew) : Kept (fun _ => False) w w' := by
  rcases h with rfl | rfl
  · exact Kept.refl _ _
  · exact (Kept.refl _ _).drew

set_option maxHeartbeats 1000000 in
theorem exact_any (m : Nat) (x : Int) (ng : Bool) (h1 : x ≤ 20) (h2 : -100 ≤ x) (w : World) (hg : Gl w) :
    Calls Tryz.prog 128 #[.int .u64 m, .int .i64 x, .bool ng] w fun e w' => RetFB e ∧ Kept (fun _ => False) w w' := by
  have hinf := hg.inf0
  obtain ⟨b, o, c, hb, hc⟩ := hg.f10
  have HC := Lib.hid hc
  clear hg hc
  by_cases hx : -22 ≤ x
  · obtain ⟨k, hk⟩ : ∃ k : Nat, k = x.natAbs := ⟨_, rfl⟩
    obtain ⟨r, hr⟩ := HC.out k (by omega)
    obtain ⟨r1, w1, hw1, hr1⟩ := run_float_any (P := Tryz.prog) w .mul 22 .f64 (floatOfInt .f64 m) r (by simp)
    obtain ⟨r2, w2, hw2, hr2⟩ := run_float_any (P := Tryz.prog) w .mul 22 .f64 (Op.negFloat .f64 (floatOfInt .f64 m)) r (by simp)
    obtain ⟨r3, w3, hw3, hr3⟩ := run_float_any (P := Tryz.prog) w .quo 22 .f64 (floatOfInt .f64 m) r (by simp)
    obtain ⟨r4, w4, hw4, hr4⟩ := run_float_any (P := Tryz.prog) w .quo 22 .f64 (Op.negFloat .f64 (floatOfInt .f64 m)) r (by simp)
    have K1 := Lib.hid (kept_of_drew hw1)
    have K2 := Lib.hid (kept_of_drew hw2)
    have K3 := Lib.hid (kept_of_drew hw3)
    have K4 := Lib.hid (kept_of_drew hw4)
    clear hw1 hw2 hw3 hw4
    by_cases hp : 0 ≤ x
    · have hk2 : x.toNat = k := by omega
      clear hk
      cases ng
      all_goals
        go_enter Tryz.func128, Tryz.ntmps128
        go_wp2_with fail
      all_goals first
        | (go_ret2; exact ⟨⟨_, _, rfl⟩, Kept.refl _ _⟩)
        | (go_ret2; exact ⟨⟨_, _, rfl⟩, K1.out⟩)
        | (go_ret2; exact ⟨⟨_, _, rfl⟩, K2.out⟩)
    · have hk2 : (-x).toNat = k := by omega
      clear hk
      cases ng
      all_goals
        go_enter Tryz.func128, Tryz.ntmps128
        go_wp2_with fail
      all_goals first
        | (go_ret2; exact ⟨⟨_, _, rfl⟩, Kept.refl _ _⟩)
        | (go_ret2; exact ⟨⟨_, _, rfl⟩, K3.out⟩)
        | (go_ret2; exact ⟨⟨_, _, rfl⟩, K4.out⟩)
  · go_enter Tryz.func128, Tryz.ntmps128
    go_wp2_with fail
    all_goals
      go_ret2
      exact ⟨⟨_, _, rfl⟩, Kept.refl _ _⟩

theorem bool2i_any (x : Bool) (w : World) :
    Calls Tryz.prog 143 #[.bool x] w fun e w' => e = .returned (.int .i64 (if x then 1 else 0)) ∧ w = w' := by
  go_enter Tryz.func143, Tryz.ntmps143
  cases x
  · go_wp2
    go_ret
    simp
  · go_wp2
    go_ret
    simp

theorem bitLenAux_le : ∀ (f x : Nat), Lib.bitLenAux f x ≤ f
  | 0, _ => Nat.le_refl _
  | f + 1, x => by
    unfold Lib.bitLenAux
    have := bitLenAux_le f (x / 2)
    split <;> omega

theorem bitLen_le (m : Nat) : Lib.bitLen m ≤ 64 := bitLenAux_le 64 m


end Go.Proofs.YtcpijmbdibgdmaaGreatDoor
