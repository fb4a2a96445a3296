/-
  impl.tellDict.
-/
import Derived.Test.YtcpijmbdibgdmaaGreatDoorD7
import Derived.Test.YtcpijmbdibgdmaaGreatDoorShelf
namespace Go.Proofs.YtcpijmbdibgdmaaGreatDoor
open Go Go.RowKit

theorem sortKeys_any {w : World} {base : Nat} {v : Value} {L : List (List UInt8)} {ks : List ByteArray} (hp : L.Perm (kb ks)) (hk : KeysOk ks) (ho : w.ownsRow base 9 1 v L.length (L.map encStr)) (hl : L.length < 4611686018427387904) :
    Calls Tryz.prog 59 #[v] w fun e w' => e = .returned (.tuple #[]) ∧ w'.ownsRow base 9 1 v ks.length ((kb ks).map encStr) ∧ Kept (fun k => v.ownBlock = some k) w w' := by
  have hlen : L.length = ks.length := by
    have := hp.length_eq
    simpa [kb] using this
  rcases ho.2 with ⟨rfl, h0⟩ | ⟨g, cap, cur, rfl, hbase, hb, h1, h2, h3, h4⟩
  · refine (Tryz.sort_Strings_none none 0 w).mono ?_
    rintro e w' ⟨rfl, rfl⟩
    have hL : L = [] := List.length_eq_zero_iff.1 h0
    subst hL
    have hkk : ks = [] := List.length_eq_zero_iff.1 (by simpa using hlen.symm)
    subst hkk
    exact ⟨rfl, World.ownsRow_nil _ _ _ _, Kept.refl _ _⟩
  · refine (Tryz.sort_Strings g 0 cap L w (holds_of_block hb (by simpa using h4)) (Array.getElem?_eq_some_iff.1 hb).1 hl).mono ?_
    rintro e w' ⟨rfl, n, os, rfl⟩
    have hs := sort_keys hk hp
    refine ⟨rfl, ?_, ?_⟩
    · rw [hs]
      have := ownsRow_sorted (ts := kb ks) (ss := L) (n := n) (os := os) (by simpa [kb] using hlen.symm) hbase hb h1 h2 h3
      rw [hlen] at this ⊢
      exact this
    · have hg := grownBy_sorted (w := w) (g := g) (n := n) (os := os) (L.mergeSort fun x y => decide (x ≤ y)).toArray
      exact (kept_of_grown hg).mono (fun k _ e => by rw [e]; rfl)

/-- It returns the keys in order and a row of objects. -/
def RetDict (n : Nat) (w w' : World) (ks : List ByteArray) (os : List Ob) (e : Ending) : Prop := ∃ (ka : Option Addr) (kc : Nat) (a : Option Addr) (cap : Nat) (us : List Value) (os' : List Ob) (B : Nat),
  e = .returned (.tuple #[.slice ka ks.length kc, .slice a os.length cap, .bool true]) ∧ os'.length = os.length ∧ w.heap.size ≤ B ∧ StrRow w' (fun k => w.heap.size ≤ k ∧ k < w'.heap.size) ka ks ∧
  RepRow n w' B (.slice a os.length cap) us os' ∧ ∀ j (h : j < os'.length) (h' : j < os.length), EqN n os'[j] os[j]

set_option maxRecDepth 100000 in
set_option maxHeartbeats 4000000 in
theorem tellDict_any (n : Nat) (ih : Said22 n) (b nb : Nat) (ks : List ByteArray) (xs : Nat → Value) (F : Nat → Nat → Prop) (os : List Ob) (r : Nat) (t : ByteArray) (S : Nat → Prop) (w : World)
    (hfit : Fits r t ks os.length) (hdm : DM w b nb ks xs (fun _ => True)) (hb : S b) (hF : ∀ j k, F j k → S k)
    (hc : ∀ j (h : j < os.length), PRep n w (F j) (xs j) os[j])
    (hS : ∀ k, S k → k < w.heap.size) (hv : ∀ o ∈ os, Valid n o) (hlen : ks.length = os.length) (hks : KeysOk ks) (_hnb : nb ≤ 140737488355328) :
    Calls Tryz.prog 50 #[.map (some b)] w fun e w' => RetDict n w w' ks os e ∧ Below w.heap.size w w' := by
  have IH := Lib.hid ih
  have HFT := Lib.hid hF
  have HC := Lib.hid hc
  have HS := Lib.hid hS
  have HV := Lib.hid hv
  have HKS := Lib.hid hks
  have HDIS := Lib.hid hks.distinct
  have HLEN := Lib.hid hlen
  have HFIT := Lib.hid hfit
  have HDM := Lib.hid hdm
  have hbs := hS b hb
  have hkl := hfit.kl
  obtain ⟨D, hown, hd⟩ := hdm
  have HOWN := Lib.hid hown
  have HD := Lib.hid hd
  clear ih hF hc hS hv hks hlen hfit hown hd
  have hsf := @store_float Tryz.prog
  go_enter Tryz.func50, Tryz.ntmps50
  go_wp2_with (at_range; go_must (refine wpList_range_own _ rfl _ 61 rfl 9 51 key9 Tryz.underlying61 RV b nb D rfl HOWN.out ?_); intro w0 hrg0 hg0 hs0)
  go_frame
  have HG0 := Lib.hid (kept_of_grown_none hg0)
  have HR0 := Lib.hid hrg0
  clear hg0 hrg0
  go_loopw [2] (fun sv wr => ∃ (L : List (List UInt8)) (left : Lit → Bool) (cnt : Nat), wr.ranges Tryz.prog 9 RV b w.heap.size nb D left cnt ∧ (∀ l, left l = true → Maps.has D l = true) ∧ Met ks left L ∧ wr.ownsRow (w.heap.size + 1) 9 1 sv L.length (L.map encStr) ∧ Below w.heap.size w wr ∧ w.heap.size + 1 ≤ wr.heap.size) (fun _ wr => wr.rangeLeft b w.heap.size)
  case atStart => exact ⟨[], _, _, HR0.out, fun _ h => h, Met.start HD.out, World.ownsRow_nil _ _ _ _, HG0.out.below (fun _ h => h.elim) (Nat.le_refl _), by omega⟩
  case round =>
    obtain ⟨L, left, cnt, hrg, hleft, hmet, ho, hbw, hsz⟩ := hrel
    have HRG := Lib.hid hrg
    have HLEFT := Lib.hid hleft
    have HMET := Lib.hid hmet
    have HO := Lib.hid ho
    have HB := Lib.hid hbw
    obtain ⟨oa, oc, hsv⟩ := own_form ho
    have HSV := Lib.hid hsv
    clear hrg hleft hmet ho hbw hsv
    go_wp2_with (at_next; go_must (refine wpList_next_ranges _ rfl _ rfl 9 key9 RV Value.string (fun v => v) (fun key l h => by obtain ⟨s, e, _⟩ := keyOf9_inv h; exact ⟨s, e⟩) (fun v y _ => ⟨v, rfl⟩) b w.heap.size nb D left cnt rfl HRG.out ?_ ?_))
    · intro hc0 hl0
      have hperm := HMET.out.done HDIS.out hl0
      have hlenL : L.length = ks.length := by
        have := hperm.length_eq
        simpa [kb] using this
      have hsv := HSV.out
      have hso := sortKeys_any (w := wr) hperm HKS.out HO.out (by omega)
      rw [hlenL] at hsv
      subst hsv
      have HSO := Lib.hid hso
      clear hperm hl0 hc0 hlenL hso
      obtain ⟨cl, hcl⟩ : ∃ cl, cl = ks.length := ⟨_, rfl⟩
      rw [← hcl] at HSO hkl ⊢
      have HCL := Lib.hid hcl
      clear hcl
      go_wp2_with fail
      refine HSO.out.mono ?_
      rintro e w2 ⟨rfl, ho2, hk2⟩
      rw [HCL.out] at ho2
      have HSR := Lib.hid (strRow_of_own ho2 HFIT.out.kl HFIT.out.ks)
      have hb2 : Below w.heap.size w w2 := HB.out.trans (hk2.below (fun k e => by have := (ho2.lt k (by rw [← HCL.out]; exact e)).1; omega) (by omega))
      have HB2 := Lib.hid hb2
      have hs2 := hk2.size
      clear ho2 hk2 hb2
      obtain ⟨_, g, go, hga, hgk⟩ := HSR.out
      have HGA := Lib.hid hga
      have HGK := Lib.hid hgk
      clear hga hgk
      go_wp2_with fail
      go_loopw [2, 3, 24] (fun a2 sv i wr3 => ∃ (us : List Value) (os' : List Ob), a2 = .slice oa cl oc ∧ us.length ≤ cl ∧ i = .int .i64 us.length ∧ RepRow n wr3 w2.heap.size sv us os' ∧ (∀ j (h : j < os'.length) (h' : j < os.length), EqN n os'[j] os[j]) ∧ Below w2.heap.size w2 wr3) (fun _ _ i _ => cl - (intOf i).toNat)
      case atStart =>
        exact ⟨[], [], rfl, by simp, rfl, ⟨World.ownsRow_nil _ _ _ _, rfl, fun j hj => by simp at hj⟩, fun j hj => by simp at hj, Below.refl _ _⟩
      case round =>
        obtain ⟨us, os', rfl, hj, rfl, hrow, heq, hb3⟩ := hrel
        obtain ⟨pa, pc, hsv⟩ := own_form hrow.own
        obtain ⟨j, hjj⟩ : ∃ j, j = us.length := ⟨_, rfl⟩
        rw [← hjj] at hj hsv ⊢
        have HJ := Lib.hid hjj
        have HR := Lib.hid hrow
        have HB3 := Lib.hid hb3
        have HSV2 := Lib.hid hsv
        have HEQ := Lib.hid heq
        have HBW := Lib.hid (HB2.out.trans (hb3.mono (by omega)))
        have hwsz := hb3.size
        clear hjj hrow hb3 hsv heq
        by_cases hlt : j < cl
        · obtain ⟨rfl, hg1, hg2⟩ := HGA.out (by rw [← HCL.out]; omega)
          obtain ⟨hkc, hks⟩ := HGK.out j (by rw [← HCL.out]; omega)
          have hkc' : wr.cell? ⟨g, go + j, none⟩ = some (.string ks[j]) := (HB3.out.cell (p := ⟨g, go + j, none⟩) hg2).trans hkc
          have hlook := (HDM.out.same (HBW.out.block b (by omega))).lookup j (by rw [← HCL.out]; omega) trivial hks
          have HT := Lib.hid ((HC.out j (by rw [← HLEN.out, ← HCL.out]; omega)).below HBW.out (fun k hk => HS.out k (HFT.out j k hk)))
          obtain ⟨s, hs⟩ : ∃ s, s = ks[j]'(by rw [← HCL.out]; omega) := ⟨_, rfl⟩
          obtain ⟨x, hx⟩ : ∃ x, x = xs j := ⟨_, rfl⟩
          rw [← hs] at hkc' hlook
          rw [← hx] at HT hlook
          clear hkc hx hs hks
          go_wp2_with fail
          refine (IH.out _ _ (F j) _ HT.out (fun k hk => by have := HS.out k (HFT.out j k hk); omega) (HV.out _ (List.getElem_mem _))).mono ?_
          rintro e w1 ⟨⟨u, o1, rfl, hu, he1⟩, hb1⟩
          obtain ⟨k2, i2, g2, r2, t2, ka2, ca2, kl2, kc2, cl2, cc2, rfl⟩ := hu.form
          have hs1 := hb1.size
          have hk1 : Kept (fun _ => False) wr w1 := Kept.ofBelow (S := fun _ => False) hb1 (fun k hk hle => by omega)
          have hk1a := hk1.alloc (.cells #[.int .i64 k2, .int .i64 i2, .int .i64 g2, .float .f64 r2, .string t2, .slice ka2 kl2 kc2, .slice ca2 cl2 cc2] 26)
          have hown : ∀ k, u3.ownBlock = some k → w2.heap.size ≤ k ∧ k < wr.heap.size := fun k e => HR.out.own.lt k e
          have HR1 := Lib.hid (HR.out.kept hk1a (fun _ _ _ h => h))
          have HK1 := Lib.hid hk1a
          have HOW := Lib.hid hown
          have HU := Lib.hid ((hu.mono (S' := fun k => w2.heap.size ≤ k ∧ k < w1.heap.size ∧ u3.ownBlock ≠ some k) (fun k hk => ⟨by omega, hk.2, fun e => by have := hown k e; omega⟩)).same (w' := w1.alloc (.cells #[.int .i64 k2, .int .i64 i2, .int .i64 g2, .float .f64 r2, .string t2, .slice ka2 kl2 kc2, .slice ca2 cl2 cc2] 26)) (S' := fun k => w2.heap.size ≤ k ∧ k < (w1.alloc (.cells #[.int .i64 k2, .int .i64 i2, .int .i64 g2, .float .f64 r2, .string t2, .slice ka2 kl2 kc2, .slice ca2 cl2 cc2] 26)).heap.size ∧ u3.ownBlock ≠ some k) (fun k hk => ⟨Below.heap_alloc _ _ _ hk.2.1, hk.1, by simp; omega, hk.2.2⟩))
          have HE1 := Lib.hid he1
          have hclb : cl * 96 ≤ 140737488355328 := by have := HFIT.out.cl; have := HCL.out; have := HLEN.out; omega
          clear hu hb1 hk1 hk1a hown he1
          go_wp2_with (at_builtin; go_must (refine wp_app2 24 26 7 96 _ Tryz.info26 Tryz.underlying24 rfl (by decide) w2.heap.size u3 us.length (flat7 us) [_, _, _, _, _, _, _] _ _ _ (w1.alloc (.cells #[.int .i64 k2, .int .i64 i2, .int .i64 g2, .float .f64 r2, .string t2, .slice ka2 kl2 kc2, .slice ca2 cl2 cc2] 26)) rfl rfl _ rfl rfl rfl (by simp) HR1.out.own rfl (by simp [Value.oneCell']) (by rw [← HJ.out]; omega) (by rw [← HJ.out]; omega) (by simp; omega) ?_); intro sv' w4 ho hk4 hp; obtain ⟨na, nc, rfl⟩ := own_form ho; have HO4 := Lib.hid ho; have HK4 := Lib.hid hk4; have HP := Lib.hid hp; clear ho hk4 hp)
          go_roundw
          case measure => simp [intOf]; omega
          case rel =>
            have hj' := HJ.out
            have hc' := HCL.out
            have hn' := HLEN.out
            have hl' := HR1.out.len
            have hs4 := HK4.out.size
            simp at hs4
            have he1 := HE1.out
            have e0 : j = os'.length := by omega
            have heq' : EqN n o1 (os[os'.length]'(by omega)) := by
              simp only [← e0]
              exact he1
            have hsn := HR1.out.snoc HU.out HO4.out HK4.out HP.out
            have hb4 : Below w2.heap.size w2 w4 := (HB3.out.trans (HK1.out.below (fun _ h => h.elim) (by omega))).trans (HK4.out.below (fun k e => (HOW.out k e).1) (by simp; omega))
            exact ⟨_, _, rfl, by simp; omega, by simp [← hj'], hsn, EqRow.snoc HEQ.out (by omega) heq', hb4⟩
        · have hsv := HSV2.out
          subst hsv
          go_wp2_with fail
          go_ret3
          have hj' := HJ.out
          have hc' := HCL.out
          have hn' := HLEN.out
          obtain rfl : j = cl := by omega
          have e2 : j = os.length := by omega
          refine ⟨⟨oa, oc, pa, pc, us, os', w2.heap.size, by rw [← hc', ← e2]; rfl, by have := HR.out.len; omega, by omega, ?_, ?_, HEQ.out⟩, HBW.out⟩
          · exact (HSR.out.same fun k hk => ⟨HB3.out.block k hk.2, by omega, by omega⟩)
          · have := HR.out
            rw [← e2]
            exact this
    · intro x c l a ps w1 cnt1 hkey hl hR hat hrg1 hlt hg1 hs1 hen
      obtain ⟨j, hj, hx, hcj, hlj, _⟩ := met_key HD.out hkey (HLEFT.out l hl) hR hat
      rw [hlj] at hl hrg1
      have hm1 := HMET.out.step HDIS.out j hj hl
      have hml := hm1.length
      simp at hml
      have HM1 := Lib.hid hm1
      have HX := Lib.hid hx
      have HRG1 := Lib.hid hrg1
      have HK1 := Lib.hid (kept_of_grown hg1)
      have HO1 := Lib.hid ((kept_of_grown hg1).own HO.out (fun k hk e => by have := (HO.out.lt k hk).1; omega))
      have hs1a : w1.heap.size ≤ wr.heap.size := by omega
      have hs1b : wr.heap.size ≤ w1.heap.size := by omega
      clear hkey hl hR hat hrg1 hg1 hlj hx hcj hm1 hs1
      go_wp2_with (at_builtin; go_must (refine wp_app2 23 9 1 16 _ Tryz.info9 Tryz.underlying23 rfl (by decide) (w.heap.size + 1) u2 L.length (L.map encStr) [_] _ _ _ w1 rfl rfl _ rfl rfl rfl rfl HO1.out rfl (by intro u hu; simp at hu; subst hu; rfl) (by omega) (by omega) (by omega) ?_); intro sv' w2 ho hk2 hp; obtain ⟨na, nc, rfl⟩ := own_form ho; have HO2 := Lib.hid ho; have HK2 := Lib.hid hk2; have HP := Lib.hid hp; clear ho hk2 hp)
      have hown : ∀ k, u2.ownBlock = some k → w.heap.size + 1 ≤ k := fun k e => (HO1.out.lt k e).1
      have hrg2 := ranges_same HRG1.out (HK2.out.block b (by omega) (fun e => by have := hown b e; omega)) (HK2.out.block w.heap.size (by omega) (fun e => by have := hown _ e; omega))
      go_roundw
      case measure =>
        rw [hrg2.left_eq, HRG.out.left_eq]
        exact hlt
      case rel =>
        have hs2 := HK2.out.size
        refine ⟨L ++ [ks[j].data.toList], _, cnt1, hrg2, fun l hl => HLEFT.out l (by simp at hl; exact hl.1), HM1.out, ?_, (HB.out.trans (HK1.out.below (fun k e => by have e' : k = w.heap.size := e; omega) (by omega))).trans (HK2.out.below (fun k e => by have := hown k e; omega) (by omega)), by omega⟩
        have := HO2.out
        rw [HX.out, ← enc_self] at this
        simpa using this

end Go.Proofs.YtcpijmbdibgdmaaGreatDoor
