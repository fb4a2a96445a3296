/-
  spec.Equal of two objects whose parts are equal.
-/
import Derived.Test.YtcpijmbdibgdmaaGreatDoorD16
import Derived.StillTailTactics
import Derived.BigQuiet
namespace Go.Proofs.YtcpijmbdibgdmaaGreatDoor
open Go Go.RowKit

theorem two7 (w : World) (c0 c1 c2 c3 c4 c5 c6 d0 d1 d2 d3 d4 d5 d6 : Value) : Kept (fun _ => False) w ((w.alloc (.cells #[c0, c1, c2, c3, c4, c5, c6] 26)).alloc (.cells #[d0, d1, d2, d3, d4, d5, d6] 26)) ∧
    ((w.alloc (.cells #[c0, c1, c2, c3, c4, c5, c6] 26)).alloc (.cells #[d0, d1, d2, d3, d4, d5, d6] 26)).heap.size = w.heap.size + 2 ∧
    Box7 ((w.alloc (.cells #[c0, c1, c2, c3, c4, c5, c6] 26)).alloc (.cells #[d0, d1, d2, d3, d4, d5, d6] 26)) w.heap.size c0 c1 c2 c3 c4 c5 c6 ∧
    Box7 ((w.alloc (.cells #[c0, c1, c2, c3, c4, c5, c6] 26)).alloc (.cells #[d0, d1, d2, d3, d4, d5, d6] 26)) (w.heap.size + 1) d0 d1 d2 d3 d4 d5 d6 := by
  have e1 : (w.alloc (.cells #[c0, c1, c2, c3, c4, c5, c6] 26)).heap.size = w.heap.size + 1 := by simp
  have h1 := Box7.made w c0 c1 c2 c3 c4 c5 c6
  have h2 := Box7.made (w.alloc (.cells #[c0, c1, c2, c3, c4, c5, c6] 26)) d0 d1 d2 d3 d4 d5 d6
  rw [e1] at h2
  exact ⟨((Kept.refl _ w).alloc _).alloc _, by simp, h1.kept ((Kept.refl (fun _ => False) _).alloc _) (fun h => h), h2⟩

/-- What is shown of spec.Equal, for objects of fewer than `n` levels. -/
def SaidEq (n : Nat) : Prop := ∀ (u v : Value) (o' o : Ob) (S S' : Nat → Prop) (w : World), Rep n w S u o' → Rep n w S' v o → (∀ k, S k → k < w.heap.size) → (∀ k, S' k → k < w.heap.size) → EqN n o' o →
  Calls Tryz.prog 9 #[u, v] w fun e w' => e = .returned (.bool true) ∧ Kept (fun _ => False) w w'

set_option maxRecDepth 100000 in
set_option maxHeartbeats 4000000 in
theorem equal_step (n : Nat) (ih : SaidEq n) : SaidEq (n + 1) := by
  intro u v o' o S S' w hu hv hS hS' he
  have IH := Lib.hid ih
  have HS := Lib.hid hS
  have HS' := Lib.hid hS'
  obtain ⟨k, i, g, r', t, ks, os'⟩ := o'
  obtain ⟨k2, i2, g2, r, t2, ks2, os⟩ := o
  obtain ⟨rfl, rfl, rfl, hfo, rfl, rfl, hlo, heq⟩ := he
  obtain ⟨ka, ca, kc, cc, rfl, _, _, hs1, hl1, b1, off1, hca1, hk1⟩ := hu
  obtain ⟨ka2, ca2, kc2, cc2, rfl, _, _, hs2, hl2, b2, off2, hca2, hk2⟩ := hv
  have HE := Lib.hid heq
  have HSR1 := Lib.hid hs1
  have HSR2 := Lib.hid hs2
  have HCA1 := Lib.hid hca1
  have HCA2 := Lib.hid hca2
  have HK1 := Lib.hid hk1
  have HK2 := Lib.hid hk2
  have hkl := hs1.1
  obtain ⟨cl, hcl⟩ : ∃ cl, cl = os.length := ⟨_, rfl⟩
  rw [hlo] at hl1 ⊢
  rw [← hcl] at hl1 hl2 HCA2 ⊢
  obtain ⟨kl, hkl'⟩ : ∃ kl, kl = ks.length := ⟨_, rfl⟩
  rw [← hkl'] at hkl ⊢
  have HCL := Lib.hid hcl
  have HCL' := Lib.hid (hlo.trans hcl.symm)
  have HKL := Lib.hid hkl'
  clear ih hS hS' heq hs1 hs2 hca1 hca2 hk1 hk2 hcl hlo hkl'
  go_enter Tryz.func9, Tryz.ntmps9
  go_wp2_with fail
  obtain ⟨hk2, hsz2, hx2, hy2⟩ := two7 w (.int .i64 k) (.int .i64 i) (.int .i64 g) (.float .f64 r') (.string t) (.slice ka kl kc) (.slice ca cl cc) (.int .i64 k) (.int .i64 i) (.int .i64 g) (.float .f64 r) (.string t) (.slice ka2 kl kc2) (.slice ca2 cl cc2)
  generalize (w.alloc (.cells #[.int .i64 k, .int .i64 i, .int .i64 g, .float .f64 r', .string t, .slice ka kl kc, .slice ca cl cc] 26)).alloc (.cells #[.int .i64 k, .int .i64 i, .int .i64 g, .float .f64 r, .string t, .slice ka2 kl kc2, .slice ca2 cl cc2] 26) = w2 at hk2 hsz2 hx2 hy2 ⊢
  have HX := Lib.hid hx2
  have HY := Lib.hid hy2
  have HKW := Lib.hid hk2
  have hz : w.heap.size + 2 ≤ w2.heap.size := by omega
  clear hk2 hsz2 hx2 hy2
  go_loopw [61, 5] (fun i _ wr => ∃ (j : Nat), j ≤ kl ∧ i = .int .i64 j ∧ Kept (fun _ => False) w2 wr) (fun i _ _ => kl - (intOf i).toNat)
  case atStart => exact ⟨0, by omega, rfl, Kept.refl _ _⟩
  case round =>
    obtain ⟨j, hj, rfl, hk⟩ := hrel
    have HK := Lib.hid hk
    have hsk := hk.size
    obtain ⟨g0, g1, g2, g3, g4, g5, g6⟩ := (HX.out.kept hk (fun h => h)).at
    obtain ⟨i0, i1, i2, i3, i4, i5, i6⟩ := (HY.out.kept hk (fun h => h)).at
    have HKR := Lib.hid (HKW.out.trans hk (fun _ _ h => h))
    clear hk
    by_cases hlt : j < kl
    · obtain ⟨_, sb, so, hsa, hsk⟩ := HSR1.out
      obtain ⟨_, sb2, so2, hsa2, hsk2⟩ := HSR2.out
      obtain ⟨rfl, hSb⟩ := hsa (by rw [← HKL.out]; omega)
      obtain ⟨rfl, hSb2⟩ := hsa2 (by rw [← HKL.out]; omega)
      obtain ⟨hc1, hz1⟩ := hsk j (by rw [← HKL.out]; exact hlt)
      obtain ⟨hc2, hz2⟩ := hsk2 j (by rw [← HKL.out]; exact hlt)
      have hr1 := (HKR.out.cell (p := ⟨sb, so + j, none⟩) (HS.out _ hSb) (fun h => h)).trans hc1
      have hr2 := (HKR.out.cell (p := ⟨sb2, so2 + j, none⟩) (HS'.out _ hSb2) (fun h => h)).trans hc2
      obtain ⟨s, hs⟩ : ∃ s, s = ks[j]'(by rw [← HKL.out]; exact hlt) := ⟨_, rfl⟩
      rw [← hs] at hr1 hr2 hz1 hz2
      clear hc1 hc2 hs hsa hsa2 hsk2
      go_wp2_with fail
      go_quiet (fail)
      go_wp2_with fail
      go_roundw
      case measure => simp [intOf]; omega
      case rel => exact ⟨j + 1, by omega, by go_num, HK.out.drewN _⟩
    · go_wp2_with fail
      clear g0 g1 g2 g3 g4 g5 g6 i0 i1 i2 i3 i4 i5 i6
      go_loopw [79, 6] (fun i _ w3 => ∃ (j : Nat), j ≤ cl ∧ i = .int .i64 j ∧ Kept (fun _ => False) wr w3) (fun i _ _ => cl - (intOf i).toNat)
      case atStart => exact ⟨0, by omega, rfl, Kept.refl _ _⟩
      case round =>
        obtain ⟨j2, hj2, rfl, hk⟩ := hrel
        have HK3 := Lib.hid hk
        have hsk3 := hk.size
        have hk3 := HK.out.trans hk (fun _ _ h => h)
        obtain ⟨g0, g1, g2, g3, g4, g5, g6⟩ := (HX.out.kept hk3 (fun h => h)).at
        obtain ⟨i0, i1, i2, i3, i4, i5, i6⟩ := (HY.out.kept hk3 (fun h => h)).at
        have HKR3 := Lib.hid (HKW.out.trans hk3 (fun _ _ h => h))
        clear hk hk3
        by_cases hlt2 : j2 < cl
        · obtain ⟨rfl, hSb⟩ := HCA1.out (by rw [HCL'.out]; omega)
          obtain ⟨rfl, hSb2⟩ := HCA2.out (by omega)
          obtain ⟨x1, hx1, ht1⟩ := HK1.out j2 (by rw [HCL'.out]; exact hlt2)
          obtain ⟨x2, hx2, ht2⟩ := HK2.out j2 (by rw [← HCL.out]; exact hlt2)
          obtain ⟨p0, p1, p2, p3, p4, pka, pca, pkl, pkc, pcl, pcc, rfl⟩ := ht1.form
          obtain ⟨q0, q1, q2, q3, q4, qka, qca, qkl, qkc, qcl, qcc, rfl⟩ := ht2.form
          have hm1 := (hx1.same (HKR3.out.block _ (HS.out _ hSb) (fun h => h))).cells
          have hm2 := (hx2.same (HKR3.out.block _ (HS'.out _ hSb2) (fun h => h))).cells
          have HT1 := Lib.hid (ht1.same (w' := wr) (S' := S) (fun k hk => ⟨HKR3.out.block k (HS.out k hk) (fun h => h), hk⟩))
          have HT2 := Lib.hid (ht2.same (w' := wr) (S' := S') (fun k hk => ⟨HKR3.out.block k (HS'.out k hk) (fun h => h), hk⟩))
          have HEJ := Lib.hid (HE.out j2 (by rw [HCL'.out]; exact hlt2) (by rw [← HCL.out]; exact hlt2))
          clear hx1 hx2 ht1 ht2
          obtain ⟨m0, m1, m2, m3, m4, m5, m6⟩ := hm1
          obtain ⟨n0, n1, n2, n3, n4, n5, n6⟩ := hm2
          go_wp2_with fail
          go_still_tail 10, (by kernel_rfl)
          change wpList _ _ _ _ _ wr.drew
          have hkd : Kept (fun _ => False) wr wr.drew := (Kept.refl _ wr).drew
          have HT1' := Lib.hid (HT1.out.same (w' := wr.drew) (S' := S) (fun k hk => ⟨rfl, hk⟩))
          have HT2' := Lib.hid (HT2.out.same (w' := wr.drew) (S' := S') (fun k hk => ⟨rfl, hk⟩))
          have hsd : wr.drew.heap.size = wr.heap.size := rfl
          generalize wr.drew = wd at hkd HT1' HT2' hsd ⊢
          have hsd' : wr.heap.size ≤ wd.heap.size := by omega
          have HKD := Lib.hid (HK3.out.trans hkd (fun _ _ h => h))
          clear hsd hkd m0 m1 m2 m3 m4 m5 m6 n0 n1 n2 n3 n4 n5 n6 g0 g1 g2 g3 g4 g5 g6 i0 i1 i2 i3 i4 i5 i6
          go_wp2_with fail
          refine (IH.out _ _ _ _ S S' _ HT1'.out HT2'.out (fun k hk => by have := HS.out k hk; omega) (fun k hk => by have := HS'.out k hk; omega) HEJ.out).mono ?_
          rintro e w4 ⟨rfl, hk4⟩
          have HK4 := Lib.hid (HKD.out.trans hk4 (fun _ _ h => h))
          clear hk4
          go_wp2_with fail
          go_roundw
          case measure => simp [intOf]; omega
          case rel => exact ⟨j2 + 1, by omega, by go_num, HK4.out⟩
        · go_wp2_with fail
          go_ret
          exact ⟨rfl, HKR3.out⟩

theorem equal_any (n : Nat) : SaidEq n := by
  induction n with
  | zero => intro u v o' o S S' w h; exact h.elim
  | succ n ih => exact equal_step n ih

end Go.Proofs.YtcpijmbdibgdmaaGreatDoor
