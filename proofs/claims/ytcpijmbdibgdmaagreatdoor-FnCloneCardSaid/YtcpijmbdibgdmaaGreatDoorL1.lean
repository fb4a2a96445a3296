/-
  The law on clones.
-/
import Derived.Test.YtcpijmbdibgdmaaGreatDoorE1
import Derived.Test.YtcpijmbdibgdmaaGreatDoorP22
import Derived.Test.YtcpijmbdibgdmaaGreatDoorF3
namespace Go.Proofs.YtcpijmbdibgdmaaGreatDoor
open Go Go.RowKit

set_option maxRecDepth 100000 in
set_option maxHeartbeats 4000000 in
theorem fnClone_any (n : Nat) (v : Value) (o : Ob) (S : Nat → Prop) (w : World) (h : Rep n w S v o) (hS : ∀ k, S k → k < w.heap.size) (hg : Gl w) :
    Calls Tryz.prog 3 #[v] w fun e w' => e = .returned (.bool true) ∧ Below w.heap.size w w' := by
  cases n with
  | zero => exact h.elim
  | succ n =>
    have HS := Lib.hid hS
    have HG := Lib.hid hg
    have h' := h
    obtain ⟨k, i, g, r, t, ks, os⟩ := o
    obtain ⟨ka, ca, kc, cc, rfl, _⟩ := h
    have H := Lib.hid h'
    clear h' hS hg
    obtain ⟨kl, hkl⟩ : ∃ x, x = ks.length := ⟨_, rfl⟩
    obtain ⟨cl, hcl⟩ : ∃ x, x = os.length := ⟨_, rfl⟩
    rw [← hkl, ← hcl] at H ⊢
    clear hkl hcl
    have hsf := @store_float Tryz.prog
    go_enter Tryz.func3, Tryz.ntmps3
    go_wp2_with fail
    have hbx := Box7.made w (.int .i64 k) (.int .i64 i) (.int .i64 g) (.float .f64 r) (.string t) (.slice ka kl kc) (.slice ca cl cc)
    have hka : Kept (fun _ => False) w (w.alloc (.cells #[.int .i64 k, .int .i64 i, .int .i64 g, .float .f64 r, .string t, .slice ka kl kc, .slice ca cl cc] 26)) := (Kept.refl _ w).alloc _
    have hsa : (w.alloc (.cells #[.int .i64 k, .int .i64 i, .int .i64 g, .float .f64 r, .string t, .slice ka kl kc, .slice ca cl cc] 26)).heap.size = w.heap.size + 1 := by simp
    generalize w.alloc (.cells #[.int .i64 k, .int .i64 i, .int .i64 g, .float .f64 r, .string t, .slice ka kl kc, .slice ca cl cc] 26) = wa at hbx hka hsa ⊢
    have hsa1 : w.heap.size + 1 ≤ wa.heap.size := by omega
    clear hsa
    have HKA := Lib.hid hka
    have HBX := Lib.hid hbx
    clear hka hbx
    refine (fits1_any (n + 1) _ _ S wa (H.out.same (fun k hk => ⟨HKA.out.block k (HS.out k hk) (fun h => h), hk⟩)) (fun k hk => by have := HS.out k hk; omega)).mono ?_
    rintro e w1 ⟨⟨b, rfl⟩, hb1⟩
    have hs1 := hb1.size
    have hk1 : Kept (fun _ => False) wa w1 := Kept.ofBelow (S := fun _ => False) hb1 (fun k hk hle => by omega)
    have HB1 := Lib.hid (HBX.out.kept hk1 (fun h => h))
    have HK1 := Lib.hid (HKA.out.trans hk1 (fun _ _ h => h))
    clear hb1 hk1 HKA HBX
    have bel : ∀ {w' : World}, Kept (fun _ => False) w w' → Below w.heap.size w w' := fun h => h.below (fun _ h => h.elim) (Nat.le_refl _)
    cases b
    · go_wp2_with fail
      go_ret
      exact ⟨rfl, bel HK1.out⟩
    · obtain ⟨g0, g1, g2, g3, g4, g5, g6⟩ := HB1.out.at
      go_wp2_with fail
      refine (fromObjectTop_any twelve_any (n + 1) _ _ S w1 (H.out.same (fun k hk => ⟨HK1.out.block k (HS.out k hk) (fun h => h), hk⟩)) (fun k hk => by have := HS.out k hk; omega) (HG.out.below (bel HK1.out))).mono ?_
      rintro e w2 ⟨⟨u, y, hu, hy, rfl⟩, hb2⟩
      obtain ⟨k', i', g', r', t', ka', ca', kl', kc', cl', cc', rfl⟩ := hu.form
      have hs2 := hb2.size
      have hk2 : Kept (fun _ => False) w1 w2 := Kept.ofBelow (S := fun _ => False) hb2 (fun k hk hle => by omega)
      have HB2 := Lib.hid (HB1.out.kept hk2 (fun h => h))
      have HK2 := Lib.hid (HK1.out.trans hk2 (fun _ _ h => h))
      have HU := Lib.hid hu
      have HY := Lib.hid hy
      clear hb2 hk2 HB1 HK1 hu hy g0 g1 g2 g3 g4 g5 g6
      cases y
      · go_wp2_with fail
        go_ret
        exact ⟨rfl, (bel HK2.out).alloc (by omega) _⟩
      · have hvd := HY.out rfl
        go_wp2_with fail
        have hk3 : Kept (fun _ => False) w2 (w2.alloc (.cells #[.int .i64 k', .int .i64 i', .int .i64 g', .float .f64 r', .string t', .slice ka' kl' kc', .slice ca' cl' cc'] 30)) := (Kept.refl _ w2).alloc _
        have hs3 : (w2.alloc (.cells #[.int .i64 k', .int .i64 i', .int .i64 g', .float .f64 r', .string t', .slice ka' kl' kc', .slice ca' cl' cc'] 30)).heap.size = w2.heap.size + 1 := by simp
        generalize w2.alloc (.cells #[.int .i64 k', .int .i64 i', .int .i64 g', .float .f64 r', .string t', .slice ka' kl' kc', .slice ca' cl' cc'] 30) = w3 at hk3 hs3 ⊢
        have hs3' : w2.heap.size + 1 ≤ w3.heap.size := by omega
        have HU3 := Lib.hid (HU.out.same (w' := w3) (S' := fun k => w1.heap.size ≤ k ∧ k < w2.heap.size) (fun k hk => ⟨hk3.block k hk.2 (fun h => h), hk⟩))
        have HB3 := Lib.hid (HB2.out.kept hk3 (fun h => h))
        have HK3 := Lib.hid (HK2.out.trans hk3 (fun _ _ h => h))
        clear hk3 hs3 HU HB2 HK2
        refine (modest_any (n + 1) _ _ w3 HU3.out (fun k hk => by omega)).mono ?_
        rintro e w4 ⟨⟨m, rfl⟩, hb4⟩
        have hs4 := hb4.size
        have hk4 : Kept (fun _ => False) w3 w4 := Kept.ofBelow (S := fun _ => False) hb4 (fun k hk hle => by omega)
        have HB4 := Lib.hid (HB3.out.kept hk4 (fun h => h))
        have HK4 := Lib.hid (HK3.out.trans hk4 (fun _ _ h => h))
        clear hb4 hk4 HB3 HK3 HU3
        obtain ⟨g0, g1, g2, g3, g4, g5, g6⟩ := HB4.out.at
        cases m
        · go_wp2_with fail
          go_ret
          exact ⟨rfl, bel HK4.out⟩
        · by_cases hk0 : k = 0
          · subst hk0
            go_wp2_with fail
            go_ret
            exact ⟨rfl, bel HK4.out⟩
          · have hq0 : (k == 0) = false := by simp [hk0]
            go_wp2_with fail
            refine (clone8_any (n + 1) _ (.mk k i g r t ks os) S w4 (H.out.same (fun k hk => ⟨HK4.out.block k (HS.out k hk) (fun h => h), hk⟩)) (fun k hk => by have := HS.out k hk; omega) hvd hk0).mono ?_
            rintro e w5 ⟨⟨u1, u2, o1, o2, rfl, hr1, hr2, he1, he2⟩, hb5⟩
            obtain ⟨a0, a1, a2, a3, a4, aka, aca, akl, akc, acl, acc, rfl⟩ := hr1.form
            obtain ⟨d0, d1, d2, d3, d4, dka, dca, dkl, dkc, dcl, dcc, rfl⟩ := hr2.form
            have hs5 := hb5.size
            have hk5 : Kept (fun _ => False) w4 w5 := Kept.ofBelow (S := fun _ => False) hb5 (fun k hk hle => by omega)
            have HB5 := Lib.hid (HB4.out.kept hk5 (fun h => h))
            have HK5 := Lib.hid (HK4.out.trans hk5 (fun _ _ h => h))
            have HR1 := Lib.hid hr1
            have HR2 := Lib.hid hr2
            have HE1 := Lib.hid he1
            have HE2 := Lib.hid he2
            clear hb5 hk5 hr1 hr2 he1 he2 HB4 HK4 g0 g1 g2 g3 g4 g5 g6
            obtain ⟨hk6, hs6, hx6, hy6⟩ := two7 w5 (.int .i64 a0) (.int .i64 a1) (.int .i64 a2) (.float .f64 a3) (.string a4) (.slice aka akl akc) (.slice aca acl acc) (.int .i64 d0) (.int .i64 d1) (.int .i64 d2) (.float .f64 d3) (.string d4) (.slice dka dkl dkc) (.slice dca dcl dcc)
            obtain ⟨g0, g1, g2, g3, g4, g5, g6⟩ := (HB5.out.kept hk6 (fun h => h)).at
            have HK6' := Lib.hid hk6
            have HS6 := Lib.hid hs6
            have HX6' := Lib.hid hx6
            have HY6' := Lib.hid hy6
            clear hk6 hs6 hx6 hy6
            go_wp2_with fail
            have hk6 := HK6'.out
            have hs6 := HS6.out
            have hx6 := HX6'.out
            have hy6 := HY6'.out
            clear HK6' HS6 HX6' HY6' g0 g1 g2 g3 g4 g5 g6
            generalize (w5.alloc (.cells #[.int .i64 a0, .int .i64 a1, .int .i64 a2, .float .f64 a3, .string a4, .slice aka akl akc, .slice aca acl acc] 26)).alloc (.cells #[.int .i64 d0, .int .i64 d1, .int .i64 d2, .float .f64 d3, .string d4, .slice dka dkl dkc, .slice dca dcl dcc] 26) = w6 at hk6 hs6 hx6 hy6 ⊢
            have hz6 : w5.heap.size + 2 ≤ w6.heap.size := by omega
            have hk56 := HK5.out.trans hk6 (fun _ _ h => h)
            refine (equal_any (n + 1) _ _ o1 (.mk k i g r t ks os) (fun k => w4.heap.size ≤ k ∧ k < w5.heap.size) S w6 (HR1.out.same (fun k hk => ⟨hk6.block k hk.2 (fun h => h), hk⟩)) (H.out.same (fun k hk => ⟨hk56.block k (HS.out k hk) (fun h => h), hk⟩)) (fun k hk => by omega) (fun k hk => by have := HS.out k hk; omega) HE1.out).mono ?_
            rintro e w7 ⟨rfl, hk7⟩
            have hs7 := hk7.size
            have hk57 := hk6.trans hk7 (fun _ _ h => h)
            have HK7 := Lib.hid (hk56.trans hk7 (fun _ _ h => h))
            obtain ⟨g0, g1, g2, g3, g4, g5, g6⟩ := (HB5.out.kept hk57 (fun h => h)).at
            obtain ⟨i0, i1, i2, i3, i4, i5, i6⟩ := (hy6.kept hk7 (fun h => h)).at
            have HR2' := Lib.hid (HR2.out.same (w' := w7) (S' := fun k => w4.heap.size ≤ k ∧ k < w5.heap.size) (fun k hk => ⟨hk57.block k hk.2 (fun h => h), hk⟩))
            clear hk6 hs6 hx6 hy6 hk7 hk57 hk56
            go_wp2_with fail
            refine (equal_any (n + 1) _ _ o2 (.mk k i g r t ks os) (fun k => w4.heap.size ≤ k ∧ k < w5.heap.size) S w7 HR2'.out (H.out.same (fun k hk => ⟨HK7.out.block k (HS.out k hk) (fun h => h), hk⟩)) (fun k hk => by omega) (fun k hk => by have := HS.out k hk; omega) HE2.out).mono ?_
            rintro e w8 ⟨rfl, hk8⟩
            have HK8 := Lib.hid (HK7.out.trans hk8 (fun _ _ h => h))
            clear hk8
            go_wp2_with fail
            go_ret
            exact ⟨rfl, bel HK8.out⟩

end Go.Proofs.YtcpijmbdibgdmaaGreatDoor
