/-
  The law on the entries of a dictionary.
-/
import Derived.Test.YtcpijmbdibgdmaaGreatDoorE6
import Derived.Test.YtcpijmbdibgdmaaGreatDoorE3
import Derived.Test.YtcpijmbdibgdmaaGreatDoorP22
import Derived.Test.YtcpijmbdibgdmaaGreatDoorF3
namespace Go.Proofs.YtcpijmbdibgdmaaGreatDoor
open Go Go.RowKit

theorem nullOb_rep (m : Nat) (w : World) (S : Nat → Prop) : Rep (m + 1) w S zeroAgg nullOb :=
  ⟨none, none, 0, 0, rfl, by simp, by omega, ⟨by simp, 0, 0, fun h => by simp at h, fun j hj => by simp at hj⟩, by simp, 0, 0, fun h => by simp at h, fun j hj => by simp at hj⟩

/-- The step that finds. -/
def stepFind (key : ByteArray) : Value := .agg #[.int .i64 3, .string key, .int .i64 0, .int .i64 0, .int .i64 0, .float .f64 0, .string ByteArray.empty, .slice none 0 0, .slice none 0 0]

/-- What impl.Entries and spec.Done say of the same dictionary and key. -/
theorem asked (n : Nat) (v : Value) (i g : Int) (r : Nat) (t : ByteArray) (ks : List ByteArray) (os : List Ob) (S : Nat → Prop) (w : World) (h : Rep (n + 1) w S v (.mk 8 i g r t ks os)) (hS : ∀ k, S k → k < w.heap.size) (hv : Valid (n + 1) (.mk 8 i g r t ks os))
    (key : ByteArray) (hk : key.size ≤ 140737488355328) : ∃ (m : Nat) (o' : Ob), (∀ w', Kept (fun _ => False) w w' → Calls Tryz.prog 12 #[v, .string key] w' fun e w2 => Got (m + 1) w2 (kindsL.map (wantOb o')) e ∧ Below w'.heap.size w' w2) ∧
      (∀ w', Kept (fun _ => False) w w' → Calls Tryz.prog 13 #[v, stepFind key] w' fun e w2 => (∃ u told, e = .returned (.tuple #[v, .bool told, u, .bool true]) ∧ Rep (m + 1) w2 S u o') ∧ Kept (fun _ => False) w' w2) := by
  have hlen := (valid8 hv).1
  have hdis := (valid8 hv).2.1.distinct
  have hr : ∀ w', Kept (fun _ => False) w w' → Rep (n + 1) w' S v (.mk 8 i g r t ks os) := fun w' hw => h.same (fun k hk => ⟨hw.block k (hS k hk) (fun h => h), hk⟩)
  have hS' : ∀ w', Kept (fun _ => False) w w' → ∀ k, S k → k < w'.heap.size := fun w' hw k hk => by have := hS k hk; have := hw.size; omega
  by_cases hf : ∃ (j : Nat) (hj : j < ks.length), ks[j] = key
  · obtain ⟨j, hj, rfl⟩ := hf
    have hj' : j < os.length := by omega
    cases n with
    | zero =>
      obtain ⟨_, _, _, _, _, _, _, _, _, b, off, _, hkk⟩ := h
      obtain ⟨u, _, hu⟩ := hkk j hj'
      exact hu.elim
    | succ m =>
      refine ⟨m, os[j], fun w' hw => entries_hit m v i g r t ks os S w' (hr w' hw) (hS' w' hw) hv j hj hj', fun w' hw => ?_⟩
      refine (done_any (m + 1) 8 i g r t ks os v S ks[j] w' (hr w' hw) (hS' w' hw) hlen).mono ?_
      rintro e w2 ⟨⟨u, told, rfl, hu⟩, hk2⟩
      refine ⟨⟨u, told, rfl, ?_⟩, hk2⟩
      rcases hu with ⟨_, hne⟩ | ⟨j2, hj2, hj2', he, hr2⟩
      · exact absurd rfl (hne j hj)
      · have := hdis j2 j hj2 hj he
        subst this
        exact hr2
  · have hne : ∀ j (h : j < ks.length), ks[j] ≠ key := fun j hj he => hf ⟨j, hj, he⟩
    refine ⟨0, nullOb, fun w' hw => entries_miss 0 n v i g r t ks os S w' (hr w' hw) (hS' w' hw) hv key hk hne, fun w' hw => ?_⟩
    refine (done_any n 8 i g r t ks os v S key w' (hr w' hw) (hS' w' hw) hlen).mono ?_
    rintro e w2 ⟨⟨u, told, rfl, hu⟩, hk2⟩
    refine ⟨⟨u, told, rfl, ?_⟩, hk2⟩
    rcases hu with ⟨rfl, _⟩ | ⟨j2, hj2, hj2', he, _⟩
    · exact nullOb_rep 0 _ _
    · exact absurd he (hne j2 hj2)

theorem kinds_cell {w : World} {kb : Nat} (h : w.heap[kb]? = some (.cells #[.int .i64 1, .int .i64 2, .int .i64 2, .int .i64 6, .int .i64 4, .int .i64 5, .int .i64 7, .int .i64 8, .int .i64 9] 3)) (j : Nat) (hj : j < 9) : w.cell? ⟨kb, j, none⟩ = some (.int .i64 (kindsL.getD j 0)) := by
  have hc : j = 0 ∨ j = 1 ∨ j = 2 ∨ j = 3 ∨ j = 4 ∨ j = 5 ∨ j = 6 ∨ j = 7 ∨ j = 8 := by omega
  rcases hc with rfl | rfl | rfl | rfl | rfl | rfl | rfl | rfl | rfl <;> simp [World.cell?, h, kindsL]

theorem rep_kind {m : Nat} {w : World} {S : Nat → Prop} {d0 : Int} {c1 c2 c3 c4 c5 c6 : Value} {o : Ob} (h : Rep (m + 1) w S (.agg #[.int .i64 d0, c1, c2, c3, c4, c5, c6]) o) : kindOf o = d0 := by
  obtain ⟨k, i, g, r, t, ks, os⟩ := o
  obtain ⟨ka, ca, kc, cc, he, _⟩ := h
  simp at he
  exact he.1.symm

theorem want_at (o' : Ob) (j : Nat) (_hj : j < 9) (h : j < (kindsL.map (wantOb o')).length) : (kindsL.map (wantOb o'))[j] = wantOb o' (kindsL.getD j 0) := by
  have h2 : j < kindsL.length := by simpa using h
  simp [List.getD, h2]

set_option maxRecDepth 100000 in
set_option maxHeartbeats 4000000 in
theorem fnEntries_any (n : Nat) (v : Value) (o : Ob) (key : ByteArray) (S : Nat → Prop) (w : World) (h : Rep n w S v o) (hS : ∀ k, S k → k < w.heap.size) (hg : Gl w) (hkey : key.size ≤ 140737488355328) :
    Calls Tryz.prog 4 #[v, .string key] w fun e w' => e = .returned (.bool true) ∧ Below w.heap.size w w' := by
  cases n with
  | zero => exact h.elim
  | succ n =>
    have HS := Lib.hid hS
    have HG := Lib.hid hg
    have h' := h
    obtain ⟨k, i, g, r, t, ks, os⟩ := o
    obtain ⟨ka, ca, kc, cc, rfl, _⟩ := h
    have H := Lib.hid h'
    clear h' hS hg
    obtain ⟨kl, hkl⟩ : ∃ x, x = ks.length := ⟨_, rfl⟩
    obtain ⟨cl, hcl⟩ : ∃ x, x = os.length := ⟨_, rfl⟩
    rw [← hkl, ← hcl] at H ⊢
    clear hkl hcl
    have hsf := @store_float Tryz.prog
    go_enter Tryz.func4, Tryz.ntmps4
    go_wp2_with fail
    have hbx := Box7.made w (.int .i64 k) (.int .i64 i) (.int .i64 g) (.float .f64 r) (.string t) (.slice ka kl kc) (.slice ca cl cc)
    have hka : Kept (fun _ => False) w (w.alloc (.cells #[.int .i64 k, .int .i64 i, .int .i64 g, .float .f64 r, .string t, .slice ka kl kc, .slice ca cl cc] 26)) := (Kept.refl _ w).alloc _
    have hsa : (w.alloc (.cells #[.int .i64 k, .int .i64 i, .int .i64 g, .float .f64 r, .string t, .slice ka kl kc, .slice ca cl cc] 26)).heap.size = w.heap.size + 1 := by simp
    generalize w.alloc (.cells #[.int .i64 k, .int .i64 i, .int .i64 g, .float .f64 r, .string t, .slice ka kl kc, .slice ca cl cc] 26) = wa at hbx hka hsa ⊢
    have hsa1 : w.heap.size + 1 ≤ wa.heap.size := by omega
    clear hsa
    have HKA := Lib.hid hka
    have HBX := Lib.hid hbx
    clear hka hbx
    have bel : ∀ {w' : World}, Kept (fun _ => False) w w' → Below w.heap.size w w' := fun h => h.below (fun _ h => h.elim) (Nat.le_refl _)
    refine (fits1_any (n + 1) _ _ S wa (H.out.same (fun k hk => ⟨HKA.out.block k (HS.out k hk) (fun h => h), hk⟩)) (fun k hk => by have := HS.out k hk; omega)).mono ?_
    rintro e w1 ⟨⟨b, rfl⟩, hb1⟩
    have hs1 := hb1.size
    have hk1 : Kept (fun _ => False) wa w1 := Kept.ofBelow (S := fun _ => False) hb1 (fun k hk hle => by omega)
    have HB1 := Lib.hid (HBX.out.kept hk1 (fun h => h))
    have HK1 := Lib.hid (HKA.out.trans hk1 (fun _ _ h => h))
    clear hb1 hk1 HKA HBX
    cases b
    · go_wp2_with fail
      go_ret
      exact ⟨rfl, bel HK1.out⟩
    · by_cases hbig : (key.size : Int) > 2147483647
      · go_wp2_with fail
        go_ret
        exact ⟨rfl, bel HK1.out⟩
      · obtain ⟨g0, g1, g2, g3, g4, g5, g6⟩ := HB1.out.at
        by_cases hk8 : k = 8
        · subst hk8
          go_wp2_with fail
          refine (nullFree_any twelve_any (n + 1) _ _ S w1 (H.out.same (fun k hk => ⟨HK1.out.block k (HS.out k hk) (fun h => h), hk⟩)) (fun k hk => by have := HS.out k hk; omega) (HG.out.below (bel HK1.out))).mono ?_
          rintro e w2 ⟨⟨y, rfl, hy⟩, hb2⟩
          have hs2 := hb2.size
          have hk2 : Kept (fun _ => False) w1 w2 := Kept.ofBelow (S := fun _ => False) hb2 (fun k hk hle => by omega)
          have HB2 := Lib.hid (HB1.out.kept hk2 (fun h => h))
          have HK2 := Lib.hid (HK1.out.trans hk2 (fun _ _ h => h))
          have HY := Lib.hid hy
          clear hb2 hk2 HB1 HK1 hy g0 g1 g2 g3 g4 g5 g6
          cases y
          · go_wp2_with fail
            go_ret
            exact ⟨rfl, bel HK2.out⟩
          · have hvd := HY.out rfl
            have HVD := Lib.hid hvd
            clear hvd HY
            go_wp2_with fail
            refine (simple_any key w2 hkey).mono ?_
            rintro e w2' ⟨⟨y, rfl⟩, rfl⟩
            obtain ⟨g0, g1, g2, g3, g4, g5, g6⟩ := HB2.out.at
            cases y
            · go_wp2_with fail
              go_ret
              exact ⟨rfl, bel HK2.out⟩
            · go_wp2_with fail
              refine (fromObjectTop_any twelve_any (n + 1) _ _ S w2 (H.out.same (fun k hk => ⟨HK2.out.block k (HS.out k hk) (fun h => h), hk⟩)) (fun k hk => by have := HS.out k hk; omega) (HG.out.below (bel HK2.out))).mono ?_
              rintro e w3 ⟨⟨u, y, hu, hy, rfl⟩, hb3⟩
              obtain ⟨k', i', g', r', t', ka', ca', kl', kc', cl', cc', rfl⟩ := hu.form
              have hs3 := hb3.size
              have hk3 : Kept (fun _ => False) w2 w3 := Kept.ofBelow (S := fun _ => False) hb3 (fun k hk hle => by omega)
              have HB3 := Lib.hid (HB2.out.kept hk3 (fun h => h))
              have HK3 := Lib.hid (HK2.out.trans hk3 (fun _ _ h => h))
              have HU := Lib.hid hu
              clear hb3 hk3 HB2 HK2 hu hy g0 g1 g2 g3 g4 g5 g6
              go_wp2_with fail
              have hk4 : Kept (fun _ => False) w3 (w3.alloc (.cells #[.int .i64 k', .int .i64 i', .int .i64 g', .float .f64 r', .string t', .slice ka' kl' kc', .slice ca' cl' cc'] 30)) := (Kept.refl _ w3).alloc _
              have hs4 : (w3.alloc (.cells #[.int .i64 k', .int .i64 i', .int .i64 g', .float .f64 r', .string t', .slice ka' kl' kc', .slice ca' cl' cc'] 30)).heap.size = w3.heap.size + 1 := by simp
              generalize w3.alloc (.cells #[.int .i64 k', .int .i64 i', .int .i64 g', .float .f64 r', .string t', .slice ka' kl' kc', .slice ca' cl' cc'] 30) = w4 at hk4 hs4 ⊢
              have hs4' : w3.heap.size + 1 ≤ w4.heap.size := by omega
              have HU4 := Lib.hid (HU.out.same (w' := w4) (S' := fun k => w2.heap.size ≤ k ∧ k < w3.heap.size) (fun k hk => ⟨hk4.block k hk.2 (fun h => h), hk⟩))
              have HB4 := Lib.hid (HB3.out.kept hk4 (fun h => h))
              have HK4 := Lib.hid (HK3.out.trans hk4 (fun _ _ h => h))
              clear hk4 hs4 HU HB3 HK3
              refine (modest_any (n + 1) _ _ w4 HU4.out (fun k hk => by omega)).mono ?_
              rintro e w5 ⟨⟨mo, rfl⟩, hb5⟩
              have hs5 := hb5.size
              have hk5 : Kept (fun _ => False) w4 w5 := Kept.ofBelow (S := fun _ => False) hb5 (fun k hk hle => by omega)
              have HB5 := Lib.hid (HB4.out.kept hk5 (fun h => h))
              have HK5 := Lib.hid (HK4.out.trans hk5 (fun _ _ h => h))
              clear hb5 hk5 HB4 HK4 HU4
              cases mo
              · go_wp2_with fail
                go_ret
                exact ⟨rfl, bel HK5.out⟩
              · obtain ⟨m, o', hent, hdone⟩ := asked n _ i g r t ks os S w H.out HS.out HVD.out key hkey
                have HENT := Lib.hid hent
                have HDONE := Lib.hid hdone
                clear hent hdone
                have hk6 : Kept (fun _ => False) w5 (w5.alloc (.cells #[.int .i64 1, .int .i64 2, .int .i64 2, .int .i64 6, .int .i64 4, .int .i64 5, .int .i64 7, .int .i64 8, .int .i64 9] 3)) := (Kept.refl _ w5).alloc _
                have hat6 := alloc_at w5 (.cells #[.int .i64 1, .int .i64 2, .int .i64 2, .int .i64 6, .int .i64 4, .int .i64 5, .int .i64 7, .int .i64 8, .int .i64 9] 3)
                have hs6 : (w5.alloc (.cells #[.int .i64 1, .int .i64 2, .int .i64 2, .int .i64 6, .int .i64 4, .int .i64 5, .int .i64 7, .int .i64 8, .int .i64 9] 3)).heap.size = w5.heap.size + 1 := by simp
                obtain ⟨g0, g1, g2, g3, g4, g5, g6⟩ := (HB5.out.kept hk6 (fun h => h)).at
                have HK6' := Lib.hid hk6
                have HAT6' := Lib.hid hat6
                have HS6' := Lib.hid hs6
                clear hk6 hat6 hs6
                go_wp2_with fail
                have hk6 := HK6'.out
                have hat6 := HAT6'.out
                have hs6 := HS6'.out
                clear HK6' HAT6' HS6' g0 g1 g2 g3 g4 g5 g6
                generalize w5.alloc (.cells #[.int .i64 1, .int .i64 2, .int .i64 2, .int .i64 6, .int .i64 4, .int .i64 5, .int .i64 7, .int .i64 8, .int .i64 9] 3) = w6 at hk6 hat6 hs6 ⊢
                obtain ⟨kb, hkb⟩ : ∃ x, x = w5.heap.size := ⟨_, rfl⟩
                rw [← hkb] at hat6 ⊢
                have hkb1 : kb < w6.heap.size := by omega
                have HB6 := Lib.hid (HB5.out.kept hk6 (fun h => h))
                have HK6 := Lib.hid (HK5.out.trans hk6 (fun _ _ h => h))
                clear hk6 hs6 hkb HB5 HK5
                refine (HENT.out w6 HK6.out).mono ?_
                rintro e w7 ⟨⟨ga, gc, us, os', B, rfl, hl9, hrow, heq⟩, hb7⟩
                have hs7 := hb7.size
                have hk7 : Kept (fun _ => False) w6 w7 := Kept.ofBelow (S := fun _ => False) hb7 (fun k hk hle => by omega)
                have HB7 := Lib.hid (HB6.out.kept hk7 (fun h => h))
                have HK7 := Lib.hid (HK6.out.trans hk7 (fun _ _ h => h))
                have HAT7 := Lib.hid ((hk7.block kb hkb1 (fun h => h)).trans hat6)
                have HROW := Lib.hid hrow
                have HEQ := Lib.hid heq
                have HL9 := Lib.hid hl9
                clear hb7 hk7 hat6 hrow heq hl9 HB6 HK6 HENT
                obtain ⟨g0, g1, g2, g3, g4, g5, g6⟩ := HB7.out.at
                go_wp2_with fail
                refine (HDONE.out w7 HK7.out).mono ?_
                rintro e w8 ⟨⟨u, told, rfl, hr⟩, hk8⟩
                obtain ⟨d0, d1, d2, d3, d4, dka, dca, dkl, dkc, dcl, dcc, rfl⟩ := hr.form
                have hs8 := hk8.size
                have HK8 := Lib.hid (HK7.out.trans hk8 (fun _ _ h => h))
                have HAT8 := Lib.hid ((hk8.block kb (by omega) (fun h => h)).trans HAT7.out)
                have HROW8 := Lib.hid (HROW.out.kept hk8 (fun _ _ _ h => h))
                have HR := Lib.hid hr
                clear hk8 hr HB7 HK7 HAT7 HROW HDONE g0 g1 g2 g3 g4 g5 g6
                obtain ⟨hk9, hs9, hx9, hy9⟩ := two7 w8 (.int .i64 8) (.int .i64 i) (.int .i64 g) (.float .f64 r) (.string t) (.slice ka kl kc) (.slice ca cl cc) (.int .i64 d0) (.int .i64 d1) (.int .i64 d2) (.float .f64 d3) (.string d4) (.slice dka dkl dkc) (.slice dca dcl dcc)
                have HK9' := Lib.hid hk9
                have HS9' := Lib.hid hs9
                have HY9' := Lib.hid hy9
                clear hk9 hs9 hx9 hy9
                go_wp2_with fail
                have hk9 := HK9'.out
                have hs9 := HS9'.out
                have hy9 := HY9'.out
                clear HK9' HS9' HY9'
                generalize (w8.alloc (.cells #[.int .i64 8, .int .i64 i, .int .i64 g, .float .f64 r, .string t, .slice ka kl kc, .slice ca cl cc] 26)).alloc (.cells #[.int .i64 d0, .int .i64 d1, .int .i64 d2, .float .f64 d3, .string d4, .slice dka dkl dkc, .slice dca dcl dcc] 26) = w9 at hk9 hs9 hy9 ⊢
                obtain ⟨vb, hvb⟩ : ∃ x, x = w8.heap.size + 1 := ⟨_, rfl⟩
                rw [← hvb] at hy9 ⊢
                have hz9 : w8.heap.size + 2 ≤ w9.heap.size := by omega
                have hkb2 : kb < w8.heap.size := by omega
                have HKD := Lib.hid (rep_kind HR.out)
                have HY := Lib.hid hy9
                have HK9 := Lib.hid (HK8.out.trans hk9 (fun _ _ h => h))
                have HAT9 := Lib.hid ((hk9.block kb hkb2 (fun h => h)).trans HAT8.out)
                have HR9 := Lib.hid (HR.out.same (w' := w9) (S' := S) (fun k hk => ⟨hk9.block k (by have := HS.out k hk; have := HK8.out.size; omega) (fun h => h), hk⟩))
                obtain ⟨gb, goff, hga, hkids⟩ := HROW8.out.rep (w' := w9) (S := fun k => k < w8.heap.size) (fun k _ hk => ⟨hk9.block k hk (fun h => h), hk⟩)
                obtain ⟨rfl, hgb⟩ := hga (by rw [HL9.out]; omega)
                have HKIDS := Lib.hid hkids
                clear hk9 hs9 hy9 hvb HK8 HAT8 HROW8 HR hga hkids
                go_loopw [65, 13, 14, 15] (fun i _ _ _ wr => ∃ (j : Nat), j ≤ 9 ∧ i = .int .i64 j ∧ Kept (fun _ => False) w9 wr) (fun i _ _ _ _ => 9 - (intOf i).toNat)
                case atStart => exact ⟨0, by omega, rfl, Kept.refl _ _⟩
                case round =>
                  obtain ⟨j, hj, rfl, hkw⟩ := hrel
                  have hsw := hkw.size
                  have HKW := Lib.hid hkw
                  have HKR := Lib.hid (HK9.out.trans hkw (fun _ _ h => h))
                  have HYR := Lib.hid (HY.out.kept hkw (fun h => h))
                  have HRR := Lib.hid (HR9.out.same (w' := wr) (S' := S) (fun k hk => ⟨hkw.block k (by have := HS.out k hk; have := HK9.out.size; omega) (fun h => h), hk⟩))
                  have hat := (hkw.block kb (by omega) (fun h => h)).trans HAT9.out
                  by_cases hlt : j < 9
                  · have hkc := kinds_cell hat j hlt
                    obtain ⟨kj, hkj⟩ : ∃ x, x = kindsL.getD j 0 := ⟨_, rfl⟩
                    rw [← hkj] at hkc
                    have HKJ := Lib.hid hkj
                    clear hkj
                    obtain ⟨u7, hu7, hur⟩ := HKIDS.out j (by rw [HL9.out]; exact hlt)
                    obtain ⟨p0, p1, p2, p3, p4, pka, pca, pkl, pkc, pcl, pcc, rfl⟩ := hur.form
                    have hu7 := hu7.same (hkw.block gb (by omega) (fun h => h))
                    have HUR := Lib.hid (hur.same (w' := wr) (S' := fun k => k < w8.heap.size) (fun k hk => ⟨hkw.block k (by omega) (fun h => h), hk⟩))
                    clear hkw hat hur
                    by_cases hq : d0 = kj
                    · have hqb : (d0 == kj) = true := by simp [hq]
                      have HQ := Lib.hid hq
                      clear hq
                      have hkz : Kept (fun _ => False) wr (wr.alloc (.cells #[.int .i64 0, .int .i64 0, .int .i64 0, .float .f64 0, .string { data := #[] }, .slice none 0 0, .slice none 0 0] 26)) := (Kept.refl _ wr).alloc _
                      obtain ⟨g0, g1, g2, g3, g4, g5, g6⟩ := (HYR.out.kept hkz (fun h => h)).at
                      have hke : Kept (fun _ => False) wr (wr.alloc (.cells #[.int .i64 d0, .int .i64 d1, .int .i64 d2, .float .f64 d3, .string d4, .slice dka dkl dkc, .slice dca dcl dcc] 26)) := (Kept.refl _ wr).alloc _
                      have hse : (wr.alloc (.cells #[.int .i64 d0, .int .i64 d1, .int .i64 d2, .float .f64 d3, .string d4, .slice dka dkl dkc, .slice dca dcl dcc] 26)).heap.size = wr.heap.size + 1 := by simp
                      have HKE := Lib.hid hke
                      have HSE := Lib.hid hse
                      have HBE := Lib.hid (Box7.made wr (.int .i64 d0) (.int .i64 d1) (.int .i64 d2) (.float .f64 d3) (.string d4) (.slice dka dkl dkc) (.slice dca dcl dcc))
                      clear hkz hke hse
                      go_wp2_with fail
                      have hke := HKE.out
                      have hse := HSE.out
                      have hbe := HBE.out
                      clear g0 g1 g2 g3 g4 g5 g6 HKE HSE HBE
                      generalize wr.alloc (.cells #[.int .i64 d0, .int .i64 d1, .int .i64 d2, .float .f64 d3, .string d4, .slice dka dkl dkc, .slice dca dcl dcc] 26) = wx at hke hse hbe ⊢
                      have hse' : wr.heap.size + 1 ≤ wx.heap.size := by omega
                      have hse2 : wx.heap.size ≤ wr.heap.size + 1 := by omega
                      have HKE := Lib.hid hke
                      obtain ⟨m0, m1, m2, m3, m4, m5, m6⟩ := (hu7.same (hke.block gb (by omega) (fun h => h))).cells
                      obtain ⟨e0, e1, e2, e3, e4, e5, e6⟩ := hbe.at
                      clear hke hbe hse
                      go_still_tail 5, (by kernel_rfl)
                      change wpList _ _ _ _ _ wx.drew
                      have hkd : Kept (fun _ => False) wr wx.drew := HKE.out.drew
                      have hsd : wr.heap.size + 1 ≤ wx.drew.heap.size := hse'
                      clear m0 m1 m2 m3 m4 m5 m6 e0 e1 e2 e3 e4 e5 e6 HKE
                      generalize wx.drew = wd at hkd hsd ⊢
                      have hsd' : wr.heap.size + 1 ≤ wd.heap.size := by omega
                      clear hsd
                      have HEJ : EqN (m + 1) (os'[j]'(by rw [HL9.out]; exact hlt)) o' := by
                        have := HEQ.out j (by rw [HL9.out]; exact hlt) (by simp [kindsL]; omega)
                        rw [want_at o' j hlt (by simp [kindsL]; omega), ← HKJ.out] at this; unfold wantOb at this; rw [if_pos (by rw [HKD.out]; exact HQ.out)] at this; exact this
                      have hcall := equal_any (m + 1) _ _ _ _ (fun k => k < w8.heap.size) S wd (HUR.out.same (w' := wd) (S' := fun k => k < w8.heap.size) (fun k hk => ⟨hkd.block k (by omega) (fun h => h), hk⟩)) (HRR.out.same (w' := wd) (S' := S) (fun k hk => ⟨hkd.block k (by have := HS.out k hk; have := HKR.out.size; omega) (fun h => h), hk⟩)) (fun k hk => by omega) (fun k hk => by have := HS.out k hk; have := HKR.out.size; omega) HEJ
                      have HCALL := Lib.hid hcall
                      have HKD2 := Lib.hid hkd
                      clear hcall hkd HEJ
                      go_wp2_with fail
                      refine HCALL.out.mono ?_
                      rintro e w10 ⟨rfl, hk10⟩
                      have HK10 := Lib.hid ((HKW.out.trans HKD2.out (fun _ _ h => h)).trans hk10 (fun _ _ h => h))
                      clear hk10
                      go_wp2_with fail
                      go_roundw
                      case measure => simp [intOf]; omega
                      case rel => exact ⟨j + 1, by omega, by go_num, HK10.out⟩
                    · have hqb : (d0 == kj) = false := by simp [hq]
                      have HQ := Lib.hid hq
                      clear hq
                      have hkz : Kept (fun _ => False) wr (wr.alloc (.cells #[.int .i64 0, .int .i64 0, .int .i64 0, .float .f64 0, .string { data := #[] }, .slice none 0 0, .slice none 0 0] 26)) := (Kept.refl _ wr).alloc _
                      have g0 := (HYR.out.kept hkz (fun h => h)).at.1
                      have hke : Kept (fun _ => False) wr (wr.alloc (.cells #[.int .i64 0, .int .i64 0, .int .i64 0, .float .f64 0, .string { data := #[] }, .slice none 0 0, .slice none 0 0] 26)) := (Kept.refl _ wr).alloc _
                      have hse : (wr.alloc (.cells #[.int .i64 0, .int .i64 0, .int .i64 0, .float .f64 0, .string { data := #[] }, .slice none 0 0, .slice none 0 0] 26)).heap.size = wr.heap.size + 1 := by simp
                      have HKE := Lib.hid hke
                      have HSE := Lib.hid hse
                      have HBE := Lib.hid (Box7.made wr (.int .i64 0) (.int .i64 0) (.int .i64 0) (.float .f64 0) (.string { data := #[] }) (.slice none 0 0) (.slice none 0 0))
                      clear hkz hke hse
                      go_wp2_with fail
                      have hke := HKE.out
                      have hse := HSE.out
                      have hbe := HBE.out
                      clear g0 HKE HSE HBE
                      generalize wr.alloc (.cells #[.int .i64 0, .int .i64 0, .int .i64 0, .float .f64 0, .string { data := #[] }, .slice none 0 0, .slice none 0 0] 26) = wx at hke hse hbe ⊢
                      have hse' : wr.heap.size + 1 ≤ wx.heap.size := by omega
                      have hse2 : wx.heap.size ≤ wr.heap.size + 1 := by omega
                      have HKE := Lib.hid hke
                      obtain ⟨m0, m1, m2, m3, m4, m5, m6⟩ := (hu7.same (hke.block gb (by omega) (fun h => h))).cells
                      obtain ⟨e0, e1, e2, e3, e4, e5, e6⟩ := hbe.at
                      clear hke hbe hse
                      go_still_tail 5, (by kernel_rfl)
                      change wpList _ _ _ _ _ wx.drew
                      have hkd : Kept (fun _ => False) wr wx.drew := HKE.out.drew
                      have hsd : wr.heap.size + 1 ≤ wx.drew.heap.size := hse'
                      clear m0 m1 m2 m3 m4 m5 m6 e0 e1 e2 e3 e4 e5 e6 HKE
                      generalize wx.drew = wd at hkd hsd ⊢
                      have hsd' : wr.heap.size + 1 ≤ wd.heap.size := by omega
                      clear hsd
                      have HEJ : EqN (m + 1) (os'[j]'(by rw [HL9.out]; exact hlt)) nullOb := by
                        have := HEQ.out j (by rw [HL9.out]; exact hlt) (by simp [kindsL]; omega)
                        rw [want_at o' j hlt (by simp [kindsL]; omega), ← HKJ.out] at this; unfold wantOb at this; rw [if_neg (by rw [HKD.out]; exact HQ.out)] at this; exact this
                      have hcall := equal_any (m + 1) _ _ _ _ (fun k => k < w8.heap.size) S wd (HUR.out.same (w' := wd) (S' := fun k => k < w8.heap.size) (fun k hk => ⟨hkd.block k (by omega) (fun h => h), hk⟩)) (show Rep (m + 1) wd S (.agg #[.int .i64 0, .int .i64 0, .int .i64 0, .float .f64 0, .string { data := #[] }, .slice none 0 0, .slice none 0 0]) nullOb from nullOb_rep m wd S) (fun k hk => by omega) (fun k hk => by have := HS.out k hk; have := HKR.out.size; omega) HEJ
                      have HCALL := Lib.hid hcall
                      have HKD2 := Lib.hid hkd
                      clear hcall hkd HEJ
                      go_wp2_with fail
                      refine HCALL.out.mono ?_
                      rintro e w10 ⟨rfl, hk10⟩
                      have HK10 := Lib.hid ((HKW.out.trans HKD2.out (fun _ _ h => h)).trans hk10 (fun _ _ h => h))
                      clear hk10
                      go_wp2_with fail
                      go_roundw
                      case measure => simp [intOf]; omega
                      case rel => exact ⟨j + 1, by omega, by go_num, HK10.out⟩
                  · clear hkw hat
                    go_wp2_with fail
                    go_ret
                    exact ⟨rfl, bel HKR.out⟩
        · have hq8 : (k != 8) = true := by simp [hk8]
          go_wp2_with fail
          go_ret
          exact ⟨rfl, bel HK1.out⟩

end Go.Proofs.YtcpijmbdibgdmaaGreatDoor
