/-
  impl.tell.
-/
import Derived.Test.YtcpijmbdibgdmaaGreatDoorD8
namespace Go.Proofs.YtcpijmbdibgdmaaGreatDoor
open Go Go.RowKit

theorem cmp_eq {a b : Int} (h : compare a b = .eq) : a = b := by
  unfold compare instOrdInt compareOfLessAndEq at h
  simp only at h
  split at h
  · simp at h
  · split at h
    · assumption
    · simp at h

theorem cmp_self (a : Int) : compare a a = .eq := by
  unfold compare instOrdInt compareOfLessAndEq
  simp

theorem datum_swap (a b : Ieee.Datum) (h : a.order b = some .eq) : b.order a = some .eq := by
  cases a with
  | nan s f => simp [Ieee.Datum.order] at h
  | infinity s =>
    cases b with
    | nan t f => simp [Ieee.Datum.order] at h
    | number t n j => cases s <;> simp [Ieee.Datum.order] at h
    | infinity t => cases s <;> cases t <;> first | rfl | (exfalso; revert h; decide)
  | number s m i =>
    cases b with
    | nan t f => simp [Ieee.Datum.order] at h
    | infinity t => cases t <;> simp [Ieee.Datum.order] at h
    | number t n j =>
      simp only [Ieee.Datum.order] at h ⊢
      have e := cmp_eq (Option.some.inj h)
      rw [Int.min_comm j i, e, cmp_self]

theorem order_swap {x y : Nat} (h : FloatKind.f64.format.order x y = some .eq) : FloatKind.f64.format.order y x = some .eq := datum_swap _ _ h

theorem order_zero : FloatKind.f64.format.order 0 0 = some .eq := by decide

/-- An object without parts, as it is told. -/
theorem leafRep (n : Nat) (w : World) (S : Nat → Prop) (k i g : Int) (r : Nat) (t : ByteArray) (ht : t.size ≤ 140737488351232) (hr : r < 18446744073709551616) :
    Rep (n + 1) w S (.agg #[.int .i64 k, .int .i64 i, .int .i64 g, .float .f64 r, .string t, .slice none 0 0, .slice none 0 0]) (.mk k i g r t [] []) :=
  ⟨none, none, 0, 0, rfl, ht, hr, ⟨by simp, 0, 0, by simp, fun j hj => by simp at hj⟩, by simp, 0, 0, by simp, fun j hj => by simp at hj⟩

theorem leafEq (n : Nat) {k i g : Int} {r r' : Nat} {t : ByteArray} {ks : List ByteArray} {os : List Ob} (h1 : ks.length = 0) (h2 : os.length = 0) (h3 : FloatKind.f64.format.order r' r = some .eq) : EqN (n + 1) (.mk k i g r' t [] []) (.mk k i g r t ks os) := by
  have e1 := List.length_eq_zero_iff.1 h1
  have e2 := List.length_eq_zero_iff.1 h2
  subst e1
  subst e2
  exact ⟨rfl, rfl, rfl, h3, rfl, rfl, rfl, fun j hj => by simp at hj⟩

theorem RepRow.rep {n : Nat} {w w' : World} {base len cap : Nat} {a : Option Addr} {us : List Value} {os : List Ob} {S : Nat → Prop} (h : RepRow n w base (.slice a len cap) us os) (hS : ∀ k, base ≤ k → k < w.heap.size → w'.heap[k]? = w.heap[k]? ∧ S k) :
    ∃ b off, (0 < os.length → a = some ⟨b, off, none⟩ ∧ S b) ∧ ∀ j (h : j < os.length), ∃ u, At7 w' b (off + j * 7) u ∧ Rep n w' S u os[j] := by
  have hl := h.len
  obtain ⟨ca', cc', b', hsv', hca', hat⟩ := row7 h.own (fun u hu => by
    obtain ⟨j, hj, rfl⟩ := List.getElem_of_mem hu
    exact (h.reps j hj (by omega)).seven)
  injection hsv' with e1 _ _
  subst e1
  refine ⟨b', 0, fun hp => ?_, fun j hj => ⟨us[j]'(by omega), ?_, ?_⟩⟩
  · have := hca' (by omega)
    exact ⟨this.1, (hS b' this.2.2.1 this.2.2.2).2⟩
  · have hb := hca' (by omega)
    exact (hat j (by omega)).same (hS b' hb.2.2.1 hb.2.2.2).1
  · exact (h.reps j (by omega) hj).same fun k hk => hS k hk.1 hk.2.1

set_option maxRecDepth 100000 in
set_option maxHeartbeats 4000000 in
theorem tell_step (n : Nat) (ih : Said22 n) : Said22 (n + 1) := by
  intro v o S w h hS hv
  have IH := Lib.hid ih
  have HS := Lib.hid hS
  obtain ⟨k, i, g, r, t, ks, os⟩ := o
  obtain ⟨hfit, h⟩ := h
  obtain ⟨⟨o1, o2, o3, o4, o5, o6⟩, hv⟩ := hv
  have HF := Lib.hid hfit
  have ht := hfit.t
  have hr := hfit.r
  clear ih hS hfit
  have hsf := @store_float Tryz.prog
  have z0 : (⟨#[]⟩ : ByteArray).size ≤ 140737488351232 := by decide
  rcases h with h | ⟨rfl, a, cap, b, us, F, rfl, hna, ha, hF, hc⟩ | ⟨rfl, b, nb, us, F, rfl, hb, hF, hnb, hdm, hl, hdis, hc⟩
  · rcases h with ⟨rfl, rfl⟩ | ⟨rfl, x, rfl, hi⟩ | ⟨rfl, rfl⟩ | ⟨rfl, rfl⟩ | ⟨rfl, rfl⟩ | ⟨rfl, rfl⟩ | ⟨rfl, rfl⟩ | ⟨rfl, rfl⟩
    · simp [numB, textB] at o1 o2 o3 o4 o5 o6
      subst o1
      subst o2
      have et := empty_of_toList o4
      subst et
      have HO := Lib.hid (leafEq n (k := 0) (i := 0) (g := 0) (t := ⟨#[]⟩) (ks := ks) (os := os) (by simp [o5]) (by simp [o6]) (order_swap o3))
      clear o3 o5 o6 hv
      go_enter Tryz.func22, Tryz.ntmps22
      go_wp2_with ((with_reducible show wpList _ _ _ (⟨_, .store 26 (.tmp 2) _, _, _, _, _⟩ :: _) _ _); go_must (refine wpx_store w.heap.size _ 26 (Blk.new w _ 26) 26 _ _ _ rfl rfl rfl rfl rfl Tryz.size26 rfl (by simp [Value.oneCell']) ?_); intro w2 hb2 hk2 hs2)
      refine bodyPost_ret (results_box rfl _ _ w.heap.size 26 _ _ rfl hb2 rfl Tryz.underlying26 Tryz.size26) rfl ?_
      exact ⟨⟨_, _, rfl, leafRep n _ _ 0 0 0 0 ⟨#[]⟩ z0 (by decide), HO.out⟩, ((Below.refl w.heap.size w).alloc (Nat.le_refl _) _).trans (hk2.below (fun k e => by have e' : k = w.heap.size := e; omega) (by simp; try omega))⟩
    · simp [numB, textB] at o1 o2 o3 o4 o5 o6
      cases x
      · have hi' : i = 0 := by simpa using hi
        subst hi'
        clear hi
        subst o2
        have et := empty_of_toList o4
        subst et
        have HO := Lib.hid (leafEq n (k := 1) (i := 0) (g := 0) (t := ⟨#[]⟩) (ks := ks) (os := os) (by simp [o5]) (by simp [o6]) (order_swap o3))
        clear o3 o5 o6 hv
        go_enter Tryz.func22, Tryz.ntmps22
        go_wp2_with ((with_reducible show wpList _ _ _ (⟨_, .store 26 (.tmp 2) _, _, _, _, _⟩ :: _) _ _); go_must (refine wpx_store w.heap.size _ 26 (Blk.new w _ 26) 26 _ _ _ rfl rfl rfl rfl rfl Tryz.size26 rfl (by simp [Value.oneCell']) ?_); intro w2 hb2 hk2 hs2)
        refine bodyPost_ret (results_box rfl _ _ w.heap.size 26 _ _ rfl hb2 rfl Tryz.underlying26 Tryz.size26) rfl ?_
        exact ⟨⟨_, _, rfl, leafRep n _ _ 1 0 0 0 ⟨#[]⟩ z0 (by decide), HO.out⟩, ((Below.refl w.heap.size w).alloc (Nat.le_refl _) _).trans (hk2.below (fun k e => by have e' : k = w.heap.size := e; omega) (by simp; try omega))⟩
      · have hi' : i = 1 := by simpa using hi
        subst hi'
        clear hi
        subst o2
        have et := empty_of_toList o4
        subst et
        have HO := Lib.hid (leafEq n (k := 1) (i := 1) (g := 0) (t := ⟨#[]⟩) (ks := ks) (os := os) (by simp [o5]) (by simp [o6]) (order_swap o3))
        clear o3 o5 o6 hv
        go_enter Tryz.func22, Tryz.ntmps22
        go_wp2_with ((with_reducible show wpList _ _ _ (⟨_, .store 26 (.tmp 2) _, _, _, _, _⟩ :: _) _ _); go_must (refine wpx_store w.heap.size _ 26 (Blk.new w _ 26) 26 _ _ _ rfl rfl rfl rfl rfl Tryz.size26 rfl (by simp [Value.oneCell']) ?_); intro w2 hb2 hk2 hs2)
        refine bodyPost_ret (results_box rfl _ _ w.heap.size 26 _ _ rfl hb2 rfl Tryz.underlying26 Tryz.size26) rfl ?_
        exact ⟨⟨_, _, rfl, leafRep n _ _ 1 1 0 0 ⟨#[]⟩ z0 (by decide), HO.out⟩, ((Below.refl w.heap.size w).alloc (Nat.le_refl _) _).trans (hk2.below (fun k e => by have e' : k = w.heap.size := e; omega) (by simp; try omega))⟩
    · simp [numB, textB] at o1 o2 o3 o4 o5 o6
      subst o2
      have et := empty_of_toList o4
      subst et
      have HO := Lib.hid (leafEq n (k := 2) (i := i) (g := 0) (t := ⟨#[]⟩) (ks := ks) (os := os) (by simp [o5]) (by simp [o6]) (order_swap o3))
      clear o3 o5 o6 hv
      go_enter Tryz.func22, Tryz.ntmps22
      go_wp2_with ((with_reducible show wpList _ _ _ (⟨_, .store 26 (.tmp 2) _, _, _, _, _⟩ :: _) _ _); go_must (refine wpx_store w.heap.size _ 26 (Blk.new w _ 26) 26 _ _ _ rfl rfl rfl rfl rfl Tryz.size26 rfl (by simp [Value.oneCell']) ?_); intro w2 hb2 hk2 hs2)
      refine bodyPost_ret (results_box rfl _ _ w.heap.size 26 _ _ rfl hb2 rfl Tryz.underlying26 Tryz.size26) rfl ?_
      exact ⟨⟨_, _, rfl, leafRep n _ _ 2 i 0 0 ⟨#[]⟩ z0 (by decide), HO.out⟩, ((Below.refl w.heap.size w).alloc (Nat.le_refl _) _).trans (hk2.below (fun k e => by have e' : k = w.heap.size := e; omega) (by simp; try omega))⟩
    · simp [numB, textB] at o1 o2 o3 o4 o5 o6
      subst o1
      subst o2
      have et := empty_of_toList o4
      subst et
      have hfin : FloatKind.f64.format.order r r = some .eq := by
        simp at hv
        exact hv
      have HO := Lib.hid (leafEq n (k := 3) (i := 0) (g := 0) (t := ⟨#[]⟩) (ks := ks) (os := os) (by simp [o5]) (by simp [o6]) hfin)
      clear o3 o5 o6 hv
      go_enter Tryz.func22, Tryz.ntmps22
      go_wp2_with ((with_reducible show wpList _ _ _ (⟨_, .store 26 (.tmp 2) _, _, _, _, _⟩ :: _) _ _); go_must (refine wpx_store w.heap.size _ 26 (Blk.new w _ 26) 26 _ _ _ rfl rfl rfl rfl rfl Tryz.size26 rfl (by simp [Value.oneCell']) ?_); intro w2 hb2 hk2 hs2)
      refine bodyPost_ret (results_box rfl _ _ w.heap.size 26 _ _ rfl hb2 rfl Tryz.underlying26 Tryz.size26) rfl ?_
      exact ⟨⟨_, _, rfl, leafRep n _ _ 3 0 0 r ⟨#[]⟩ z0 hr, HO.out⟩, ((Below.refl w.heap.size w).alloc (Nat.le_refl _) _).trans (hk2.below (fun k e => by have e' : k = w.heap.size := e; omega) (by simp; try omega))⟩
    · simp [numB, textB] at o1 o2 o3 o4 o5 o6
      subst o1
      subst o2
      have HO := Lib.hid (leafEq n (k := 4) (i := 0) (g := 0) (t := t) (ks := ks) (os := os) (by simp [o5]) (by simp [o6]) (order_swap o3))
      clear o3 o5 o6 hv
      go_enter Tryz.func22, Tryz.ntmps22
      go_wp2_with ((with_reducible show wpList _ _ _ (⟨_, .store 26 (.tmp 2) _, _, _, _, _⟩ :: _) _ _); go_must (refine wpx_store w.heap.size _ 26 (Blk.new w _ 26) 26 _ _ _ rfl rfl rfl rfl rfl Tryz.size26 rfl (by simp [Value.oneCell']) ?_); intro w2 hb2 hk2 hs2)
      refine bodyPost_ret (results_box rfl _ _ w.heap.size 26 _ _ rfl hb2 rfl Tryz.underlying26 Tryz.size26) rfl ?_
      exact ⟨⟨_, _, rfl, leafRep n _ _ 4 0 0 0 t ht (by decide), HO.out⟩, ((Below.refl w.heap.size w).alloc (Nat.le_refl _) _).trans (hk2.below (fun k e => by have e' : k = w.heap.size := e; omega) (by simp; try omega))⟩
    · simp [numB, textB] at o1 o2 o3 o4 o5 o6
      subst o1
      subst o2
      have HO := Lib.hid (leafEq n (k := 5) (i := 0) (g := 0) (t := t) (ks := ks) (os := os) (by simp [o5]) (by simp [o6]) (order_swap o3))
      clear o3 o5 o6 hv
      go_enter Tryz.func22, Tryz.ntmps22
      go_wp2_with ((with_reducible show wpList _ _ _ (⟨_, .store 26 (.tmp 2) _, _, _, _, _⟩ :: _) _ _); go_must (refine wpx_store w.heap.size _ 26 (Blk.new w _ 26) 26 _ _ _ rfl rfl rfl rfl rfl Tryz.size26 rfl (by simp [Value.oneCell']) ?_); intro w2 hb2 hk2 hs2)
      refine bodyPost_ret (results_box rfl _ _ w.heap.size 26 _ _ rfl hb2 rfl Tryz.underlying26 Tryz.size26) rfl ?_
      exact ⟨⟨_, _, rfl, leafRep n _ _ 5 0 0 0 t ht (by decide), HO.out⟩, ((Below.refl w.heap.size w).alloc (Nat.le_refl _) _).trans (hk2.below (fun k e => by have e' : k = w.heap.size := e; omega) (by simp; try omega))⟩
    · simp [numB, textB] at o1 o2 o3 o4 o5 o6
      subst o1
      subst o2
      have HO := Lib.hid (leafEq n (k := 6) (i := 0) (g := 0) (t := t) (ks := ks) (os := os) (by simp [o5]) (by simp [o6]) (order_swap o3))
      clear o3 o5 o6 hv
      go_enter Tryz.func22, Tryz.ntmps22
      go_wp2_with ((with_reducible show wpList _ _ _ (⟨_, .store 26 (.tmp 2) _, _, _, _, _⟩ :: _) _ _); go_must (refine wpx_store w.heap.size _ 26 (Blk.new w _ 26) 26 _ _ _ rfl rfl rfl rfl rfl Tryz.size26 rfl (by simp [Value.oneCell']) ?_); intro w2 hb2 hk2 hs2)
      refine bodyPost_ret (results_box rfl _ _ w.heap.size 26 _ _ rfl hb2 rfl Tryz.underlying26 Tryz.size26) rfl ?_
      exact ⟨⟨_, _, rfl, leafRep n _ _ 6 0 0 0 t ht (by decide), HO.out⟩, ((Below.refl w.heap.size w).alloc (Nat.le_refl _) _).trans (hk2.below (fun k e => by have e' : k = w.heap.size := e; omega) (by simp; try omega))⟩
    · simp [numB, textB] at o1 o2 o3 o4 o5 o6
      have et := empty_of_toList o4
      subst et
      have HO := Lib.hid (leafEq n (k := 9) (i := i) (g := g) (t := ⟨#[]⟩) (ks := ks) (os := os) (by simp [o5]) (by simp [o6]) (order_swap o3))
      clear o3 o5 o6 hv
      go_enter Tryz.func22, Tryz.ntmps22
      go_wp2_with ((with_reducible show wpList _ _ _ (⟨_, .store 26 (.tmp 2) _, _, _, _, _⟩ :: _) _ _); go_must (refine wpx_store w.heap.size _ 26 ((Blk.new w _ 26).alloc _) 26 _ _ _ rfl rfl rfl rfl rfl Tryz.size26 rfl (by simp [Value.oneCell']) ?_); intro w2 hb2 hk2 hs2)
      refine bodyPost_ret (results_box rfl _ _ w.heap.size 26 _ _ rfl hb2 rfl Tryz.underlying26 Tryz.size26) rfl ?_
      exact ⟨⟨_, _, rfl, leafRep n _ _ 9 i g 0 ⟨#[]⟩ z0 (by decide), HO.out⟩, (((Below.refl w.heap.size w).alloc (Nat.le_refl _) _).alloc (by simp) _).trans (hk2.below (fun k e => by have e' : k = w.heap.size := e; omega) (by simp; try omega))⟩
  · simp [numB, textB] at o1 o2 o4 o5
    have o3' : FloatKind.f64.format.order r 0 = some .eq := by simpa using o3
    subst o1
    subst o2
    have et := empty_of_toList o4
    subst et
    subst o5
    have hos : ∀ o ∈ os, Valid n o := by simpa using hv
    have HO3 := Lib.hid (order_swap o3')
    have HA := Lib.hid ha
    have HFT := Lib.hid hF
    have HC := Lib.hid hc
    have HOS := Lib.hid hos
    have hcl := HF.out.cl
    have HB0 := Lib.hid ((Below.refl w.heap.size w).alloc (Nat.le_refl _) (.cells #[.int .i64 0, .int .i64 0, .int .i64 0, .float .f64 0, .string ⟨#[]⟩, .slice none 0 0, .slice none 0 0] 26))
    clear o3 o3' o4 o6 hv hos ha hF hc
    go_enter Tryz.func22, Tryz.ntmps22
    go_wp2_with fail
    refine (tells_any n IH.out a cap b us F os S _ hcl HA.out (fun j k hk => (HFT.out.1 j k hk).1) (fun j hj => ?_) (fun k hk => by have := HS.out k hk; simp; omega) HOS.out).mono ?_
    · obtain ⟨h1, _, h3⟩ := HC.out j hj
      have hSb := HS.out b (HA.out (by omega)).2
      exact ⟨(HB0.out.cell (p := ⟨b, j, none⟩) hSb).trans h1, h3.below HB0.out (fun k hk => HS.out k (HFT.out.1 j k hk).1)⟩
    rintro e w1 ⟨⟨a2, cap2, vs, os', rfl, hlen', hrow, heq⟩, hb1⟩
    have hs1 := hb1.size
    simp at hs1
    have hk1 : Kept (fun _ => False) (w.alloc (.cells #[.int .i64 0, .int .i64 0, .int .i64 0, .float .f64 0, .string ⟨#[]⟩, .slice none 0 0, .slice none 0 0] 26)) w1 := Kept.ofBelow (S := fun _ => False) hb1 (fun k hk hle => by omega)
    have HBK := Lib.hid ((Blk.new w #[.int .i64 0, .int .i64 0, .int .i64 0, .float .f64 0, .string ⟨#[]⟩, .slice none 0 0, .slice none 0 0] 26).kept hk1 (fun h => h))
    have HB1 := Lib.hid (HB0.out.trans (hb1.mono (by simp)))
    have HR := Lib.hid hrow
    have HEQ := Lib.hid heq
    have HL := Lib.hid hlen'
    clear hrow heq hb1 hk1 hlen'
    go_wp2_with ((with_reducible show wpList _ _ _ (⟨_, .store 26 (.tmp 2) _, _, _, _, _⟩ :: _) _ _); go_must (refine wpx_store w.heap.size _ 26 HBK.out 26 _ _ _ rfl rfl rfl rfl rfl Tryz.size26 rfl (by simp [Value.oneCell']) ?_); intro w2 hb2 hk2 hs2)
    refine bodyPost_ret (results_box rfl _ _ w.heap.size 26 _ _ rfl hb2 rfl Tryz.underlying26 Tryz.size26) rfl ?_
    refine ⟨⟨_, .mk 7 0 0 0 ⟨#[]⟩ [] os', rfl, ?_, ?_⟩, HB1.out.trans (hk2.below (fun k e => by have e' : k = w.heap.size := e; omega) (by omega))⟩
    · refine ⟨none, a2, 0, cap2, by rw [HL.out]; rfl, z0, by decide, ⟨by simp, 0, 0, by simp, fun j hj => by simp at hj⟩, by rw [HL.out]; exact hcl, ?_⟩
      exact HR.out.rep fun k h1 h2 => ⟨hk2.block k h2 (fun e => by have e' : k = w.heap.size := e; simp at h1; omega), by simp at h1; omega, by omega⟩
    · exact ⟨rfl, rfl, rfl, HO3.out, rfl, rfl, HL.out, fun j h h' => HEQ.out j h h'⟩
  · simp [numB, textB] at o1 o2 o4
    have o3' : FloatKind.f64.format.order r 0 = some .eq := by simpa using o3
    subst o1
    subst o2
    have et := empty_of_toList o4
    subst et
    have hkv : KeysOk ks ∧ ∀ o ∈ os, Valid n o := by
      simp at hv
      exact hv.2
    have HO3 := Lib.hid (order_swap o3')
    have HFT := Lib.hid hF
    have HC := Lib.hid hc
    have HKV := Lib.hid hkv
    have HDM := Lib.hid hdm
    have HLEN := Lib.hid hl
    have HB0 := Lib.hid ((Below.refl w.heap.size w).alloc (Nat.le_refl _) (.cells #[.int .i64 0, .int .i64 0, .int .i64 0, .float .f64 0, .string ⟨#[]⟩, .slice none 0 0, .slice none 0 0] 26))
    have hbs := HS.out b hb
    clear o3 o3' o4 o5 o6 hv hkv hF hc hdm hl
    go_enter Tryz.func22, Tryz.ntmps22
    go_wp2_with fail
    refine (tellDict_any n IH.out b nb ks us F os r ⟨#[]⟩ S _ HF.out (HDM.out.same (HB0.out.block b hbs)) hb (fun j k hk => (HFT.out.1 j k hk).1) (fun j hj => (HC.out j hj).below HB0.out (fun k hk => HS.out k (HFT.out.1 j k hk).1)) (fun k hk => by have := HS.out k hk; simp; omega) HKV.out.2 HLEN.out HKV.out.1 hnb).mono ?_
    rintro e w1 ⟨⟨ka2, kc2, a2, cap2, vs, os', B, rfl, hlen', hB, hsr, hrow, heq⟩, hb1⟩
    have hs1 := hb1.size
    simp at hs1 hB
    have hk1 : Kept (fun _ => False) (w.alloc (.cells #[.int .i64 0, .int .i64 0, .int .i64 0, .float .f64 0, .string ⟨#[]⟩, .slice none 0 0, .slice none 0 0] 26)) w1 := Kept.ofBelow (S := fun _ => False) hb1 (fun k hk hle => by omega)
    have HBK := Lib.hid ((Blk.new w #[.int .i64 0, .int .i64 0, .int .i64 0, .float .f64 0, .string ⟨#[]⟩, .slice none 0 0, .slice none 0 0] 26).kept hk1 (fun h => h))
    have HB1 := Lib.hid (HB0.out.trans (hb1.mono (by simp)))
    have HR := Lib.hid hrow
    have HEQ := Lib.hid heq
    have HL := Lib.hid hlen'
    have HSR := Lib.hid hsr
    clear hrow heq hb1 hk1 hlen' hsr
    go_wp2_with ((with_reducible show wpList _ _ _ (⟨_, .store 26 (.tmp 2) _, _, _, _, _⟩ :: _) _ _); go_must (refine wpx_store w.heap.size _ 26 HBK.out 26 _ _ _ rfl rfl rfl rfl rfl Tryz.size26 rfl (by simp [Value.oneCell']) ?_); intro w2 hb2 hk2 hs2)
    refine bodyPost_ret (results_box rfl _ _ w.heap.size 26 _ _ rfl hb2 rfl Tryz.underlying26 Tryz.size26) rfl ?_
    refine ⟨⟨_, .mk 8 0 0 0 ⟨#[]⟩ ks os', rfl, ?_, ?_⟩, HB1.out.trans (hk2.below (fun k e => by have e' : k = w.heap.size := e; omega) (by omega))⟩
    · refine ⟨ka2, a2, kc2, cap2, by rw [HL.out], z0, by decide, ?_, by rw [HL.out]; exact HF.out.cl, ?_⟩
      · exact HSR.out.same fun k hk => ⟨hk2.block k hk.2 (fun e => by have e' : k = w.heap.size := e; have := hk.1; simp at this; omega), by have := hk.1; simp at this; omega, by have := hk.2; omega⟩
      · exact HR.out.rep fun k h1 h2 => ⟨hk2.block k h2 (fun e => by have e' : k = w.heap.size := e; omega), by omega, by omega⟩
    · exact ⟨rfl, rfl, rfl, HO3.out, rfl, rfl, HL.out, fun j h h' => HEQ.out j h h'⟩

theorem tell_any (n : Nat) : Said22 n := by
  induction n with
  | zero => intro v o S w h; exact h.elim
  | succ n ih => exact tell_step n ih

end Go.Proofs.YtcpijmbdibgdmaaGreatDoor

/-
  types.DecodeName of a name without a number sign; Dict.Find and Dict.Insert of a key that is not there.
-/
namespace Go.Proofs.YtcpijmbdibgdmaaGreatDoor
open Go Go.RowKit

theorem noByte_at {c : UInt8} {s : ByteArray} (h : noByte c s.data.toList = true) (k : Nat) (hk : k < s.size) : s[k] ≠ c := by
  intro e
  rw [noByte_false c s k hk e] at h
  simp at h

set_option maxRecDepth 100000 in
set_option maxHeartbeats 1000000 in
theorem decode_any (s : ByteArray) (h0 : noByte 0 s.data.toList = true) (h35 : noByte 35 s.data.toList = true) (hs : s.size ≤ 140737488355328) (w : World) :
    Calls Tryz.prog 60 #[.string s] w fun e w' => e = .returned (.tuple #[.string s, .nilIface]) ∧ Kept (fun _ => False) w w' ∧ w.heap.size + 1 ≤ w'.heap.size := by
  have H0 := Lib.hid h0
  have H35 := Lib.hid h35
  clear h0 h35
  go_enter Tryz.func60, Tryz.ntmps60
  go_wp2_with fail
  go_loopw [4, 6] (fun a4 i wr => ∃ k : Nat, a4 = .bool false ∧ i = .int .i64 k ∧ k ≤ s.size ∧ Kept (fun _ => False) w wr ∧ w.heap.size + 1 ≤ wr.heap.size) (fun _ i _ => s.size - (intOf i).toNat)
  case atStart => exact ⟨0, rfl, rfl, by omega, (Kept.refl _ _).alloc _, by simp⟩
  case round =>
    obtain ⟨k, rfl, rfl, hk, hkp, hsz⟩ := hrel
    have HK := Lib.hid hkp
    clear hkp
    by_cases hlt : k < s.size
    · have n0 := noByte_at H0.out k hlt
      have n35 := noByte_at H35.out k hlt
      have q0 : ((s[k].toNat : Int) == 0) = false := by
        simp
        intro e
        apply n0
        apply UInt8.toNat_inj.1
        show s[k].toNat = 0
        omega
      have q35 : ((s[k].toNat : Int) != 35) = true := by
        simp
        intro e
        apply n35
        apply UInt8.toNat_inj.1
        show s[k].toNat = 35
        omega
      clear n0 n35
      go_wp2_with fail
      go_roundw
      case measure => simp [intOf]; omega
      case rel => exact ⟨k + 1, rfl, by go_num, by omega, HK.out, hsz⟩
    · go_wp2_with fail
      go_ret2
      exact ⟨rfl, HK.out, hsz⟩

theorem DM.find {w : World} {b nb : Nat} {ks : List ByteArray} {us : Nat → Value} {done : Nat → Prop} (h : DM w b nb ks us done) (x : ByteArray) (hx : x.size ≤ 140737488355328) :
    ((Instr.lookup 61 (.map (some b)) (.string x) true).run Tryz.prog w = .ok (.tuple #[.nilIface, .bool false]) w ∧ ∀ j (h : j < ks.length), done j → ks[j] ≠ x) ∨
      ∃ (j : Nat) (h : j < ks.length), done j ∧ ks[j] = x ∧ (Instr.lookup 61 (.map (some b)) (.string x) true).run Tryz.prog w = .ok (.tuple #[us j, .bool true]) w := by
  obtain ⟨D, ⟨es, clock, hb, F, hs, hD⟩, hm⟩ := h
  have hz : (zeroValue 51).run Tryz.prog w = .ok .nilIface w := by kernel_rfl
  rcases Maps.fit_look true key9 Tryz.underlying61 hz hb F (keyOf9 x hx) with ⟨hr, _, hat⟩ | ⟨e0, y, _, _, hr, hR, hat, _⟩
  · left
    refine ⟨by simpa using hr, fun j hj hd e => ?_⟩
    have h1 := hat .nil
    rw [← hD, ← e, hm.at_ j hj hd] at h1
    simp at h1
  · right
    rw [← hD] at hat
    obtain ⟨j, hj, hd, e⟩ := hm.has _ (Maps.has_true_of_atKey hat)
    have ex := kl_inj e
    refine ⟨j, hj, hd, ex.symm, ?_⟩
    have h1 := hat .nil
    rw [e, hm.at_ j hj hd] at h1
    have e1 : (DataW.held e0.val, ([] : List MemPlace)) = y := Option.some.inj hR
    rw [← e1] at h1
    have e2 := DataW.held.inj h1
    rw [hr, e2]
    simp

set_option maxRecDepth 100000 in
set_option maxHeartbeats 1000000 in
theorem find_miss (w : World) (b nb : Nat) (ks : List ByteArray) (us : Nat → Value) (done : Nat → Prop) (h : DM w b nb ks us done) (x : ByteArray) (hx : x.size ≤ 140737488355328) (hne : ∀ j (h : j < ks.length), done j → ks[j] ≠ x)
    (h0 : ∀ j (h : j < ks.length), noByte 0 ks[j].data.toList = true ∧ noByte 35 ks[j].data.toList = true) (hsz : ∀ j (h : j < ks.length), ks[j].size ≤ 140737488355328) :
    Calls Tryz.prog 51 #[.map (some b), .string x] w fun e w' => e = .returned (.tuple #[.nilIface, .bool false]) ∧ Kept (fun _ => False) w w' := by
  have hl : (Instr.lookup 61 (.map (some b)) (.string x) true).run Tryz.prog w = .ok (.tuple #[.nilIface, .bool false]) w := by
    rcases h.find x hx with h | ⟨j, hj, hd, e, _⟩
    · exact h.1
    · exact absurd e (hne j hj hd)
  have hbs := h.lt
  obtain ⟨D, hown, hd⟩ := h
  have HOWN := Lib.hid hown
  have HD := Lib.hid hd
  have HNE := Lib.hid hne
  have H0 := Lib.hid h0
  have HSZ := Lib.hid hsz
  clear hown hd hne h0 hsz
  go_enter Tryz.func51, Tryz.ntmps51
  go_wp2_with (at_range; go_must (refine wpList_range_own _ rfl _ 61 rfl 9 51 key9 Tryz.underlying61 RV b nb D rfl HOWN.out ?_); intro w0 hrg0 hg0 hs0)
  go_frame
  have HG0 := Lib.hid (kept_of_grown_none hg0)
  have HR0 := Lib.hid hrg0
  clear hg0 hrg0
  go_loopw [] (fun wr => ∃ (left : Lit → Bool) (cnt : Nat), wr.ranges Tryz.prog 9 RV b w.heap.size nb D left cnt ∧ (∀ l, left l = true → Maps.has D l = true) ∧ Kept (fun _ => False) w wr ∧ w.heap.size + 1 ≤ wr.heap.size) (fun wr => wr.rangeLeft b w.heap.size)
  case atStart => exact ⟨_, _, HR0.out, fun _ h => h, HG0.out, by omega⟩
  case round =>
    obtain ⟨left, cnt, hrg, hleft, hkp, hsz⟩ := hrel
    have HRG := Lib.hid hrg
    have HLEFT := Lib.hid hleft
    have HK := Lib.hid hkp
    clear hrg hleft hkp
    go_wp2_with (at_next; go_must (refine wpList_next_ranges _ rfl _ rfl 9 key9 RV Value.string (fun v => v) (fun key l h => by obtain ⟨s, e, _⟩ := keyOf9_inv h; exact ⟨s, e⟩) (fun v y _ => ⟨v, rfl⟩) b w.heap.size nb D left cnt rfl HRG.out ?_ ?_))
    · intro hc0 hl0
      clear hl0 hc0
      go_wp2_with fail
      go_ret2
      exact ⟨rfl, HK.out⟩
    · intro y c l a ps w1 cnt1 hkey hl2 hR hat hrg1 hlt hg1 hs1 hen
      obtain ⟨j, hj, hy, hcj, hlj, hdj⟩ := met_key HD.out hkey (HLEFT.out l hl2) hR hat
      have hn := HNE.out j hj hdj
      have hb0 := H0.out j hj
      have hs := HSZ.out j hj
      rw [← hy] at hn hb0 hs
      have HRG1 := Lib.hid hrg1
      have HK1 := Lib.hid (HK.out.trans ((kept_of_grown hg1).mono (S' := (· = w.heap.size)) (fun _ _ h => h)) (fun k hk e => by have e' : k = w.heap.size := e; omega))
      have hs1a : wr.heap.size ≤ w1.heap.size := by omega
      clear hkey hl2 hR hat hrg1 hg1 hlj hy hcj hs1
      have hdec := Lib.hid (decode_any y hb0.1 hb0.2 hs w1)
      have hq : (y.toList == x.toList) = false := by
        cases hq : (y.toList == x.toList)
        · rfl
        · exfalso
          have e := beq_iff_eq.1 hq
          rw [Lib.toList_data, Lib.toList_data] at e
          exact hn (kl_inj (by unfold kl; rw [e]))
      clear hb0
      go_wp2_with fail
      refine hdec.out.mono ?_
      rintro e w2 ⟨rfl, hk2, hs2⟩
      have hrg2 := ranges_same HRG1.out (hk2.block b (by omega) (fun h => h)) (hk2.block w.heap.size (by omega) (fun h => h))
      have HRG2 := Lib.hid hrg2
      have HK2 := Lib.hid (HK1.out.trans hk2 (fun _ _ h => h))
      clear hrg2 hk2
      go_wp2_with fail
      go_roundw
      case measure =>
        rw [HRG2.out.left_eq, HRG.out.left_eq]
        exact hlt
      case rel => exact ⟨_, cnt1, HRG2.out, fun l hl => HLEFT.out l (by simp at hl; exact hl.1), HK2.out, by omega⟩

set_option maxRecDepth 100000 in
set_option maxHeartbeats 1000000 in
/-- Insert of a key that is not there. -/
theorem insert_new (w : World) (b nb : Nat) (ks : List ByteArray) (us : Nat → Value) (done : Nat → Prop) (h : DM w b nb ks us done) (j : Nat) (hj : j < ks.length) (hnd : ¬ done j) (hdis : Distinct ks) (v : Value) (hnb : nb ≤ 140737488355328)
    (h0 : ∀ j (h : j < ks.length), noByte 0 ks[j].data.toList = true ∧ noByte 35 ks[j].data.toList = true) (hsz : ∀ j (h : j < ks.length), ks[j].size ≤ 140737488355328) :
    Calls Tryz.prog 196 #[.map (some b), .string ks[j], v] w fun e w' => e = .returned (.bool true) ∧ (∃ w1, Kept (fun _ => False) w w1 ∧ (∃ D, w1.ownsMap Tryz.prog 9 RV b nb D ∧ DMap nb D ks us done ∧ w'.ownsMap Tryz.prog 9 RV b (nb + 1) (D.put (kl ks[j]) (.held v))) ∧ Kept (· = b) w1 w') := by
  have hne : ∀ i (h : i < ks.length), done i → ks[i] ≠ ks[j] := fun i hi hd e => hnd (hdis i j hi hj e ▸ hd)
  have hfind := Lib.hid (find_miss w b nb ks us done h ks[j] (hsz j hj) hne h0 hsz)
  have hs := hsz j hj
  have H := Lib.hid h
  have hbs := h.lt
  obtain ⟨s, hsj⟩ : ∃ s, s = ks[j] := ⟨_, rfl⟩
  rw [← hsj] at hfind hs ⊢
  clear h h0 hsz hne hsj
  go_enter Tryz.func196, Tryz.ntmps196
  go_wp2_with fail
  refine hfind.out.mono ?_
  rintro e w1 ⟨rfl, hk1⟩
  obtain ⟨D, hown, hdm⟩ := H.out.same (hk1.block b hbs (fun h => h))
  have HOWN := Lib.hid hown
  have HD := Lib.hid hdm
  have HK1 := Lib.hid hk1
  clear hown hdm hk1
  go_wp2_with (at_mapUpdate; go_must (refine wpList_mapUpdate_own _ rfl _ _ _ 61 rfl 9 51 key9 Tryz.underlying61 RV b nb D rfl HOWN.out (by unfold maxLen; omega) _ _ (kl s) rfl rfl (keyOf9 s hs) (.held v) [] rfl ?_); intro w2 ho2 hg2)
  go_ret
  exact ⟨rfl, w1, HK1.out, ⟨D, HOWN.out, HD.out, ho2⟩, kept_of_grown hg2⟩

end Go.Proofs.YtcpijmbdibgdmaaGreatDoor

/-
  The Clone methods: which one is called; those of objects without parts.
-/
namespace Go.Proofs.YtcpijmbdibgdmaaGreatDoor
open Go Go.RowKit

/-- The Clone method of a kind of objects. -/
def cloneOf (T : TypeId) : FuncId :=
  if T = 66 then 197 else if T = 68 then 200 else if T = 97 then 215 else if T = 76 then 205 else if T = 79 then 208 else if T = 73 then 203 else if T = 86 then 213 else if T = 80 then 211 else 192

theorem m66 (v : Value) (w : World) : (method 394 66 v "Clone").run Tryz.prog w = .ok (197, v) w := by kernel_rfl
theorem m68 (v : Value) (w : World) : (method 394 68 v "Clone").run Tryz.prog w = .ok (200, v) w := by kernel_rfl
theorem m97 (v : Value) (w : World) : (method 394 97 v "Clone").run Tryz.prog w = .ok (215, v) w := by kernel_rfl
theorem m76 (v : Value) (w : World) : (method 394 76 v "Clone").run Tryz.prog w = .ok (205, v) w := by kernel_rfl
theorem m79 (v : Value) (w : World) : (method 394 79 v "Clone").run Tryz.prog w = .ok (208, v) w := by kernel_rfl
theorem m73 (v : Value) (w : World) : (method 394 73 v "Clone").run Tryz.prog w = .ok (203, v) w := by kernel_rfl
theorem m86 (v : Value) (w : World) : (method 394 86 v "Clone").run Tryz.prog w = .ok (213, v) w := by kernel_rfl
theorem m80 (v : Value) (w : World) : (method 394 80 v "Clone").run Tryz.prog w = .ok (211, v) w := by kernel_rfl
theorem m61 (v : Value) (w : World) : (method 394 61 v "Clone").run Tryz.prog w = .ok (192, v) w := by kernel_rfl

theorem PRep.kind {n : Nat} {w0 : World} {S : Nat → Prop} {T : TypeId} {v : Value} {o : Ob} (h : PRep n w0 S (.iface T v) o) : T = 66 ∨ T = 68 ∨ T = 97 ∨ T = 76 ∨ T = 79 ∨ T = 73 ∨ T = 86 ∨ T = 80 ∨ T = 61 := by
  cases n with
  | zero => exact h.elim
  | succ n =>
    obtain ⟨k, i, g, r, t, ks, os⟩ := o
    rcases h.2 with h | ⟨_, a, cap, b, us, F, hv, _⟩ | ⟨_, b, nb, us, F, hv, _⟩
    · rcases h with ⟨_, h⟩ | ⟨_, x, h, _⟩ | ⟨_, h⟩ | ⟨_, h⟩ | ⟨_, h⟩ | ⟨_, h⟩ | ⟨_, h⟩ | ⟨_, h⟩
      · cases h
      all_goals
        have h1 := (Value.iface.inj h).1
        simp [h1]
    · have h1 := (Value.iface.inj hv).1
      simp [h1]
    · have h1 := (Value.iface.inj hv).1
      simp [h1]

theorem dispatch {T : TypeId} (h : T = 66 ∨ T = 68 ∨ T = 97 ∨ T = 76 ∨ T = 79 ∨ T = 73 ∨ T = 86 ∨ T = 80 ∨ T = 61) (v : Value) (w : World) : (method 394 T v "Clone").run Tryz.prog w = .ok (cloneOf T, v) w := by
  rcases h with h | h | h | h | h | h | h | h | h
  · rw [h, show cloneOf 66 = 197 from rfl]; exact m66 v w
  · rw [h, show cloneOf 68 = 200 from rfl]; exact m68 v w
  · rw [h, show cloneOf 97 = 215 from rfl]; exact m97 v w
  · rw [h, show cloneOf 76 = 205 from rfl]; exact m76 v w
  · rw [h, show cloneOf 79 = 208 from rfl]; exact m79 v w
  · rw [h, show cloneOf 73 = 203 from rfl]; exact m73 v w
  · rw [h, show cloneOf 86 = 213 from rfl]; exact m86 v w
  · rw [h, show cloneOf 80 = 211 from rfl]; exact m80 v w
  · rw [h, show cloneOf 61 = 192 from rfl]; exact m61 v w

theorem en197 (v : Value) (w : World) : (callFunc 197 #[v]).run Tryz.prog w = .ok (.enter 197 #[v]) w := by kernel_rfl
theorem en200 (v : Value) (w : World) : (callFunc 200 #[v]).run Tryz.prog w = .ok (.enter 200 #[v]) w := by kernel_rfl
theorem en215 (v : Value) (w : World) : (callFunc 215 #[v]).run Tryz.prog w = .ok (.enter 215 #[v]) w := by kernel_rfl
theorem en205 (v : Value) (w : World) : (callFunc 205 #[v]).run Tryz.prog w = .ok (.enter 205 #[v]) w := by kernel_rfl
theorem en208 (v : Value) (w : World) : (callFunc 208 #[v]).run Tryz.prog w = .ok (.enter 208 #[v]) w := by kernel_rfl
theorem en203 (v : Value) (w : World) : (callFunc 203 #[v]).run Tryz.prog w = .ok (.enter 203 #[v]) w := by kernel_rfl
theorem en213 (v : Value) (w : World) : (callFunc 213 #[v]).run Tryz.prog w = .ok (.enter 213 #[v]) w := by kernel_rfl
theorem en211 (v : Value) (w : World) : (callFunc 211 #[v]).run Tryz.prog w = .ok (.enter 211 #[v]) w := by kernel_rfl
theorem en192 (v : Value) (w : World) : (callFunc 192 #[v]).run Tryz.prog w = .ok (.enter 192 #[v]) w := by kernel_rfl

theorem enter {T : TypeId} (h : T = 66 ∨ T = 68 ∨ T = 97 ∨ T = 76 ∨ T = 79 ∨ T = 73 ∨ T = 86 ∨ T = 80 ∨ T = 61) (v : Value) (w : World) : (callFunc (cloneOf T) #[v]).run Tryz.prog w = .ok (.enter (cloneOf T) #[v]) w := by
  rcases h with h | h | h | h | h | h | h | h | h
  · rw [h, show cloneOf 66 = 197 from rfl]; exact en197 v w
  · rw [h, show cloneOf 68 = 200 from rfl]; exact en200 v w
  · rw [h, show cloneOf 97 = 215 from rfl]; exact en215 v w
  · rw [h, show cloneOf 76 = 205 from rfl]; exact en205 v w
  · rw [h, show cloneOf 79 = 208 from rfl]; exact en208 v w
  · rw [h, show cloneOf 73 = 203 from rfl]; exact en203 v w
  · rw [h, show cloneOf 86 = 213 from rfl]; exact en213 v w
  · rw [h, show cloneOf 80 = 211 from rfl]; exact en211 v w
  · rw [h, show cloneOf 61 = 192 from rfl]; exact en192 v w

/-- What is shown of the Clone methods, for objects of fewer than `n` levels. -/
def SaidClone (n : Nat) : Prop := ∀ (T : TypeId) (v : Value) (o : Ob) (S : Nat → Prop) (w : World), PRep n w S (.iface T v) o → (∀ k, S k → k < w.heap.size) → Valid n o →
  Calls Tryz.prog (cloneOf T) #[v] w fun e w' => (∃ u, e = .returned u ∧ PRep n w' (fun k => w.heap.size ≤ k ∧ k < w'.heap.size) u o) ∧ Below w.heap.size w w'

theorem clone66 (x : Bool) (w : World) : Calls Tryz.prog 197 #[.bool x] w fun e w' => e = .returned (.iface 66 (.bool x)) ∧ w = w' := by
  go_enter Tryz.func197, Tryz.ntmps197
  go_wp2_with fail
  go_ret
  exact ⟨rfl, rfl⟩
theorem clone68 (x : Int) (w : World) : Calls Tryz.prog 200 #[.int .i64 x] w fun e w' => e = .returned (.iface 68 (.int .i64 x)) ∧ w = w' := by
  go_enter Tryz.func200, Tryz.ntmps200
  go_wp2_with fail
  go_ret
  exact ⟨rfl, rfl⟩
theorem clone97 (x : Nat) (w : World) : Calls Tryz.prog 215 #[.float .f64 x] w fun e w' => e = .returned (.iface 97 (.float .f64 x)) ∧ w = w' := by
  go_enter Tryz.func215, Tryz.ntmps215
  go_wp2_with fail
  go_ret
  exact ⟨rfl, rfl⟩
theorem clone76 (x : ByteArray) (w : World) : Calls Tryz.prog 205 #[.string x] w fun e w' => e = .returned (.iface 76 (.string x)) ∧ w = w' := by
  go_enter Tryz.func205, Tryz.ntmps205
  go_wp2_with fail
  go_ret
  exact ⟨rfl, rfl⟩
theorem clone79 (x : ByteArray) (w : World) : Calls Tryz.prog 208 #[.string x] w fun e w' => e = .returned (.iface 79 (.string x)) ∧ w = w' := by
  go_enter Tryz.func208, Tryz.ntmps208
  go_wp2_with fail
  go_ret
  exact ⟨rfl, rfl⟩
theorem clone73 (x : ByteArray) (w : World) : Calls Tryz.prog 203 #[.string x] w fun e w' => e = .returned (.iface 73 (.string x)) ∧ w = w' := by
  go_enter Tryz.func203, Tryz.ntmps203
  go_wp2_with fail
  go_ret
  exact ⟨rfl, rfl⟩
theorem clone86 (i g : Int) (w : World) : Calls Tryz.prog 213 #[.agg #[.int .i64 i, .int .i64 g]] w fun e w' => e = .returned (.iface 86 (.agg #[.int .i64 i, .int .i64 g])) ∧ Below w.heap.size w w' := by
  go_enter Tryz.func213, Tryz.ntmps213
  go_wp2_with fail
  go_ret
  exact ⟨rfl, ((Below.refl _ _).alloc (Nat.le_refl _) _).alloc (by simp) _⟩

theorem cloneLeaf (n : Nat) {T : TypeId} {v : Value} {k i g : Int} {r : Nat} {t : ByteArray} {ks : List ByteArray} {os : List Ob} (w : World) (hf : Fits r t ks os.length) (h : Leaf k i g r t (.iface T v)) :
    Calls Tryz.prog (cloneOf T) #[v] w fun e w' => (∃ u, e = .returned u ∧ PRep (n + 1) w' (fun k => w.heap.size ≤ k ∧ k < w'.heap.size) u (.mk k i g r t ks os)) ∧ Below w.heap.size w w' := by
  have h' := h
  rcases h with ⟨_, h⟩ | ⟨_, x, h, _⟩ | ⟨_, h⟩ | ⟨_, h⟩ | ⟨_, h⟩ | ⟨_, h⟩ | ⟨_, h⟩ | ⟨_, h⟩
  · cases h
  all_goals
    obtain ⟨h1, h2⟩ := Value.iface.inj h
    subst h1
    subst h2
  · exact (clone66 _ w).mono fun e w' ⟨he, hw⟩ => ⟨⟨_, he, PRep.leaf hf h'⟩, by rw [← hw]; exact Below.refl _ _⟩
  · exact (clone68 _ w).mono fun e w' ⟨he, hw⟩ => ⟨⟨_, he, PRep.leaf hf h'⟩, by rw [← hw]; exact Below.refl _ _⟩
  · exact (clone97 _ w).mono fun e w' ⟨he, hw⟩ => ⟨⟨_, he, PRep.leaf hf h'⟩, by rw [← hw]; exact Below.refl _ _⟩
  · exact (clone76 _ w).mono fun e w' ⟨he, hw⟩ => ⟨⟨_, he, PRep.leaf hf h'⟩, by rw [← hw]; exact Below.refl _ _⟩
  · exact (clone79 _ w).mono fun e w' ⟨he, hw⟩ => ⟨⟨_, he, PRep.leaf hf h'⟩, by rw [← hw]; exact Below.refl _ _⟩
  · exact (clone73 _ w).mono fun e w' ⟨he, hw⟩ => ⟨⟨_, he, PRep.leaf hf h'⟩, by rw [← hw]; exact Below.refl _ _⟩
  · exact (clone86 _ _ w).mono fun e w' ⟨he, hw⟩ => ⟨⟨_, he, PRep.leaf hf h'⟩, hw⟩

end Go.Proofs.YtcpijmbdibgdmaaGreatDoor

/-
  Array.Clone, given what the Clone methods do to the parts.
-/
namespace Go.Proofs.YtcpijmbdibgdmaaGreatDoor
open Go Go.RowKit

theorem PRep.nil {n : Nat} {w w' : World} {S S' : Nat → Prop} {o : Ob} (h : PRep n w S .nilIface o) : PRep n w' S' .nilIface o := by
  cases n with
  | zero => exact h.elim
  | succ n =>
    obtain ⟨k, i, g, r, t, ks, os⟩ := o
    refine ⟨h.1, ?_⟩
    rcases h.2 with h | ⟨_, a, cap, b, us, F, hv, _⟩ | ⟨_, b, nb, us, F, hv, _⟩
    · exact .inl h
    · cases hv
    · cases hv

/-- A row of clones that is being filled. -/
structure CRow (n : Nat) (w : World) (mb len j : Nat) (xs : List Value) (F : Nat → Nat → Prop) (os : List Ob) : Prop where
  own : w.ownsRow mb 51 1 (.slice (some ⟨mb, 0, none⟩) len len) len xs
  kids : ∀ i (h : i < os.length), i < j → PRep n w (F i) (xs.getD i .nilIface) os[i]
  foot : ∀ i k, F i k → i < j ∧ mb < k ∧ k < w.heap.size
  disj : ∀ i j k, F i k → F j k → i = j

theorem CRow.kept {n : Nat} {w w' : World} {mb len j : Nat} {xs : List Value} {F : Nat → Nat → Prop} {os : List Ob} {T : Nat → Prop} (h : CRow n w mb len j xs F os) (hk : Kept T w w') (hT : ∀ k, mb ≤ k → k < w.heap.size → ¬ T k) : CRow n w' mb len j xs F os := by
  have hs := hk.size
  refine ⟨hk.own h.own (fun k hk' => hT k (h.own.lt k hk').1 (h.own.lt k hk').2), fun i hi hj => (h.kids i hi hj).kept hk (fun k hk' => ?_), fun i k hk' => ?_, h.disj⟩
  · have := h.foot i k hk'
    exact ⟨this.2.2, hT k (by omega) this.2.2⟩
  · have := h.foot i k hk'
    exact ⟨this.1, this.2.1, by omega⟩

theorem CRow.step {n : Nat} {w : World} {mb len j : Nat} {xs : List Value} {F : Nat → Nat → Prop} {os : List Ob} {u : Value} {G : Nat → Prop} (h : CRow n w mb len j xs F os) (hj : j < os.length) (hl : len = os.length) (hu : PRep n w G u os[j])
    (hG : ∀ k, G k → mb < k ∧ k < w.heap.size ∧ ∀ i, ¬ F i k) : CRow n (w.setCell ⟨mb, j, none⟩ u) mb len (j + 1) (xs.set j u) (fun i k => F i k ∨ (i = j ∧ G k)) os := by
  have hst := h.own.stored j u
  have hk : Kept (· = mb) w (w.setCell ⟨mb, j, none⟩ u) := (Kept.refl _ w).setCell _ _ (fun _ => rfl)
  have hs := hk.size
  have hxl : xs.length = len := by have := h.own.1; omega
  refine ⟨hst.1, fun i hi hij => ?_, fun i k hk' => ?_, fun a b k h1 h2 => ?_⟩
  · by_cases e : i = j
    · subst e
      have e2 : (xs.set i u).getD i .nilIface = u := by
        simp [List.getD, List.getElem?_set_self (show i < xs.length by omega)]
      rw [e2]
      exact (hu.kept hk (fun k hk' => ⟨(hG k hk').2.1, fun e => by have e' : k = mb := e; have := hG k hk'; omega⟩)).mono (fun k hk' => .inr ⟨rfl, hk'⟩)
    · have e2 : (xs.set j u).getD i .nilIface = xs.getD i .nilIface := by
        simp [List.getD, List.getElem?_set_ne (Ne.symm e)]
      rw [e2]
      exact ((h.kids i hi (by omega)).kept hk (fun k hk' => ⟨(h.foot i k hk').2.2, fun e => by have e' : k = mb := e; have := h.foot i k hk'; omega⟩)).mono (fun k hk' => .inl hk')
  · rcases hk' with hk' | ⟨rfl, hk'⟩
    · have := h.foot i k hk'
      exact ⟨by omega, this.2.1, by omega⟩
    · have := hG k hk'
      exact ⟨by omega, this.1, by omega⟩
  · rcases h1 with h1 | ⟨rfl, h1⟩ <;> rcases h2 with h2 | ⟨rfl, h2⟩
    · exact h.disj a b k h1 h2
    · exact absurd h1 ((hG k h2).2.2 a)
    · exact absurd h2 ((hG k h1).2.2 b)
    · rfl

theorem CRow.prep {n : Nat} {w : World} {mb : Nat} {xs : List Value} {F : Nat → Nat → Prop} {i g : Int} {r : Nat} {t : ByteArray} {ks : List ByteArray} {os : List Ob} (hf : Fits r t ks os.length)
    (h : CRow n w mb os.length os.length xs F os) : PRep (n + 1) w (fun k => mb ≤ k ∧ k < w.heap.size) (.iface 80 (.slice (some ⟨mb, 0, none⟩) os.length os.length)) (.mk 7 i g r t ks os) := by
  have hlt := (h.own.lt mb rfl).2
  have hxl : xs.length = os.length := by have := h.own.1; omega
  refine ⟨hf, .inr (.inl ⟨rfl, _, _, mb, fun j => xs.getD j .nilIface, F, rfl, by simp, fun _ => ⟨rfl, Nat.le_refl _, hlt⟩, ⟨fun j k hk => ?_, h.disj⟩, fun j hj => ⟨?_, h.own.frozenAt j, h.kids j hj hj⟩⟩)⟩
  · have := h.foot j k hk
    exact ⟨⟨by omega, this.2.2⟩, by omega⟩
  · rw [h.own.cellAt j (by rw [Nat.mul_one]; exact hj)]
    simp [List.getD, show j < xs.length by omega]

set_option maxRecDepth 100000 in
set_option maxHeartbeats 2000000 in
theorem cloneArr_any (n : Nat) (ih : SaidClone n) (a : Option Addr) (cap b : Nat) (us : Nat → Value) (Fs : Nat → Nat → Prop) (i g : Int) (r : Nat) (t : ByteArray) (ks : List ByteArray) (os : List Ob) (S : Nat → Prop) (w : World)
    (hf : Fits r t ks os.length) (ha : 0 < os.length → a = some ⟨b, 0, none⟩ ∧ S b) (hF : ∀ j k, Fs j k → S k)
    (hc : ∀ j (h : j < os.length), w.cell? ⟨b, j, none⟩ = some (us j) ∧ PRep n w (Fs j) (us j) os[j])
    (hS : ∀ k, S k → k < w.heap.size) (hv : ∀ o ∈ os, Valid n o) :
    Calls Tryz.prog 211 #[.slice a os.length cap] w fun e w' => (∃ u, e = .returned u ∧ PRep (n + 1) w' (fun k => w.heap.size ≤ k ∧ k < w'.heap.size) u (.mk 7 i g r t ks os)) ∧ Below w.heap.size w w' := by
  have hu63 : Tryz.prog.underlying 63 = some (.slice 51) := by kernel_rfl
  obtain ⟨i51, hi, hz0, hz1, hz2⟩ := info_parts Tryz.info51
  have hclb := hf.cl
  obtain ⟨wm, hrun, hown, hgr⟩ := run_make_full (P := Tryz.prog) w w.heap.size 63 51 i51 .nilIface 1 hu63 hi hz0 hz1 .i64 .i64 os.length (by rw [hz2]; omega) (by unfold maxLen; omega) (Nat.le_refl _)
  have IH := Lib.hid ih
  have HA := Lib.hid ha
  have HFT := Lib.hid hF
  have HC := Lib.hid hc
  have HS := Lib.hid hS
  have HV := Lib.hid hv
  have HF := Lib.hid hf
  have HOWN := Lib.hid hown
  have HKM := Lib.hid (kept_of_grown_none hgr)
  have hsm := hgr.size
  clear ih ha hF hc hS hv hf hown hgr hi hz0 hz1 hz2 hu63
  obtain ⟨cl, hcl⟩ : ∃ l, l = os.length := ⟨_, rfl⟩
  rw [← hcl] at hclb hrun HOWN ⊢
  have HCL := Lib.hid hcl
  clear hcl
  go_enter Tryz.func211, Tryz.ntmps211
  go_wp2_with fail
  go_loopw [11] (fun i wr => ∃ (j : Nat) (xs : List Value) (F : Nat → Nat → Prop), j ≤ cl ∧ i = .int .i64 j ∧ CRow n wr w.heap.size cl j xs F os ∧ Below w.heap.size w wr) (fun i _ => cl - (intOf i).toNat)
  case atStart => exact ⟨0, _, fun _ _ => False, by omega, rfl, ⟨HOWN.out, fun i _ h => by omega, fun _ _ h => h.elim, fun _ _ _ h => h.elim⟩, HKM.out.below (fun _ h => h.elim) (Nat.le_refl _)⟩
  case round =>
    obtain ⟨j, xs, F, hj, rfl, hrow, hb⟩ := hrel
    have HR := Lib.hid hrow
    have HB := Lib.hid hb
    have hwsz := (hrow.own.lt w.heap.size rfl).2
    clear hrow hb
    by_cases hlt : j < cl
    · obtain ⟨rfl, hSb⟩ := HA.out (by rw [← HCL.out]; omega)
      obtain ⟨hcj, hpj⟩ := HC.out j (by rw [← HCL.out]; omega)
      have hcj' : wr.cell? ⟨b, j, none⟩ = some (us j) := (HB.out.cell (p := ⟨b, j, none⟩) (HS.out _ hSb)).trans hcj
      have HT := Lib.hid (hpj.below HB.out (fun k hk => HS.out k (HFT.out j k hk)))
      obtain ⟨x, hx⟩ : ∃ x, x = us j := ⟨_, rfl⟩
      rw [← hx] at hcj' HT
      clear hcj hpj hx
      rcases HT.out.iface with rfl | ⟨T, x, rfl⟩
      · have hm1 : wr.cell? ⟨w.heap.size, j, none⟩ = some (xs.getD j .nilIface) := by
          rw [HR.out.own.cellAt j (by rw [Nat.mul_one]; exact hlt)]
          have := HR.out.own.1
          simp [List.getD, show j < xs.length by omega]
        have hm2 := HR.out.own.frozenAt j
        go_wp2_with fail
        go_roundw
        case measure => simp [intOf]; omega
        case rel =>
          have hc' := HCL.out
          have hst := HR.out.step (u := .nilIface) (G := fun _ => False) (by omega) hc' (HT.out.nil) (fun _ h => h.elim)
          exact ⟨j + 1, _, _, by omega, by go_num, hst, HB.out.setCell (Nat.le_refl _) _⟩
      · have hdis := fun w => dispatch HT.out.kind x w
        have hent := fun w => enter HT.out.kind x w
        go_wp2_with fail
        refine (IH.out T x _ (Fs j) _ HT.out (fun k hk => by have := HS.out k (HFT.out j k hk); omega) (HV.out _ (List.getElem_mem _))).mono ?_
        rintro e w1 ⟨⟨u, rfl, hu⟩, hb1⟩
        have hs1 := hb1.size
        have hk1 : Kept (fun _ => False) wr w1 := Kept.ofBelow (S := fun _ => False) hb1 (fun k hk hle => by omega)
        have HR1 := Lib.hid (HR.out.kept hk1 (fun _ _ _ h => h))
        have HU := Lib.hid hu
        have HB1 := Lib.hid (HB.out.trans (hb1.mono (by omega)))
        have hif := hu.iface
        have hm1 : w1.cell? ⟨w.heap.size, j, none⟩ = some (xs.getD j .nilIface) := by
          rw [HR1.out.own.cellAt j (by rw [Nat.mul_one]; exact hlt)]
          have := HR1.out.own.1
          simp [List.getD, show j < xs.length by omega]
        have hm2 := HR1.out.own.frozenAt j
        clear hu hb1 hk1 hdis hent
        rcases hif with rfl | ⟨T', x', rfl⟩
        all_goals
          go_wp2_with fail
          go_roundw
          case measure => simp [intOf]; omega
          case rel =>
            have hc' := HCL.out
            have hst := HR1.out.step (by omega) hc' HU.out (fun k hk => ⟨by omega, hk.2, fun i hf => by have := HR.out.foot i k hf; omega⟩)
            exact ⟨j + 1, _, _, by omega, by go_num, hst, HB1.out.setCell (Nat.le_refl _) _⟩
    · go_wp2_with fail
      go_ret
      obtain rfl : j = cl := by omega
      have hc' := HCL.out
      subst hc'
      exact ⟨⟨_, rfl, HR.out.prep HF.out⟩, HB.out⟩

end Go.Proofs.YtcpijmbdibgdmaaGreatDoor

/-
  Dict.Clone, given what the Clone methods do to the parts; all Clone methods.
-/
namespace Go.Proofs.YtcpijmbdibgdmaaGreatDoor
open Go Go.RowKit

theorem newDict_any (w : World) : Calls Tryz.prog 195 #[] w fun e w' => e = .returned (.map (some w.heap.size)) ∧ w' = w.alloc (.map #[] 0) := by
  have hmm := @run_makeMap Tryz.prog
  go_enter Tryz.func195, Tryz.ntmps195
  go_wp2_with fail
  go_ret
  exact ⟨rfl, rfl⟩

theorem PMap.keptAt {n : Nat} {w w' : World} {mb nb : Nat} {us : Nat → Value} {F : Nat → Nat → Prop} {ks : List ByteArray} {os : List Ob} {done : Nat → Prop} {T : Nat → Prop} (h : PMap n w mb nb us F ks os done) (hk : Kept T w w') (hT : ¬ T mb) (hF : ∀ j k, F j k → ¬ T k) : PMap n w' mb nb us F ks os done := by
  have hs := hk.size
  have hlt := h.dm.lt
  refine ⟨h.dm.same (hk.block mb hlt hT), fun j hj hd => (h.kids j hj hd).kept hk (fun k hk' => ⟨(h.foot j k hk').2.2, hF j k hk'⟩), fun j k hk' => ?_, h.disj⟩
  have := h.foot j k hk'
  exact ⟨this.1, this.2.1, by omega⟩

/-- The keys that a range has met. -/
def Gone (ks : List ByteArray) (left : Lit → Bool) (j : Nat) : Prop := ∃ h : j < ks.length, left (kl ks[j]) = false

theorem Gone.step {ks : List ByteArray} {left : Lit → Bool} (hd : Distinct ks) (j : Nat) (hj : j < ks.length) (i : Nat) (_hi : i < ks.length) : Gone ks (fun z => left z && !z.sameKey (kl ks[j])) i ↔ (i = j ∨ Gone ks left i) := by
  constructor
  · rintro ⟨hi, e⟩
    by_cases hij : i = j
    · exact .inl hij
    · right
      refine ⟨hi, ?_⟩
      have hn : (kl ks[i]).sameKey (kl ks[j]) = false := by
        cases hs : (kl ks[i]).sameKey (kl ks[j])
        · rfl
        · exact absurd (hd i j hi hj ((sameKl _ _).1 hs)) hij
      simpa [hn] using e
  · rintro (rfl | ⟨hi, e⟩)
    · refine ⟨hj, ?_⟩
      simp [(sameKl ks[i] ks[i]).2 rfl]
    · exact ⟨hi, by simp [e]⟩

/-- A dictionary of clones under way. -/
structure CMap (n : Nat) (w : World) (mb : Nat) (nb : Nat) (us : Nat → Value) (F : Nat → Nat → Prop) (ks : List ByteArray) (os : List Ob) (left : Lit → Bool) : Prop where
  pm : PMap n w mb nb us F ks os (Gone ks left)
  far : ∀ j k, F j k → mb + 1 < k

theorem CMap.kept {n : Nat} {w w' : World} {mb nb : Nat} {us : Nat → Value} {F : Nat → Nat → Prop} {ks : List ByteArray} {os : List Ob} {left : Lit → Bool} {T : Nat → Prop} (h : CMap n w mb nb us F ks os left) (hk : Kept T w w') (hT : ∀ k, T k → k = mb + 1) : CMap n w' mb nb us F ks os left :=
  ⟨h.pm.keptAt hk (fun h => by have := hT _ h; omega) (fun j k hf h' => by have := hT _ h'; have := h.far j k hf; omega), h.far⟩

theorem CMap.put {n : Nat} {w w' : World} {mb nb : Nat} {us : Nat → Value} {F : Nat → Nat → Prop} {ks : List ByteArray} {os : List Ob} {left : Lit → Bool} {D : DataW Value} {u : Value} {G : Nat → Prop} (h : CMap n w mb nb us F ks os left)
    (hD : DMap nb D ks us (Gone ks left)) (hdis : Distinct ks) (j : Nat) (hj : j < ks.length) (hl : ks.length = os.length) (hnd : ¬ Gone ks left j) (hu : PRep n w G u (os[j]'(by omega))) (hG : ∀ k, G k → mb + 1 < k ∧ k < w.heap.size ∧ ∀ j, ¬ F j k)
    (ho : w'.ownsMap Tryz.prog 9 RV mb (nb + 1) (D.put (kl ks[j]) (.held u))) (hk : Kept (· = mb) w w') :
    CMap n w' mb (nb + 1) (fun i => if i = j then u else us i) (fun i k => F i k ∨ (i = j ∧ G k)) ks os (fun z => left z && !z.sameKey (kl ks[j])) := by
  have hp := h.pm.put hD hdis j hj (by omega) hnd hu (fun k hk => by have := hG k hk; exact ⟨by omega, this.2⟩) ho hk
  refine ⟨hp.congr hl (fun i hi => Gone.step hdis j hj i hi) (fun i k hf => ?_), fun i k hf => ?_⟩
  · rcases hf with hf | ⟨rfl, _⟩
    · exact (h.pm.foot i k hf).1.1
    · exact hj
  · rcases hf with hf | ⟨rfl, hf⟩
    · exact h.far i k hf
    · exact (hG k hf).1

set_option maxRecDepth 100000 in
set_option maxHeartbeats 4000000 in
theorem cloneDict_any (n : Nat) (ih : SaidClone n) (b nb : Nat) (xs : Nat → Value) (Fs : Nat → Nat → Prop) (i g : Int) (r : Nat) (t : ByteArray) (ks : List ByteArray) (os : List Ob) (S : Nat → Prop) (w : World)
    (hf : Fits r t ks os.length) (hdm : DM w b nb ks xs (fun _ => True)) (hb : S b) (hF : ∀ j k, Fs j k → S k)
    (hc : ∀ j (h : j < os.length), PRep n w (Fs j) (xs j) os[j])
    (hS : ∀ k, S k → k < w.heap.size) (hv : ∀ o ∈ os, Valid n o) (hlen : ks.length = os.length) (hks : KeysOk ks) :
    Calls Tryz.prog 192 #[.map (some b)] w fun e w' => (∃ u, e = .returned u ∧ PRep (n + 1) w' (fun k => w.heap.size ≤ k ∧ k < w'.heap.size) u (.mk 8 i g r t ks os)) ∧ Below w.heap.size w w' := by
  have IH := Lib.hid ih
  have HFT := Lib.hid hF
  have HC := Lib.hid hc
  have HS := Lib.hid hS
  have HV := Lib.hid hv
  have H0 := Lib.hid hks.1
  have HDIS := Lib.hid hks.distinct
  have HLEN := Lib.hid hlen
  have HFIT := Lib.hid hf
  have hbs := hS b hb
  have hkl := hf.kl
  have HDM := Lib.hid (hdm.same (w' := w.alloc (.map #[] 0)) (((Kept.refl (fun _ => False) w).alloc (.map #[] 0)).block b hbs (fun h => h)))
  clear ih hF hc hS hv hks hlen hf hdm
  go_enter Tryz.func192, Tryz.ntmps192
  go_wp2_with fail
  refine (newDict_any w).mono ?_
  rintro e w0 ⟨rfl, rfl⟩
  obtain ⟨D, hown, hd⟩ := HDM.out
  have HOWN := Lib.hid hown
  have HD := Lib.hid hd
  clear hown hd
  have hs0 : (w.alloc (.map #[] 0)).heap.size = w.heap.size + 1 := by simp
  have HK0 := Lib.hid ((Below.refl w.heap.size w).alloc (Nat.le_refl _) (.map #[] 0))
  have HPM0 := Lib.hid (show PMap n (w.alloc (.map #[] 0)) w.heap.size 0 (fun _ => .nilIface) (fun _ _ => False) ks os (Gone ks (Maps.has D)) from by
    obtain ⟨D2, ho, hd2⟩ := DM.ofMade w ks (fun _ => .nilIface)
    have hgo : ∀ j, j < ks.length → ¬ Gone ks (Maps.has D) j := fun j hj ⟨_, e⟩ => by rw [HD.out.has_true j hj trivial] at e; simp at e
    exact ⟨⟨D2, ho, hd2.congr (fun j hj => by simp [hgo j hj]) (fun j hj h => absurd h (hgo j hj))⟩, fun j hj h => absurd h (hgo j (by rw [HLEN.out]; exact hj)), fun _ _ h => h.elim, fun _ _ _ h => h.elim⟩)
  generalize w.alloc (.map #[] 0) = w0 at HPM0 HK0 HOWN HDM hs0 ⊢
  have hs0a : w0.heap.size ≤ w.heap.size + 1 := by omega
  have hs0b : w.heap.size + 1 ≤ w0.heap.size := by omega
  clear hs0
  go_wp2_with (at_range; go_must (refine wpList_range_own _ rfl _ 61 rfl 9 51 key9 Tryz.underlying61 RV b nb D rfl HOWN.out ?_); intro w1 hrg0 hg0 hs1)
  go_frame
  have HG0 := Lib.hid (kept_of_grown_none hg0)
  have HR0 := Lib.hid hrg0
  clear hg0 hrg0
  go_loopw [] (fun wr => ∃ (L : List (List UInt8)) (left : Lit → Bool) (cnt nb2 : Nat) (us : Nat → Value) (F : Nat → Nat → Prop), wr.ranges Tryz.prog 9 RV b w0.heap.size nb D left cnt ∧ (∀ l, left l = true → Maps.has D l = true) ∧ Met ks left L ∧ nb2 ≤ L.length ∧ CMap n wr w.heap.size nb2 us F ks os left ∧ Below w.heap.size w wr ∧ w.heap.size + 2 ≤ wr.heap.size) (fun wr => wr.rangeLeft b w0.heap.size)
  case atStart =>
    exact ⟨[], _, _, 0, _, _, HR0.out, fun _ h => h, Met.start HD.out, Nat.le_refl _, (CMap.mk HPM0.out (fun _ _ h => h.elim)).kept HG0.out (fun _ h => h.elim), HK0.out.trans (HG0.out.below (fun _ h => h.elim) (by omega)), by omega⟩
  case round =>
    obtain ⟨L, left, cnt, nb2, us, F, hrg, hleft, hmet, hnb2, hcm, hbw, hsz⟩ := hrel
    have HRG := Lib.hid hrg
    have HLEFT := Lib.hid hleft
    have HMET := Lib.hid hmet
    have HCM := Lib.hid hcm
    have HB := Lib.hid hbw
    have HN2 := Lib.hid hnb2
    clear hrg hleft hmet hcm hbw hnb2
    go_wp2_with (at_next; go_must (refine wpList_next_ranges _ rfl _ rfl 9 key9 RV Value.string (fun v => v) (fun key l h => by obtain ⟨s, e, _⟩ := keyOf9_inv h; exact ⟨s, e⟩) (fun v y _ => ⟨v, rfl⟩) b w0.heap.size nb D left cnt rfl HRG.out ?_ ?_))
    · intro hc0 hl0
      have HL0 := Lib.hid hl0
      clear hl0 hc0
      go_wp2_with fail
      go_ret
      refine ⟨⟨_, rfl, ?_⟩, HB.out⟩
      have hml := HMET.out.length
      have hp := HCM.out.pm.congr (done' := fun j => j < ks.length) HLEN.out (fun j hj => ⟨fun _ => ⟨hj, HL0.out _⟩, fun h => h.1⟩) (fun j k hf => (HCM.out.pm.foot j k hf).1.1)
      have hn2 := HN2.out
      exact PMap.prep HFIT.out hp (Nat.le_refl _) (by omega) HLEN.out HDIS.out
    · intro y c l a ps w2 cnt1 hkey hl2 hR hat hrg1 hlt hg1 hs1 hen
      obtain ⟨j, hj, hy, hcj, hlj, hdj⟩ := met_key HD.out hkey (HLEFT.out l hl2) hR hat
      rw [hlj] at hl2 hrg1
      have hjo : j < os.length := by have := HLEN.out; omega
      have hk1 := kept_of_grown hg1
      have hs2 : wr.heap.size ≤ w2.heap.size := by omega
      have HRG1 := Lib.hid hrg1
      have HCM1 := Lib.hid (HCM.out.kept hk1 (fun k e => by have e' : k = w0.heap.size := e; omega))
      have HB1 := Lib.hid (HB.out.trans (hk1.below (fun k e => by have e' : k = w0.heap.size := e; omega) (by omega)))
      have hl3 := HLEFT.out _ hl2
      have HND := Lib.hid (show ¬ Gone ks left j from fun ⟨_, e⟩ => by rw [hl2] at e; simp at e)
      have HM1 := Lib.hid (HMET.out.step HDIS.out j hj hl2)
      have HP := Lib.hid ((HC.out j hjo).below HB1.out (fun k hk => HS.out k (HFT.out j k hk)))
      have HY := Lib.hid hy
      have HLT := Lib.hid hlt
      rw [← hcj] at HP
      have hlm := HMET.out.length
      clear hl3 hkey hl2 hR hat hrg1 hg1 hlj hy hcj hk1 hs1 hlt hdj
      rcases HP.out.iface with rfl | ⟨T, x, rfl⟩
      · have hins := insert_new w2 w.heap.size nb2 ks us _ HCM1.out.pm.dm j hj HND.out HDIS.out .nilIface (by have := HN2.out; omega) H0.out (fun i hi => HFIT.out.ks i hi)
        rw [← HY.out] at hins
        have HINS := Lib.hid hins
        clear hins
        go_wp2_with fail
        refine HINS.out.mono ?_
        rintro e w5 ⟨rfl, w4, hk4, ⟨D2, _, hd2, ho2⟩, hk5⟩
        rw [HY.out] at ho2
        have hs4 := hk4.size
        have hs5 := hk5.size
        have hb4 := hk4.below (fun _ h => h.elim) (show w.heap.size ≤ w2.heap.size by omega)
        have hb5 := hk5.below (fun k e => by have e' : k = w.heap.size := e; omega) (show w.heap.size ≤ w4.heap.size by omega)
        have HCM5 := Lib.hid ((HCM1.out.kept hk4 (fun _ h => h.elim)).put hd2 HDIS.out j hj HLEN.out HND.out (G := fun _ => False) HP.out.nil (fun _ h => h.elim) ho2 hk5)
        have HB5 := Lib.hid ((HB1.out.trans hb4).trans hb5)
        have HRG5 := Lib.hid (ranges_same (ranges_same HRG1.out (hk4.block b (by omega) (fun h => h)) (hk4.block w0.heap.size (by omega) (fun h => h))) (hk5.block b (by omega) (fun e => by omega)) (hk5.block w0.heap.size (by omega) (fun e => by omega)))
        clear hk4 hk5 hd2 ho2 hb4 hb5
        go_wp2_with fail
        go_roundw
        case measure =>
          rw [HRG5.out.left_eq, HRG.out.left_eq]
          exact HLT.out
        case rel => exact ⟨_, _, cnt1, nb2 + 1, _, _, HRG5.out, fun l hl => HLEFT.out l (by simp at hl; exact hl.1), HM1.out, by have := HN2.out; simp; omega, HCM5.out, HB5.out, by omega⟩
      · have hdis := fun w => dispatch HP.out.kind x w
        have hent := fun w => enter HP.out.kind x w
        go_wp2_with fail
        refine (IH.out T x _ (Fs j) _ HP.out (fun k hk => by have := HS.out k (HFT.out j k hk); omega) (HV.out _ (List.getElem_mem _))).mono ?_
        rintro e w3 ⟨⟨u, rfl, hu⟩, hb3⟩
        have hs3 := hb3.size
        have hk3 : Kept (fun _ => False) w2 w3 := Kept.ofBelow (S := fun _ => False) hb3 (fun k hk hle => by omega)
        have HU := Lib.hid hu
        have HCM3 := Lib.hid (HCM1.out.kept hk3 (fun _ h => h.elim))
        have HB3 := Lib.hid (HB1.out.trans (hb3.mono (by omega)))
        have HRG3 := Lib.hid (ranges_same HRG1.out (hk3.block b (by omega) (fun h => h)) (hk3.block w0.heap.size (by omega) (fun h => h)))
        have HG := Lib.hid (show ∀ k, (w2.heap.size ≤ k ∧ k < w3.heap.size) → w.heap.size + 1 < k ∧ k < w3.heap.size ∧ ∀ j, ¬ F j k from
          fun k hk => ⟨by omega, hk.2, fun j hf => by have := HCM1.out.pm.foot j k hf; omega⟩)
        have hins := insert_new w3 w.heap.size nb2 ks us _ HCM3.out.pm.dm j hj HND.out HDIS.out u (by have := HN2.out; omega) H0.out (fun i hi => HFIT.out.ks i hi)
        rw [← HY.out] at hins
        have HINS := Lib.hid hins
        clear hins hu hb3 hk3 hdis hent
        go_wp2_with fail
        refine HINS.out.mono ?_
        rintro e w5 ⟨rfl, w4, hk4, ⟨D2, _, hd2, ho2⟩, hk5⟩
        rw [HY.out] at ho2
        have hs4 := hk4.size
        have hs5 := hk5.size
        have hb4 := hk4.below (fun _ h => h.elim) (show w.heap.size ≤ w3.heap.size by omega)
        have hb5 := hk5.below (fun k e => by have e' : k = w.heap.size := e; omega) (show w.heap.size ≤ w4.heap.size by omega)
        have HCM5 := Lib.hid ((HCM3.out.kept hk4 (fun _ h => h.elim)).put hd2 HDIS.out j hj HLEN.out HND.out (HU.out.kept hk4 (fun k hk => ⟨hk.2, fun h => h⟩)) (fun k hk => by have := HG.out k hk; exact ⟨this.1, by omega, this.2.2⟩) ho2 hk5)
        have HB5 := Lib.hid ((HB3.out.trans hb4).trans hb5)
        have HRG5 := Lib.hid (ranges_same (ranges_same HRG3.out (hk4.block b (by omega) (fun h => h)) (hk4.block w0.heap.size (by omega) (fun h => h))) (hk5.block b (by omega) (fun e => by omega)) (hk5.block w0.heap.size (by omega) (fun e => by omega)))
        clear hk4 hk5 hd2 ho2 hb4 hb5
        go_wp2_with fail
        go_roundw
        case measure =>
          rw [HRG5.out.left_eq, HRG.out.left_eq]
          exact HLT.out
        case rel => exact ⟨_, _, cnt1, nb2 + 1, _, _, HRG5.out, fun l hl => HLEFT.out l (by simp at hl; exact hl.1), HM1.out, by have := HN2.out; simp; omega, HCM5.out, HB5.out, by omega⟩

/-- Clones of the parts. -/
theorem clone_step (n : Nat) (ih : SaidClone n) : SaidClone (n + 1) := by
  intro T v o S w h hS hv
  have hS' := hS
  obtain ⟨k, i, g, r, t, ks, os⟩ := o
  obtain ⟨hf, h⟩ := h
  obtain ⟨_, hv⟩ := hv
  rcases h with h | ⟨hk, a, cap, b, us, F, hv1, hna, ha, hF, hc⟩ | ⟨hk, b, nb, us, F, hv1, hb, hF, hnb, hd, hl, hdis, hc⟩
  · exact cloneLeaf n w hf h
  · subst hk
    obtain ⟨h1, h2⟩ := Value.iface.inj hv1
    subst h1
    subst h2
    have hv2 : ∀ o ∈ os, Valid n o := by
      rcases hv with h | ⟨h, _⟩ | h | ⟨h, _⟩ | h | h | h | h | ⟨_, h⟩ | ⟨h, _⟩
      all_goals first | exact h | omega
    exact cloneArr_any n ih a cap b us F i g r t ks os S w hf ha (fun j k h => (hF.1 j k h).1) (fun j hj => ⟨(hc j hj).1, (hc j hj).2.2⟩) hS hv2
  · subst hk
    obtain ⟨h1, h2⟩ := Value.iface.inj hv1
    subst h1
    subst h2
    have hv2 : KeysOk ks ∧ ∀ o ∈ os, Valid n o := by
      rcases hv with h | ⟨h, _⟩ | h | ⟨h, _⟩ | h | h | h | h | ⟨h, _⟩ | ⟨_, _, h⟩
      all_goals first | exact h | omega
    exact cloneDict_any n ih b nb us F i g r t ks os S w hf hd hb (fun j k h => (hF.1 j k h).1) hc hS hv2.2 hl hv2.1

theorem clone_any (n : Nat) : SaidClone n := by
  induction n with
  | zero => intro T v o S w h; exact h.elim
  | succ n ih => exact clone_step n ih

end Go.Proofs.YtcpijmbdibgdmaaGreatDoor

/-
  impl.wreck: it empties an object of the package; what it writes lies in the object's own blocks.
-/
namespace Go.Proofs.YtcpijmbdibgdmaaGreatDoor
open Go Go.RowKit

theorem zero105 (w : World) : (zeroValue 105).run Tryz.prog w = .ok (.agg #[.map none, .int .i64 0, .pointer none, .pointer none, .slice none 0 0, .slice none 0 0, .slice none 0 0, .bool false, .int .i64 0]) w := by kernel_rfl

theorem desc105 : ∃ d, Tryz.prog.underlying 105 = some d ∧ notIface d = true := by
  have h : (match Tryz.prog.underlying 105 with | some d => notIface d | none => false) = true := by kernel_rfl
  cases hd : Tryz.prog.underlying 105 with
  | none => rw [hd] at h; simp at h
  | some d => rw [hd] at h; exact ⟨d, rfl, h⟩

@[go_sem] theorem miss105 (t : TypeId) (v : Value) (w : World) (h : t ≠ 105) : (Instr.typeAssert (.iface t v) 51 105 true).run Tryz.prog w = .ok (.tuple #[.agg #[.map none, .int .i64 0, .pointer none, .pointer none, .slice none 0 0, .slice none 0 0, .slice none 0 0, .bool false, .int .i64 0], .bool false]) w := by
  obtain ⟨d, h1, h2⟩ := desc105
  exact ta_miss h1 h2 t h v w (zero105 w)
@[go_sem] theorem none105 (w : World) : (Instr.typeAssert .nilIface 51 105 true).run Tryz.prog w = .ok (.tuple #[.agg #[.map none, .int .i64 0, .pointer none, .pointer none, .slice none 0 0, .slice none 0 0, .slice none 0 0, .bool false, .int .i64 0], .bool false]) w := by
  obtain ⟨d, h1, h2⟩ := desc105
  exact ta_nil h1 h2 w (zero105 w)

/-- What is shown of impl.wreck, for objects of fewer than `n` levels. -/
def SaidWreck (n : Nat) : Prop := ∀ (v : Value) (o : Ob) (S : Nat → Prop) (w : World), PRep n w S v o → (∀ k, S k → k < w.heap.size) →
  Calls Tryz.prog 23 #[v] w fun e w' => e = .returned (.tuple #[]) ∧ Kept S w w'

set_option maxRecDepth 100000 in
set_option maxHeartbeats 1000000 in
theorem wreckLeaf {k i g : Int} {r : Nat} {t : ByteArray} {v : Value} (w : World) (h : Leaf k i g r t v) : Calls Tryz.prog 23 #[v] w fun e w' => e = .returned (.tuple #[]) ∧ Kept (fun _ => False) w w' := by
  rcases h with ⟨_, h⟩ | ⟨_, x, h, _⟩ | ⟨_, h⟩ | ⟨_, h⟩ | ⟨_, h⟩ | ⟨_, h⟩ | ⟨_, h⟩ | ⟨_, h⟩
  all_goals
    subst h
    go_enter Tryz.func23, Tryz.ntmps23
    go_wp2_with fail
    go_end0
    exact ⟨rfl, Kept.refl _ _⟩

set_option maxRecDepth 100000 in
set_option maxHeartbeats 2000000 in
theorem wreckArr_any (n : Nat) (ih : SaidWreck n) (a : Option Addr) (cap b cl : Nat) (us : Nat → Value) (F : Nat → Nat → Prop) (os : List Ob) (S : Nat → Prop) (w : World) (hcl : cl = os.length) (hclb : cl * 96 ≤ 140737488355328)
    (ha : 0 < cl → a = some ⟨b, 0, none⟩ ∧ S b) (hF : Foot S b F)
    (hc : ∀ j (h : j < os.length), w.cell? ⟨b, j, none⟩ = some (us j) ∧ w.frozen? ⟨b, j, none⟩ = false ∧ PRep n w (F j) (us j) os[j])
    (hS : ∀ k, S k → k < w.heap.size) :
    Calls Tryz.prog 23 #[.iface 80 (.slice a cl cap)] w fun e w' => e = .returned (.tuple #[]) ∧ Kept S w w' := by
  have IH := Lib.hid ih
  have HA := Lib.hid ha
  have HFT := Lib.hid hF
  have HC := Lib.hid hc
  have HS := Lib.hid hS
  have HCL := Lib.hid hcl
  clear ih ha hF hc hS hcl
  go_enter Tryz.func23, Tryz.ntmps23
  go_wp2_with fail
  go_loopw [15] (fun i wr => ∃ (j : Nat), j ≤ cl ∧ i = .int .i64 j ∧ Kept (fun k => (k = b ∧ 0 < j) ∨ ∃ i, i < j ∧ i < cl ∧ F i k) w wr ∧ (∀ i, j ≤ i → i < cl → wr.cell? ⟨b, i, none⟩ = some (us i)) ∧ (∀ i, i < cl → wr.frozen? ⟨b, i, none⟩ = false)) (fun i _ => cl - (intOf i).toNat)
  case atStart => exact ⟨0, by omega, rfl, Kept.refl _ _, fun i _ hi => (HC.out i (by rw [← HCL.out]; exact hi)).1, fun i hi => (HC.out i (by rw [← HCL.out]; exact hi)).2.1⟩
  case round =>
    obtain ⟨j, hj, rfl, hk, hcell, hfr⟩ := hrel
    have HK := Lib.hid hk
    have HCELL := Lib.hid hcell
    have HFR := Lib.hid hfr
    have hsk := hk.size
    clear hk hcell hfr
    by_cases hlt : j < cl
    · obtain ⟨rfl, hSb⟩ := HA.out (by omega)
      have hbw := HS.out b hSb
      have hcj := HCELL.out j (Nat.le_refl _) hlt
      have HT := Lib.hid ((HC.out j (by rw [← HCL.out]; exact hlt)).2.2.kept HK.out (fun k hk => by
        have h1 := HFT.out.1 j k hk
        refine ⟨HS.out k h1.1, ?_⟩
        rintro (⟨e, _⟩ | ⟨i, hi, _, h2⟩)
        · exact h1.2 e
        · have := HFT.out.2 i j k h2 hk
          omega))
      obtain ⟨x, hx⟩ : ∃ x, x = us j := ⟨_, rfl⟩
      rw [← hx] at hcj HT
      clear hx
      have hif := HT.out.iface
      rcases hif with rfl | ⟨T, x, rfl⟩
      all_goals
        go_wp2_with fail
        refine (IH.out _ _ (F j) _ HT.out (fun k hk => by have := HS.out k (HFT.out.1 j k hk).1; omega)).mono ?_
        rintro e w1 ⟨rfl, hk1⟩
        have hs1 := hk1.size
        have hb1 := hk1.block b (by omega) (fun h => (HFT.out.1 j b h).2 rfl)
        have hm1 : w1.cell? ⟨b, j, none⟩ = some (us j) := (World.cell?_of_block (w := wr) (a := ⟨b, j, none⟩) hb1).trans (HCELL.out j (Nat.le_refl _) hlt)
        have hm2 : w1.frozen? ⟨b, j, none⟩ = false := (World.frozen?_of_block (w := wr) (a := ⟨b, j, none⟩) hb1).trans (HFR.out j hlt)
        have HK1 := Lib.hid hk1
        have HB1 := Lib.hid hb1
        clear hk1 hb1
        go_wp2_with fail
        go_roundw
        case measure => simp [intOf]; omega
        case rel =>
          refine ⟨j + 1, by omega, by go_num, ?_, fun i hi hil => ?_, fun i hi => ?_⟩
          · refine Kept.setCell (Kept.trans (HK.out.mono (fun k _ h => ?_)) HK1.out (fun k hk hF => .inr ⟨j, by omega, hlt, hF⟩)) _ _ (fun _ => .inl ⟨rfl, by omega⟩)
            rcases h with ⟨e, h⟩ | ⟨i, hi, hil, h⟩
            · exact .inl ⟨e, by omega⟩
            · exact .inr ⟨i, by omega, hil, h⟩
          · have hne : (⟨b, j, none⟩ : Addr) ≠ ⟨b, i, none⟩ := by
              intro e
              injection e
              omega
            refine (World.cell?_setCell_other _ _ _ _ hne).trans ?_
            exact (World.cell?_of_block (w := wr) (a := ⟨b, i, none⟩) HB1.out).trans (HCELL.out i (by omega) hil)
          · rw [World.frozen?_setCell]
            exact (World.frozen?_of_block (w := wr) (a := ⟨b, i, none⟩) HB1.out).trans (HFR.out i hi)
    · go_wp2_with fail
      go_end0
      refine ⟨rfl, HK.out.mono (fun k _ h => ?_)⟩
      rcases h with ⟨e, h⟩ | ⟨i, hi, hil, h⟩
      · rw [e]
        exact (HA.out (by omega)).2
      · exact (HFT.out.1 i k h).1

/-- What is known of the entries that are left. -/
structure WMap (D : DataW Value) (ks : List ByteArray) (us : Nat → Value) : Prop where
  at_ : ∀ j (h : j < ks.length), Maps.has D (kl ks[j]) = true → ∀ z, D.atKey (kl ks[j]) z = .held (us j)
  has : ∀ l, Maps.has D l = true → ∃ (j : Nat) (h : j < ks.length), l = kl ks[j]

theorem WMap.del {D : DataW Value} {ks : List ByteArray} {us : Nat → Value} (h : WMap D ks us) (l : Lit) : WMap (D.del l) ks us := by
  refine ⟨fun j hj hh z => ?_, fun m hm => ?_⟩
  · by_cases e : kl ks[j] = l
    · rw [e, Maps.has_del_same] at hh
      simp at hh
    · rw [Maps.has_del_other e] at hh
      rw [Maps.atKey_del_other e]
      exact h.at_ j hj hh z
  · by_cases e : m = l
    · rw [e, Maps.has_del_same] at hm
      simp at hm
    · rw [Maps.has_del_other e] at hm
      exact h.has m hm

theorem WMap.met {D : DataW Value} {ks : List ByteArray} {us : Nat → Value} (hdm : WMap D ks us) {x : ByteArray} {c : Value} {l : Lit} {y : DataW Value × List MemPlace} (hk : keyOf Tryz.prog 9 (.string x) = some l) (hh : Maps.has D l = true)
    (hR : RV c = some y) (hat : ∀ z, D.atKey l z = y.1) : ∃ (j : Nat) (h : j < ks.length), x = ks[j] ∧ c = us j ∧ l = kl ks[j] := by
  obtain ⟨s, hs, rfl⟩ := keyOf9_inv hk
  injection hs with hs
  subst hs
  obtain ⟨j, hj, e⟩ := hdm.has _ hh
  have ex := kl_inj e
  refine ⟨j, hj, ex, ?_, e⟩
  have h1 := hat .nil
  rw [e] at hh
  rw [e, hdm.at_ j hj hh] at h1
  have e1 : (DataW.held c, ([] : List MemPlace)) = y := Option.some.inj hR
  rw [← e1] at h1
  exact (DataW.held.inj h1).symm

set_option maxRecDepth 100000 in
set_option maxHeartbeats 4000000 in
theorem wreckDict_any (n : Nat) (ih : SaidWreck n) (b nb : Nat) (us : Nat → Value) (F : Nat → Nat → Prop) (r : Nat) (t : ByteArray) (ks : List ByteArray) (os : List Ob) (S : Nat → Prop) (w : World)
    (hf : Fits r t ks os.length) (hdm : DM w b nb ks us (fun _ => True)) (hb : S b) (hF : Foot S b F) (hl : ks.length = os.length) (hdis : Distinct ks)
    (hc : ∀ j (h : j < os.length), PRep n w (F j) (us j) os[j])
    (hS : ∀ k, S k → k < w.heap.size) :
    Calls Tryz.prog 23 #[.iface 61 (.map (some b))] w fun e w' => e = .returned (.tuple #[]) ∧ Kept S w w' := by
  have IH := Lib.hid ih
  have HFT := Lib.hid hF
  have HC := Lib.hid hc
  have HS := Lib.hid hS
  have HL := Lib.hid hl
  have HDIS := Lib.hid hdis
  have HFIT := Lib.hid hf
  have HSB := Lib.hid hb
  have hbs := hS b hb
  obtain ⟨D, hown, hd⟩ := hdm
  have HOWN := Lib.hid hown
  have HW := Lib.hid (WMap.mk (fun j hj _ z => hd.at_ j hj trivial z) (fun l hl => by obtain ⟨j, hj, _, e⟩ := hd.has l hl; exact ⟨j, hj, e⟩) : WMap D ks us)
  clear ih hF hc hS hl hdis hf hown hd hb
  go_enter Tryz.func23, Tryz.ntmps23
  go_wp2_with (at_range; go_must (refine wpList_range_own _ rfl _ 61 rfl 9 51 key9 Tryz.underlying61 RV b nb D rfl HOWN.out ?_); intro w0 hrg0 hg0 hs0)
  go_frame
  have HG0 := Lib.hid (kept_of_grown_none hg0)
  have HR0 := Lib.hid hrg0
  clear hg0 hrg0
  go_loopw [] (fun wr => ∃ (D' : DataW Value) (left : Lit → Bool) (cnt : Nat), wr.ranges Tryz.prog 9 RV b w.heap.size nb D' left cnt ∧ (∀ l, left l = true → Maps.has D' l = true) ∧ WMap D' ks us ∧ Kept (fun k => k = b ∨ ∃ i, Gone ks left i ∧ F i k) w wr ∧ w.heap.size + 1 ≤ wr.heap.size) (fun wr => wr.rangeLeft b w.heap.size)
  case atStart => exact ⟨_, _, _, HR0.out, fun _ h => h, HW.out, HG0.out.mono (fun _ _ h => h.elim), by omega⟩
  case round =>
    obtain ⟨D', left, cnt, hrg, hleft, hw, hkp, hsz⟩ := hrel
    have HRG := Lib.hid hrg
    have HLEFT := Lib.hid hleft
    have HW1 := Lib.hid hw
    have HK := Lib.hid hkp
    clear hrg hleft hkp hw
    go_wp2_with (at_next; go_must (refine wpList_next_ranges _ rfl _ rfl 9 key9 RV Value.string (fun v => v) (fun key l h => by obtain ⟨s, e, _⟩ := keyOf9_inv h; exact ⟨s, e⟩) (fun v y _ => ⟨v, rfl⟩) b w.heap.size nb D' left cnt rfl HRG.out ?_ ?_))
    · intro hc0 hl0
      clear hl0 hc0
      go_wp2_with fail
      go_end0
      refine ⟨rfl, HK.out.mono (fun k _ h => ?_)⟩
      rcases h with e | ⟨i, _, h⟩
      · rw [e]
        exact HSB.out
      · exact (HFT.out.1 i k h).1
    · intro y c l a ps w1 cnt1 hkey hl2 hR hat hrg1 hlt hg1 hs1 hen
      obtain ⟨j, hj, hy, hcj, hlj⟩ := HW1.out.met hkey (HLEFT.out l hl2) hR hat
      rw [hlj] at hl2 hrg1
      have hjo : j < os.length := by have := HL.out; omega
      have hk1 := kept_of_grown hg1
      have hs2 : wr.heap.size ≤ w1.heap.size := by omega
      have HK1 := Lib.hid (HK.out.trans (hk1.mono (S' := (· = w.heap.size)) (fun _ _ h => h)) (fun k hk e => by have e' : k = w.heap.size := e; omega))
      have HP := Lib.hid ((HC.out j hjo).kept HK1.out (fun k hk => by
        have h1 := HFT.out.1 j k hk
        refine ⟨HS.out k h1.1, ?_⟩
        rintro (e | ⟨i, ⟨_, hi⟩, h2⟩)
        · exact h1.2 e
        · have e := HFT.out.2 i j k h2 hk
          subst e
          rw [hl2] at hi
          simp at hi))
      have HRG1 := Lib.hid hrg1
      have HY := Lib.hid hy
      have HLT := Lib.hid hlt
      have hky := HFIT.out.ks j hj
      rw [← hcj] at HP
      rw [← hy] at hky
      have HKY := Lib.hid (keyOf9 y hky)
      clear hkey hl2 hR hat hrg1 hg1 hlj hy hcj hk1 hs1 hlt
      have hif := HP.out.iface
      rcases hif with rfl | ⟨T, x, rfl⟩
      all_goals
        go_wp2_with fail
        refine (IH.out _ _ (F j) _ HP.out (fun k hk => by have := HS.out k (HFT.out.1 j k hk).1; omega)).mono ?_
        rintro e w2 ⟨rfl, hk2⟩
        have hs3 := hk2.size
        have HRG2 := Lib.hid (ranges_same HRG1.out (hk2.block b (by omega) (fun h => (HFT.out.1 j b h).2 rfl)) (hk2.block w.heap.size (by omega) (fun h => by have := HS.out _ (HFT.out.1 j _ h).1; omega)))
        have HK2 := Lib.hid hk2
        clear hk2
        go_wp2_with (at_delete; go_must (refine wpList_delete_ranges _ rfl _ _ 61 9 rfl 51 key9 Tryz.underlying61 RV b w.heap.size nb D' _ cnt1 rfl HRG2.out _ (kl y) rfl HKY.out ?_); intro w3 cnt2 hrg3 hle hturn)
        go_frame
        have HRG3 := Lib.hid hrg3
        have hk3 := kept_of_grown hturn.grown
        have hs4 := hk3.size
        have HK3 := Lib.hid hk3
        have HLE := Lib.hid hle
        clear hrg3 hturn hk3 hle
        go_wp2_with fail
        go_roundw
        case measure =>
          rw [HRG3.out.left_eq, HRG.out.left_eq]
          exact Nat.lt_of_le_of_lt HLE.out HLT.out
        case rel =>
          refine ⟨_, _, cnt2, HRG3.out, fun l hl => ?_, HW1.out.del _, ?_, by omega⟩
          · simp at hl
            have hne : l ≠ kl y := fun e => by
              have h2 := hl.2
              rw [e, (sameKl y y).2 rfl] at h2
              simp at h2
            rw [Maps.has_del_other hne]
            exact HLEFT.out l hl.1.1
          · refine Kept.trans (Kept.trans (HK1.out.mono (fun k _ h => ?_)) HK2.out (fun k hk hF => ?_)) HK3.out (fun k _ e => .inl e)
            · rcases h with e | ⟨i, ⟨hi, h⟩, h2⟩
              · exact .inl e
              · exact .inr ⟨i, ⟨hi, by simp [h]⟩, h2⟩
            · refine .inr ⟨j, ⟨hj, ?_⟩, hF⟩
              simp [(sameKl ks[j] ks[j]).2 rfl]

theorem wreck_any (n : Nat) : SaidWreck n := by
  induction n with
  | zero => intro v o S w h; exact h.elim
  | succ n ih =>
    intro v o S w h hS
    obtain ⟨k, i, g, r, t, ks, os⟩ := o
    obtain ⟨hf, h⟩ := h
    rcases h with h | ⟨hk, a, cap, b, us, F, hv1, hna, ha, hF, hc⟩ | ⟨hk, b, nb, us, F, hv1, hb, hF, hnb, hd, hl, hdis, hc⟩
    · exact (wreckLeaf w h).mono fun e w' h => ⟨h.1, h.2.mono (fun _ _ h => h.elim)⟩
    · subst hv1
      exact wreckArr_any n ih a cap b os.length us F os S w rfl hf.cl ha hF hc hS
    · subst hv1
      exact wreckDict_any n ih b nb us F r t ks os S w hf hd hb hF hl hdis hc hS

end Go.Proofs.YtcpijmbdibgdmaaGreatDoor
