/-
  spec.dictFind, and spec.Done of a step that finds.
-/
import Derived.Test.YtcpijmbdibgdmaaGreatDoorE1
namespace Go.Proofs.YtcpijmbdibgdmaaGreatDoor
open Go Go.RowKit

/-- Where a key is. -/
def FoundAt (ks : List ByteArray) (key : ByteArray) (r : Int) : Prop := (r = -1 ∧ ∀ j (h : j < ks.length), ks[j] ≠ key) ∨ ∃ (j : Nat) (h : j < ks.length), r = j ∧ ks[j] = key

theorem toList_ne {x y : ByteArray} (h : x ≠ y) : (x.toList == y.toList) = false := by
  cases hq : (x.toList == y.toList)
  · rfl
  · exfalso
    have e := beq_iff_eq.1 hq
    rw [Lib.toList_data, Lib.toList_data] at e
    exact h (kl_inj (by unfold kl; rw [e]))

set_option maxRecDepth 100000 in
set_option maxHeartbeats 1000000 in
theorem dictFind_any (c0 c1 c2 c3 c4 c6 : Value) (ka : Option Addr) (ks : List ByteArray) (kc : Nat) (S : Nat → Prop) (key : ByteArray) (w : World) (hs : StrRow w S ka ks) (hS : ∀ k, S k → k < w.heap.size) :
    Calls Tryz.prog 35 #[.agg #[c0, c1, c2, c3, c4, .slice ka ks.length kc, c6], .string key] w fun e w' => (∃ r, e = .returned (.int .i64 r) ∧ FoundAt ks key r) ∧ Kept (fun _ => False) w w' := by
  have HSR := Lib.hid hs
  have HS := Lib.hid hS
  have hkl := hs.1
  obtain ⟨kl, hkl'⟩ : ∃ kl, kl = ks.length := ⟨_, rfl⟩
  rw [← hkl'] at hkl ⊢
  have HKL := Lib.hid hkl'
  clear hs hS hkl'
  go_enter Tryz.func35, Tryz.ntmps35
  go_wp2_with fail
  have hka : Kept (fun _ => False) w (w.alloc (.cells #[c0, c1, c2, c3, c4, .slice ka kl kc, c6] 26)) := (Kept.refl _ w).alloc _
  generalize w.alloc (.cells #[c0, c1, c2, c3, c4, .slice ka kl kc, c6] 26) = wa at hka ⊢
  have HKA := Lib.hid hka
  clear hka
  go_loopw [10, 5, 6] (fun i _ _ wr => ∃ (j : Nat), j ≤ kl ∧ i = .int .i64 j ∧ wr = wa ∧ ∀ i (h : i < ks.length), i < j → ks[i] ≠ key) (fun i _ _ _ => kl - (intOf i).toNat)
  case atStart => exact ⟨0, by omega, rfl, rfl, fun i h hi => by omega⟩
  case round =>
    obtain ⟨j, hj, rfl, rfl, hne⟩ := hrel
    have HNE := Lib.hid hne
    clear hne
    by_cases hlt : j < kl
    · obtain ⟨_, sb, so, hsa, hsk⟩ := HSR.out
      obtain ⟨rfl, hSb⟩ := hsa (by rw [← HKL.out]; omega)
      obtain ⟨hc1, hz1⟩ := hsk j (by rw [← HKL.out]; exact hlt)
      have hr1 := (HKA.out.cell (p := ⟨sb, so + j, none⟩) (HS.out _ hSb) (fun h => h)).trans hc1
      obtain ⟨s, hs⟩ : ∃ s, s = ks[j]'(by rw [← HKL.out]; exact hlt) := ⟨_, rfl⟩
      rw [← hs] at hr1 hz1
      have HSS := Lib.hid hs
      clear hc1 hs hsa hsk
      by_cases he : s = key
      · have hq : (s.toList == key.toList) = true := by rw [he]; simp
        go_wp2_with fail
        go_ret
        exact ⟨⟨_, rfl, .inr ⟨j, by rw [← HKL.out]; exact hlt, rfl, HSS.out.symm.trans he⟩⟩, HKA.out⟩
      · have hq := toList_ne he
        go_wp2_with fail
        go_roundw
        case measure => simp [intOf]; omega
        case rel =>
          refine ⟨j + 1, by omega, by go_num, trivial, fun i hi hij => ?_⟩
          by_cases e : i = j
          · subst e
            rw [← HSS.out]
            exact he
          · exact HNE.out i hi (by omega)
    · go_wp2_with fail
      go_ret
      exact ⟨⟨_, rfl, .inl ⟨rfl, fun i hi => HNE.out i hi (by have := HKL.out; omega)⟩⟩, HKA.out⟩

/-- The object without anything. -/
def zeroAgg : Value := .agg #[.int .i64 0, .int .i64 0, .int .i64 0, .float .f64 0, .string ByteArray.empty, .slice none 0 0, .slice none 0 0]

theorem alloc_at (w : World) (o : Obj) : (w.alloc o).heap[w.heap.size]? = some o := by
  show (w.heap.push _)[w.heap.size]? = _
  simp

/-- Four variables more. -/
theorem four (w : World) (c0 c1 c2 c3 c4 c5 c6 z0 z1 z2 z3 z4 z5 z6 : Value) (o : Obj) : Kept (fun _ => False) w ((((w.alloc (.cells #[c0, c1, c2, c3, c4, c5, c6] 26)).alloc o).alloc (.cells #[z0, z1, z2, z3, z4, z5, z6] 26)).alloc (.cells #[z0, z1, z2, z3, z4, z5, z6] 26)) ∧
    ((((w.alloc (.cells #[c0, c1, c2, c3, c4, c5, c6] 26)).alloc o).alloc (.cells #[z0, z1, z2, z3, z4, z5, z6] 26)).alloc (.cells #[z0, z1, z2, z3, z4, z5, z6] 26)).heap.size = w.heap.size + 4 ∧
    Box7 ((((w.alloc (.cells #[c0, c1, c2, c3, c4, c5, c6] 26)).alloc o).alloc (.cells #[z0, z1, z2, z3, z4, z5, z6] 26)).alloc (.cells #[z0, z1, z2, z3, z4, z5, z6] 26)) w.heap.size c0 c1 c2 c3 c4 c5 c6 ∧
    ((((w.alloc (.cells #[c0, c1, c2, c3, c4, c5, c6] 26)).alloc o).alloc (.cells #[z0, z1, z2, z3, z4, z5, z6] 26)).alloc (.cells #[z0, z1, z2, z3, z4, z5, z6] 26)).heap[w.heap.size + 1]? = some o ∧
    Box7 ((((w.alloc (.cells #[c0, c1, c2, c3, c4, c5, c6] 26)).alloc o).alloc (.cells #[z0, z1, z2, z3, z4, z5, z6] 26)).alloc (.cells #[z0, z1, z2, z3, z4, z5, z6] 26)) (w.heap.size + 1 + 1) z0 z1 z2 z3 z4 z5 z6 ∧
    Box7 ((((w.alloc (.cells #[c0, c1, c2, c3, c4, c5, c6] 26)).alloc o).alloc (.cells #[z0, z1, z2, z3, z4, z5, z6] 26)).alloc (.cells #[z0, z1, z2, z3, z4, z5, z6] 26)) (w.heap.size + 1 + 1 + 1) z0 z1 z2 z3 z4 z5 z6 := by
  have hst : ∀ (w : World) (o : Obj), Kept (fun _ => False) w (w.alloc o) := fun w o => (Kept.refl _ w).alloc o
  have hsz : ∀ (w : World) (o : Obj), (w.alloc o).heap.size = w.heap.size + 1 := fun w o => by simp
  have h1 := Box7.made w c0 c1 c2 c3 c4 c5 c6
  have e1 := hsz w (.cells #[c0, c1, c2, c3, c4, c5, c6] 26)
  have k1 := hst w (.cells #[c0, c1, c2, c3, c4, c5, c6] 26)
  generalize w.alloc (.cells #[c0, c1, c2, c3, c4, c5, c6] 26) = w1 at *
  have h2 := alloc_at w1 o
  have e2 := hsz w1 o
  have k2 := hst w1 o
  generalize w1.alloc o = w2 at *
  have h3 := Box7.made w2 z0 z1 z2 z3 z4 z5 z6
  have e3 := hsz w2 (.cells #[z0, z1, z2, z3, z4, z5, z6] 26)
  have k3 := hst w2 (.cells #[z0, z1, z2, z3, z4, z5, z6] 26)
  generalize w2.alloc (.cells #[z0, z1, z2, z3, z4, z5, z6] 26) = w3 at *
  have h4 := Box7.made w3 z0 z1 z2 z3 z4 z5 z6
  have e4 := hsz w3 (.cells #[z0, z1, z2, z3, z4, z5, z6] 26)
  have k4 := hst w3 (.cells #[z0, z1, z2, z3, z4, z5, z6] 26)
  generalize w3.alloc (.cells #[z0, z1, z2, z3, z4, z5, z6] 26) = w4 at *
  have tr : ∀ {a b c : World}, Kept (fun _ => False) a b → Kept (fun _ => False) b c → Kept (fun _ => False) a c := fun h h' => h.trans h' (fun _ _ h => h)
  refine ⟨tr (tr (tr k1 k2) k3) k4, by omega, h1.kept (tr (tr k2 k3) k4) (fun h => h), ?_, ?_, ?_⟩
  · rw [← e1]
    exact ((tr k3 k4).block _ (by omega) (fun h => h)).trans h2
  · have := h3.kept k4 (fun h => h)
    rwa [show w.heap.size + 1 + 1 = w2.heap.size by omega]
  · rwa [show w.heap.size + 1 + 1 + 1 = w3.heap.size by omega]

/-- The entry of a key, or nothing. -/
def FoundOb (n : Nat) (w : World) (S : Nat → Prop) (ks : List ByteArray) (os : List Ob) (key : ByteArray) (u : Value) : Prop :=
  (u = zeroAgg ∧ ∀ j (h : j < ks.length), ks[j] ≠ key) ∨ ∃ (j : Nat) (h : j < ks.length) (h' : j < os.length), ks[j] = key ∧ Rep n w S u os[j]

set_option maxRecDepth 100000 in
set_option maxHeartbeats 4000000 in
theorem done_any (n : Nat) (k i g : Int) (r : Nat) (t : ByteArray) (ks : List ByteArray) (os : List Ob) (v : Value) (S : Nat → Prop) (key : ByteArray) (w : World) (h : Rep (n + 1) w S v (.mk k i g r t ks os)) (hS : ∀ k, S k → k < w.heap.size) (hlen : ks.length = os.length) :
    Calls Tryz.prog 13 #[v, .agg #[.int .i64 3, .string key, .int .i64 0, .int .i64 0, .int .i64 0, .float .f64 0, .string ByteArray.empty, .slice none 0 0, .slice none 0 0]] w fun e w' =>
      (∃ u told, e = .returned (.tuple #[v, .bool told, u, .bool true]) ∧ FoundOb n w' S ks os key u) ∧ Kept (fun _ => False) w w' := by
  have HS := Lib.hid hS
  obtain ⟨ka, ca, kc, cc, rfl, _, _, hs, hl, b, off, hca, hk⟩ := h
  have HSR := Lib.hid hs
  have HCA := Lib.hid hca
  have HK := Lib.hid hk
  have HLEN := Lib.hid hlen
  clear hs hca hk hlen hS
  obtain ⟨cl, hcl⟩ : ∃ cl, cl = os.length := ⟨_, rfl⟩
  rw [← hcl] at hl ⊢
  have HCL := Lib.hid hcl
  clear hcl
  have hsf := @store_float Tryz.prog
  go_enter Tryz.func13, Tryz.ntmps13
  go_wp2_with fail
  obtain ⟨hk4, hs4, hx, hst, hr, hv⟩ := four w (.int .i64 k) (.int .i64 i) (.int .i64 g) (.float .f64 r) (.string t) (.slice ka ks.length kc) (.slice ca cl cc) (.int .i64 0) (.int .i64 0) (.int .i64 0) (.float .f64 0) (.string { data := #[] }) (.slice none 0 0) (.slice none 0 0) (.cells #[.int .i64 3, .string key, .int .i64 0, .int .i64 0, .int .i64 0, .float .f64 0, .string ByteArray.empty, .slice none 0 0, .slice none 0 0] 43)
  generalize (((w.alloc (.cells #[.int .i64 k, .int .i64 i, .int .i64 g, .float .f64 r, .string t, .slice ka ks.length kc, .slice ca cl cc] 26)).alloc (.cells #[.int .i64 3, .string key, .int .i64 0, .int .i64 0, .int .i64 0, .float .f64 0, .string ByteArray.empty, .slice none 0 0, .slice none 0 0] 43)).alloc (.cells #[.int .i64 0, .int .i64 0, .int .i64 0, .float .f64 0, .string { data := #[] }, .slice none 0 0, .slice none 0 0] 26)).alloc (.cells #[.int .i64 0, .int .i64 0, .int .i64 0, .float .f64 0, .string { data := #[] }, .slice none 0 0, .slice none 0 0] 26) = w4 at hk4 hs4 hx hst hr hv ⊢
  obtain ⟨x1, hx1⟩ : ∃ x, x = w.heap.size + 1 := ⟨_, rfl⟩
  rw [← hx1] at hst hr hv ⊢
  obtain ⟨x2, hx2⟩ : ∃ x, x = x1 + 1 := ⟨_, rfl⟩
  rw [← hx2] at hr hv ⊢
  obtain ⟨x3, hx3⟩ : ∃ x, x = x2 + 1 := ⟨_, rfl⟩
  rw [← hx3] at hv ⊢
  have hz1 : w.heap.size < x1 := by omega
  have hz2 : x1 < x2 := by omega
  have hz3 : x2 < x3 := by omega
  have hz4 : x3 < w4.heap.size := by omega
  clear hx1 hx2 hx3 hs4
  have hsr : StrRow w4 S ka ks := by
    obtain ⟨h1, sb, so, h2, h3⟩ := HSR.out
    refine ⟨h1, sb, so, h2, fun j hj => ⟨?_, (h3 j hj).2⟩⟩
    exact (hk4.cell (p := ⟨sb, so + j, none⟩) (HS.out _ (h2 (by omega)).2) (fun h => h)).trans (h3 j hj).1
  refine (dictFind_any _ _ _ _ _ _ ka ks kc S key _ hsr (fun k hk => by have := HS.out k hk; omega)).mono ?_
  rintro e w5 ⟨⟨q, rfl, hq⟩, hk5⟩
  have hs5 := hk5.size
  have HQ := Lib.hid hq
  have HX := Lib.hid (hx.kept hk5 (fun h => h))
  have HR := Lib.hid (hr.kept hk5 (fun h => h))
  have HV := Lib.hid (hv.kept hk5 (fun h => h))
  have hst5 := (hk5.block x1 (by omega) (fun h => h)).trans hst
  have s0 : w5.cell? ⟨x1, 0, none⟩ = some (.int .i64 3) := by simp [World.cell?, hst5]
  have s1 : w5.cell? ⟨x1, 1, none⟩ = some (.string key) := by simp [World.cell?, hst5]
  have HST := Lib.hid hst5
  have HK5 := Lib.hid (hk4.trans hk5 (fun _ _ h => h))
  obtain ⟨g0, g1, g2, g3, g4, g5, g6⟩ := HX.out.at
  clear hk4 hk5 hx hst hr hv hst5 hsr hq
  rcases HQ.out with ⟨rfl, hne⟩ | ⟨j, hj, rfl, he⟩
  · have HNE := Lib.hid hne
    obtain ⟨i0, i1, i2, i3, i4, i5, i6⟩ := HV.out.at
    obtain ⟨j0, j1, j2, j3, j4, j5, j6⟩ := HR.out.at
    have hf1 := HV.out.frozen
    have hf2 := HR.out.frozen
    clear hne
    have HRW := HR
    have HVW := HV
    go_wp2_with fail
    go_region
    obtain ⟨hx12, hk12⟩ := HRW.out.stored (.int .i64 k) (.int .i64 i) (.int .i64 g) (.float .f64 r) (.string t) (.slice ka ks.length kc) (.slice ca cl cc)
    obtain ⟨hy13, hk13⟩ := (HVW.out.kept hk12 (fun e => by omega)).stored (.int .i64 0) (.int .i64 0) (.int .i64 0) (.float .f64 0) (.string { data := #[] }) (.slice none 0 0) (.slice none 0 0)
    have hx14 := (hx12.kept hk13 (fun e => by omega)).drew
    have hy14 := hy13.drew
    have hk14 := ((hk12.mono (S' := fun k => k = x2 ∨ k = x3) (fun k _ e => .inl e)).trans hk13 (fun k _ e => .inr e)).drew
    unfold put7 at hx14 hy14 hk14
    generalize (((((((((((((((w5.setCell ⟨x2, 0, none⟩ (.int .i64 k)).setCell ⟨x2, 1, none⟩ (.int .i64 i)).setCell ⟨x2, 2, none⟩ (.int .i64 g)).setCell ⟨x2, 3, none⟩ (.float .f64 r)).setCell ⟨x2, 4, none⟩ (.string t)).setCell ⟨x2, 5, none⟩ (.slice ka ks.length kc)).setCell ⟨x2, 6, none⟩ (.slice ca cl cc)).setCell ⟨x3, 0, none⟩ (.int .i64 0)).setCell ⟨x3, 1, none⟩ (.int .i64 0)).setCell ⟨x3, 2, none⟩ (.int .i64 0)).setCell ⟨x3, 3, none⟩ (.float .f64 0)).setCell ⟨x3, 4, none⟩ (.string { data := #[] })).setCell ⟨x3, 5, none⟩ (.slice none 0 0)).setCell ⟨x3, 6, none⟩ (.slice none 0 0)).drew) = w14 at hx14 hy14 hk14 ⊢
    have hs14 := hk14.size
    have hcx := hx14.at
    have hcy := hy14.at
    clear hx12 hk12 hy13 hk13 g0 g1 g2 g3 g4 g5 g6 i0 i1 i2 i3 i4 i5 i6 j0 j1 j2 j3 j4 j5 j6
    obtain ⟨g0, g1, g2, g3, g4, g5, g6⟩ := hcx
    obtain ⟨i0, i1, i2, i3, i4, i5, i6⟩ := hcy
    go_wp2_with fail
    try simp only [Exit.inBlock, Exit.then]
    refine bodyPost_ret (by simp [results, Tryz.results13, go_sem, g0, g1, g2, g3, g4, g5, g6, i0, i1, i2, i3, i4, i5, i6]; try rfl) rfl ?_
    refine ⟨⟨_, _, rfl, .inl ⟨rfl, HNE.out⟩⟩, ?_⟩
    exact HK5.out.trans hk14 (fun k hk e => by have e' : k = x2 ∨ k = x3 := e; exact (show False by omega))
  · have hjo : j < os.length := by have := HLEN.out; omega
    obtain ⟨rfl, hSb⟩ := HCA.out (by omega)
    obtain ⟨u, hu, ho⟩ := HK.out j hjo
    obtain ⟨p0, p1, p2, p3, p4, pka, pca, pkl, pkc, pcl, pcc, rfl⟩ := ho.form
    have hjc : j < cl := by rw [HCL.out]; exact hjo
    obtain ⟨m0, m1, m2, m3, m4, m5, m6⟩ := (hu.same (HK5.out.block _ (HS.out _ hSb) (fun h => h))).cells
    have HO := Lib.hid ho
    have HJ := Lib.hid hj
    have HE := Lib.hid he
    obtain ⟨i0, i1, i2, i3, i4, i5, i6⟩ := HV.out.at
    have hf1 := HV.out.frozen
    have hn1 : ¬ x3 = x1 := by omega
    have hn2 : ¬ x3 = x2 := by omega
    have hn3 : ¬ x3 = w.heap.size := by omega
    have hn4 : ¬ x3 = b := by have := HS.out _ hSb; omega
    clear hu
    go_wp2_with fail
    obtain ⟨hvn, hkn⟩ := HV.out.stored (.int .i64 p0) (.int .i64 p1) (.int .i64 p2) (.float .f64 p3) (.string p4) (.slice pka pkl pkc) (.slice pca pcl pcc)
    have hrn := HR.out.kept hkn (fun e => by omega)
    have hxn := HX.out.kept hkn (fun e => by omega)
    unfold put7 at hvn hkn hrn hxn
    generalize (((((((w5.setCell ⟨x3, 0, none⟩ (.int .i64 p0)).setCell ⟨x3, 1, none⟩ (.int .i64 p1)).setCell ⟨x3, 2, none⟩ (.int .i64 p2)).setCell ⟨x3, 3, none⟩ (.float .f64 p3)).setCell ⟨x3, 4, none⟩ (.string p4)).setCell ⟨x3, 5, none⟩ (.slice pka pkl pkc)).setCell ⟨x3, 6, none⟩ (.slice pca pcl pcc)) = w6 at hvn hkn hrn hxn ⊢
    have hs6 := hkn.size
    have HVW := Lib.hid hvn
    have HRW := Lib.hid hrn
    have HKN := Lib.hid hkn
    have hcv := hvn.at
    have hcr := hrn.at
    have hcx0 := hxn.at
    have hf3 := hvn.frozen
    have hf4 := hrn.frozen
    clear hvn hkn hrn hxn g0 g1 g2 g3 g4 g5 g6 i0 i1 i2 i3 i4 i5 i6 m0 m1 m2 m3 m4 m5 m6
    obtain ⟨g0, g1, g2, g3, g4, g5, g6⟩ := hcx0
    obtain ⟨i0, i1, i2, i3, i4, i5, i6⟩ := hcv
    obtain ⟨j0, j1, j2, j3, j4, j5, j6⟩ := hcr
    go_region
    obtain ⟨hx12, hk12⟩ := HRW.out.stored (.int .i64 k) (.int .i64 i) (.int .i64 g) (.float .f64 r) (.string t) (.slice ka ks.length kc) (.slice (some ⟨b, off, none⟩) cl cc)
    obtain ⟨hy13, hk13⟩ := (HVW.out.kept hk12 (fun e => by omega)).stored (.int .i64 p0) (.int .i64 p1) (.int .i64 p2) (.float .f64 p3) (.string p4) (.slice pka pkl pkc) (.slice pca pcl pcc)
    have hx14 := (hx12.kept hk13 (fun e => by omega)).drew
    have hy14 := hy13.drew
    have hk14 := ((hk12.mono (S' := fun k => k = x2 ∨ k = x3) (fun k _ e => .inl e)).trans hk13 (fun k _ e => .inr e)).drew
    unfold put7 at hx14 hy14 hk14
    generalize (((((((((((((((w6.setCell ⟨x2, 0, none⟩ (.int .i64 k)).setCell ⟨x2, 1, none⟩ (.int .i64 i)).setCell ⟨x2, 2, none⟩ (.int .i64 g)).setCell ⟨x2, 3, none⟩ (.float .f64 r)).setCell ⟨x2, 4, none⟩ (.string t)).setCell ⟨x2, 5, none⟩ (.slice ka ks.length kc)).setCell ⟨x2, 6, none⟩ (.slice (some ⟨b, off, none⟩) cl cc)).setCell ⟨x3, 0, none⟩ (.int .i64 p0)).setCell ⟨x3, 1, none⟩ (.int .i64 p1)).setCell ⟨x3, 2, none⟩ (.int .i64 p2)).setCell ⟨x3, 3, none⟩ (.float .f64 p3)).setCell ⟨x3, 4, none⟩ (.string p4)).setCell ⟨x3, 5, none⟩ (.slice pka pkl pkc)).setCell ⟨x3, 6, none⟩ (.slice pca pcl pcc)).drew) = w14 at hx14 hy14 hk14 ⊢
    have hs14 := hk14.size
    have hcx := hx14.at
    have hcy := hy14.at
    clear hx12 hk12 hy13 hk13 g0 g1 g2 g3 g4 g5 g6 i0 i1 i2 i3 i4 i5 i6 j0 j1 j2 j3 j4 j5 j6
    obtain ⟨g0, g1, g2, g3, g4, g5, g6⟩ := hcx
    obtain ⟨i0, i1, i2, i3, i4, i5, i6⟩ := hcy
    go_wp2_with fail
    try simp only [Exit.inBlock, Exit.then]
    refine bodyPost_ret (by simp [results, Tryz.results13, go_sem, g0, g1, g2, g3, g4, g5, g6, i0, i1, i2, i3, i4, i5, i6]; try rfl) rfl ?_
    refine ⟨⟨_, _, rfl, .inr ⟨j, hj, hjo, HE.out, ?_⟩⟩, ?_⟩
    · exact HO.out.same (fun k hk => ⟨((hk14.block k (by have := HS.out k hk; omega) (fun e => by have := HS.out k hk; omega)).trans (HKN.out.block k (by have := HS.out k hk; omega) (fun e => by have := HS.out k hk; have e' : k = x3 := e; omega))).trans (HK5.out.block k (HS.out k hk) (fun h => h)), hk⟩)
    · exact (HK5.out.trans HKN.out (fun k hk e => by have e' : k = x3 := e; exact (show False by omega))).trans hk14 (fun k hk e => by have e' : k = x2 ∨ k = x3 := e; exact (show False by omega))

end Go.Proofs.YtcpijmbdibgdmaaGreatDoor
