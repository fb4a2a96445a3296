/-
  spec.fromObject: what it returns, given what spec.Twelve returns.
-/
import Derived.Test.YtcpijmbdibgdmaaGreatDoorF1
import Derived.Test.YtcpijmbdibgdmaaGreatDoorR4
import Derived.BigRegion
import Derived.RegionTactic
import Derived.Deep.RegionWith
import Derived.Deep.DeepCutAuto
namespace Go.Proofs.YtcpijmbdibgdmaaGreatDoor
open Go Go.RowKit

/-- What holds behind the first call. -/
structure FObj (w w1 : World) (v z : Value) : Prop where
  below : Below w.heap.size w w1
  size : w.heap.size + 2 ≤ w1.heap.size
  obj : Blk w1 w.heap.size v.cells 26
  res : Blk w1 (w.heap.size + 1) #[.int .i64 0, .int .i64 0, .int .i64 0, .float .f64 0, .string ⟨#[]⟩, .slice none 0 0, .slice none 0 0] 30

theorem FObj.below' {w w1 w2 : World} {v z : Value} (h : FObj w w1 v z) (hb : Below w1.heap.size w1 w2) : FObj w w2 v z := by
  have := h.size
  have := hb.size
  exact ⟨h.below.trans (hb.mono (by omega)), by omega, h.obj.below hb h.obj.lt, h.res.below hb h.res.lt⟩

theorem FObj.drew {w w1 : World} {v z : Value} (h : FObj w w1 v z) : FObj w w1.drew v z := ⟨h.below.drew, h.size, h.obj.drew, h.res.drew⟩

theorem FObj.room {w w1 : World} {v z : Value} (h : FObj w w1 v z) : w1.cell? ⟨w.heap.size + 1, 0, none⟩ = some (.int .i64 0) ∧ w1.cell? ⟨w.heap.size + 1, 1, none⟩ = some (.int .i64 0) ∧ w1.cell? ⟨w.heap.size + 1, 2, none⟩ = some (.int .i64 0) ∧ w1.cell? ⟨w.heap.size + 1, 3, none⟩ = some (.float .f64 0) ∧ w1.cell? ⟨w.heap.size + 1, 4, none⟩ = some (.string ⟨#[]⟩) ∧ w1.cell? ⟨w.heap.size + 1, 5, none⟩ = some (.slice none 0 0) ∧ w1.cell? ⟨w.heap.size + 1, 6, none⟩ = some (.slice none 0 0) ∧ w1.frozen? ⟨w.heap.size + 1, 0, none⟩ = false ∧ w1.frozen? ⟨w.heap.size + 1, 1, none⟩ = false ∧ w1.frozen? ⟨w.heap.size + 1, 2, none⟩ = false ∧ w1.frozen? ⟨w.heap.size + 1, 3, none⟩ = false ∧ w1.frozen? ⟨w.heap.size + 1, 4, none⟩ = false ∧ w1.frozen? ⟨w.heap.size + 1, 5, none⟩ = false ∧ w1.frozen? ⟨w.heap.size + 1, 6, none⟩ = false :=
  ⟨(h.res.cell 0).trans rfl, (h.res.cell 1).trans rfl, (h.res.cell 2).trans rfl, (h.res.cell 3).trans rfl, (h.res.cell 4).trans rfl, (h.res.cell 5).trans rfl, (h.res.cell 6).trans rfl, h.res.frozen 0, h.res.frozen 1, h.res.frozen 2, h.res.frozen 3, h.res.frozen 4, h.res.frozen 5, h.res.frozen 6⟩

theorem Gl.drew {w : World} (g : Gl w) : Gl w.drew := g.below ⟨rfl, rfl, rfl, Nat.le_refl _, fun _ _ => rfl⟩

/-- The keys ahead of number `m` are in order. -/
def KeysTo (ks : List ByteArray) (m : Nat) : Prop :=
  (∀ j (h : j < ks.length), j < m → noByte 0 ks[j].data.toList = true ∧ noByte 35 ks[j].data.toList = true) ∧
  ∀ j (h : j + 1 < ks.length), j + 1 < m → Op.bytesLess ks[j].toList ks[j + 1].toList = true

theorem KeysTo.snoc {ks : List ByteArray} {m : Nat} (h : KeysTo ks m) (hm : m < ks.length) (h0 : noByte 0 ks[m].data.toList = true) (h1 : noByte 35 ks[m].data.toList = true)
    (h2 : ∀ m', (e : m = m' + 1) → Op.bytesLess (ks[m']'(by omega)).toList ks[m].toList = true) : KeysTo ks (m + 1) := by
  refine ⟨fun j hj hlt => ?_, fun j hj hlt => ?_⟩
  · by_cases e : j = m
    · subst e; exact ⟨h0, h1⟩
    · exact h.1 j hj (by omega)
  · by_cases e : m = j + 1
    · subst e; exact h2 j rfl
    · exact h.2 j hj (by omega)

theorem KeysTo.all {ks : List ByteArray} {m : Nat} (h : KeysTo ks m) (hm : m = ks.length) : KeysOk ks := ⟨fun j hj => h.1 j hj (by omega), fun j hj => h.2 j hj (by omega)⟩

/-- A value without parts. -/
theorem Tree.leaf (n : Nat) (w : World) (S : Nat → Prop) (k i g : Int) (r : Nat) (t : ByteArray) : Tree (n + 1) w S (.agg #[.int .i64 k, .int .i64 i, .int .i64 g, .float .f64 r, .string t, .slice none 0 0, .slice none 0 0]) :=
  ⟨k, i, g, r, t, none, none, 0, 0, 0, 0, rfl, by simp, 0, 0, by simp, by simp⟩

set_option maxRecDepth 100000 in
set_option maxHeartbeats 8000000 in
theorem fromObject_step (n : Nat) (htw : TwelveSaid) (ih : Said16 n) : Said16 (n + 1) := by
  intro v o S w hrep hS hg
  obtain ⟨k, i, g, r, t, ks, os⟩ := o
  obtain ⟨ka, ca, kc, cc, rfl, ht, hr, hs, hl, b, off, hca, hk⟩ := hrep
  have IH := Lib.hid ih
  have TW := Lib.hid htw
  have HS := Lib.hid hS
  have HG := Lib.hid hg
  have HSR := Lib.hid hs
  have HCA := Lib.hid hca
  have HK := Lib.hid hk
  have HL := Lib.hid hl
  clear ih htw hS hg hs hca hk hl
  have hsf := @store_float Tryz.prog
  obtain ⟨kl, hkl⟩ : ∃ l, l = ks.length := ⟨_, rfl⟩
  obtain ⟨cl, hcl⟩ : ∃ l, l = os.length := ⟨_, rfl⟩
  rw [← hkl, ← hcl]
  have HKL := Lib.hid hkl
  have HCL := Lib.hid hcl
  clear hkl hcl
  go_enter Tryz.func16, Tryz.ntmps16
  go_wp2_with fail
  refine (only_any k i g r t ka ca kl kc cl cc _).mono ?_
  rintro e w1 ⟨⟨x, rfl, hP⟩, hb1⟩
  have hs1 := hb1.size
  simp at hs1
  have HF : FObj w w1 (.agg #[.int .i64 k, .int .i64 i, .int .i64 g, .float .f64 r, .string t, .slice ka kl kc, .slice ca cl cc]) .nilIface := by
    refine ⟨(((Below.refl _ w).alloc (Nat.le_refl _) _).alloc (by simp) _).trans (hb1.mono (by simp; omega)), by omega, ?_, ?_⟩
    · exact ((Blk.new w _ 26).alloc _).below hb1 (by simp; omega)
    · have := Blk.new (w.alloc (.cells #[.int .i64 k, .int .i64 i, .int .i64 g, .float .f64 r, .string t, .slice ka kl kc, .slice ca cl cc] 26)) #[.int .i64 0, .int .i64 0, .int .i64 0, .float .f64 0, .string ⟨#[]⟩, .slice none 0 0, .slice none 0 0] 30
      have h2 := this.below hb1 (by simp)
      simpa using h2
  have HP := Lib.hid hP
  have HF := Lib.hid HF
  clear hb1 hP
  cases x
  · go_wp2_with (first | ((with_reducible show wpList _ _ _ (⟨_, .store 30 (.tmp 2) _, _, _, _, _⟩ :: _) _ _); refine wpx_store (w.heap.size + 1) _ 30 HF.out.res 30 _ _ _ rfl rfl rfl rfl rfl Tryz.size30 rfl (by simp [Value.oneCell']) ?_; intro w2 hb2 hk2 hs2))
    refine bodyPost_ret (results_box rfl _ _ (w.heap.size + 1) 30 _ _ rfl hb2 rfl Tryz.underlying30 Tryz.size30) rfl ?_
    exact ⟨⟨_, false, Tree.leaf _ _ _ _ _ _ _ _, by simp, rfl⟩, HF.out.below.trans (hk2.below (fun k e => by omega) (by have := HF.out.size; omega))⟩
  · have p0 := HF.out.obj.cell 0
    have p1 := HF.out.obj.cell 1
    have p2 := HF.out.obj.cell 2
    have p3 := HF.out.obj.cell 3
    have p4 := HF.out.obj.cell 4
    have p5 := HF.out.obj.cell 5
    have p6 := HF.out.obj.cell 6
    simp [Value.cells] at p0 p1 p2 p3 p4 p5 p6
    have q0 := HF.out.res.cell 0
    have q1 := HF.out.res.cell 1
    have q2 := HF.out.res.cell 2
    have q3 := HF.out.res.cell 3
    have q4 := HF.out.res.cell 4
    have q5 := HF.out.res.cell 5
    have q6 := HF.out.res.cell 6
    simp at q0 q1 q2 q3 q4 q5 q6
    have f0 := HF.out.res.frozen 0
    have f1 := HF.out.res.frozen 1
    have f2 := HF.out.res.frozen 2
    have f3 := HF.out.res.frozen 3
    have f4 := HF.out.res.frozen 4
    have f5 := HF.out.res.frozen 5
    have f6 := HF.out.res.frozen 6
    by_cases k0 : k = 0
    · subst k0
      go_wp2_with (first | ((with_reducible show wpList _ _ _ (⟨_, .store 30 (.tmp 2) _, _, _, _, _⟩ :: _) _ _); refine wpx_store (w.heap.size + 1) _ 30 HF.out.res 30 _ _ _ rfl rfl rfl rfl rfl Tryz.size30 rfl (by simp [Value.oneCell']) ?_; intro w2 hb2 hk2 hs2))
      refine bodyPost_ret (results_box rfl _ _ (w.heap.size + 1) 30 _ _ rfl hb2 rfl Tryz.underlying30 Tryz.size30) rfl ?_
      refine ⟨⟨_, true, Tree.leaf _ _ _ _ _ _ _ _, fun _ => ⟨?_, .inl rfl⟩, rfl⟩, HF.out.below.trans (hk2.below (fun k e => by omega) (by have := HF.out.size; omega))⟩
      rw [← HKL.out, ← HCL.out]
      exact HP.out trivial
    by_cases k1 : k = 1
    · subst k1
      rcases Bool.eq_false_or_eq_true (i == 0) with hi0 | hi0
      · go_wp2_with fail
        go_region
        go_wp2_with fail
        refine bodyPost_ret (results_box rfl _ _ (w.heap.size + 1) 30 _ _ rfl (HF.out.res.set7d _ _ _ _ _ _ _) rfl Tryz.underlying30 Tryz.size30) rfl ?_
        refine ⟨⟨_, true, Tree.leaf _ _ _ _ _ _ _ _, fun _ => ⟨by rw [← HKL.out, ← HCL.out]; exact HP.out trivial, .inr (.inl ⟨rfl, .inl (by simpa using hi0)⟩)⟩, rfl⟩, HF.out.below.trans ((kept_set7d _ _ _ _ _ _ _ _ _).below (fun k e => by omega) (by have := HF.out.size; omega))⟩
      · rcases Bool.eq_false_or_eq_true (i == 1) with hi1 | hi1
        · go_wp2_with fail
          go_region
          go_wp2_with fail
          refine bodyPost_ret (results_box rfl _ _ (w.heap.size + 1) 30 _ _ rfl (HF.out.res.set7d _ _ _ _ _ _ _) rfl Tryz.underlying30 Tryz.size30) rfl ?_
          refine ⟨⟨_, true, Tree.leaf _ _ _ _ _ _ _ _, fun _ => ⟨by rw [← HKL.out, ← HCL.out]; exact HP.out trivial, .inr (.inl ⟨rfl, .inr (by simpa using hi1)⟩)⟩, rfl⟩, HF.out.below.trans ((kept_set7d _ _ _ _ _ _ _ _ _).below (fun k e => by omega) (by have := HF.out.size; omega))⟩
        · go_wp2_with fail
          go_region
          go_wp2_with fail
          refine bodyPost_ret (results_box rfl _ _ (w.heap.size + 1) 30 _ _ rfl (HF.out.res.set7d _ _ _ _ _ _ _) rfl Tryz.underlying30 Tryz.size30) rfl ?_
          refine ⟨⟨_, false, Tree.leaf _ _ _ _ _ _ _ _, by simp, rfl⟩, HF.out.below.trans ((kept_set7d _ _ _ _ _ _ _ _ _).below (fun k e => by omega) (by have := HF.out.size; omega))⟩
    by_cases k2 : k = 2
    · subst k2
      by_cases hi0 : i < -2147483648
      · have hd : decide (-2147483648 ≤ i) = false := by simp; omega
        go_wp2_with fail
        go_region
        go_wp2_with fail
        refine bodyPost_ret (results_box rfl _ _ (w.heap.size + 1) 30 _ _ rfl (HF.out.res.set7d _ _ _ _ _ _ _) rfl Tryz.underlying30 Tryz.size30) rfl ?_
        refine ⟨⟨_, false, Tree.leaf _ _ _ _ _ _ _ _, by simp, rfl⟩, HF.out.below.trans ((kept_set7d _ _ _ _ _ _ _ _ _).below (fun k e => by omega) (by have := HF.out.size; omega))⟩
      · by_cases hi1 : i < 2147483648
        · go_wp2_with fail
          go_region
          go_wp2_with fail
          refine bodyPost_ret (results_box rfl _ _ (w.heap.size + 1) 30 _ _ rfl (HF.out.res.set7d _ _ _ _ _ _ _) rfl Tryz.underlying30 Tryz.size30) rfl ?_
          refine ⟨⟨_, _, Tree.leaf _ _ _ _ _ _ _ _, fun _ => ⟨by rw [← HKL.out, ← HCL.out]; exact HP.out trivial, .inr (.inr (.inl rfl))⟩, rfl⟩, HF.out.below.trans ((kept_set7d _ _ _ _ _ _ _ _ _).below (fun k e => by omega) (by have := HF.out.size; omega))⟩
        · have hd : decide (i < 2147483648) = false := by simp; omega
          go_wp2_with fail
          go_region
          go_wp2_with fail
          refine bodyPost_ret (results_box rfl _ _ (w.heap.size + 1) 30 _ _ rfl (HF.out.res.set7d _ _ _ _ _ _ _) rfl Tryz.underlying30 Tryz.size30) rfl ?_
          refine ⟨⟨_, _, Tree.leaf _ _ _ _ _ _ _ _, fun _ => ⟨by rw [← HKL.out, ← HCL.out]; exact HP.out trivial, .inr (.inr (.inl rfl))⟩, rfl⟩, HF.out.below.trans ((kept_set7d _ _ _ _ _ _ _ _ _).below (fun k e => by omega) (by have := HF.out.size; omega))⟩
    by_cases k3 : k = 3
    · subst k3
      go_wp2_with fail
      go_region_with (go_at_call 40; refine (TW.out r _ hr ?_).mono ?_; exact (HG.out.below HF.out.below).drew; rintro e w3 ⟨⟨y, rfl, hy⟩, hb3⟩; have HF3 := Lib.hid (HF.out.drew.below' hb3); have HY := Lib.hid hy; have p3' := HF3.out.obj.cell 3; simp [Value.cells] at p3'; obtain ⟨y0, y1, y2, y3, y4, y5, y6, g0, g1, g2, g3, g4, g5, g6⟩ := HF3.out.room; clear hb3 hy)
      all_goals
        go_wp2_with fail
        refine bodyPost_ret (results_box rfl _ _ (w.heap.size + 1) 30 _ _ rfl (HF3.out.res.set7 _ _ _ _ _ _ _) rfl Tryz.underlying30 Tryz.size30) rfl ?_
        refine ⟨⟨_, _, Tree.leaf _ _ _ _ _ _ _ _, fun h => ⟨by rw [← HKL.out, ← HCL.out]; exact HP.out trivial, .inr (.inr (.inr (.inl ⟨rfl, HY.out h⟩)))⟩, rfl⟩, HF3.out.below.trans ((kept_set7 _ _ _ _ _ _ _ _ _).below (fun k e => by omega) (by have := HF3.out.size; omega))⟩
    by_cases k9 : k = 9
    · subst k9
      go_wp2_with fail
      by_cases a1 : 0 < i
      · by_cases a2 : i < 2147483648
        · by_cases a3 : 0 ≤ g
          · by_cases a4 : g ≤ 65535
            · go_region
              go_wp2_with fail
              refine bodyPost_ret (results_box rfl _ _ (w.heap.size + 1) 30 _ _ rfl (HF.out.res.set7d _ _ _ _ _ _ _) rfl Tryz.underlying30 Tryz.size30) rfl ?_
              refine ⟨⟨_, _, Tree.leaf _ _ _ _ _ _ _ _, fun _ => ⟨by rw [← HKL.out, ← HCL.out]; exact HP.out trivial, .inr (.inr (.inr (.inr (.inr (.inr (.inr (.inl rfl)))))))⟩, rfl⟩, HF.out.below.trans ((kept_set7d _ _ _ _ _ _ _ _ _).below (fun k e => by omega) (by have := HF.out.size; omega))⟩
            · have hd : decide (g ≤ 65535) = false := by simp; omega
              go_region
              go_wp2_with fail
              refine bodyPost_ret (results_box rfl _ _ (w.heap.size + 1) 30 _ _ rfl (HF.out.res.set7d _ _ _ _ _ _ _) rfl Tryz.underlying30 Tryz.size30) rfl ?_
              refine ⟨⟨_, _, Tree.leaf _ _ _ _ _ _ _ _, fun _ => ⟨by rw [← HKL.out, ← HCL.out]; exact HP.out trivial, .inr (.inr (.inr (.inr (.inr (.inr (.inr (.inl rfl)))))))⟩, rfl⟩, HF.out.below.trans ((kept_set7d _ _ _ _ _ _ _ _ _).below (fun k e => by omega) (by have := HF.out.size; omega))⟩
          · have hd : decide (0 ≤ g) = false := by simp; omega
            go_region
            go_wp2_with fail
            refine bodyPost_ret (results_box rfl _ _ (w.heap.size + 1) 30 _ _ rfl (HF.out.res.set7d _ _ _ _ _ _ _) rfl Tryz.underlying30 Tryz.size30) rfl ?_
            refine ⟨⟨_, _, Tree.leaf _ _ _ _ _ _ _ _, fun _ => ⟨by rw [← HKL.out, ← HCL.out]; exact HP.out trivial, .inr (.inr (.inr (.inr (.inr (.inr (.inr (.inl rfl)))))))⟩, rfl⟩, HF.out.below.trans ((kept_set7d _ _ _ _ _ _ _ _ _).below (fun k e => by omega) (by have := HF.out.size; omega))⟩
        · have hd : decide (i < 2147483648) = false := by simp; omega
          go_region
          go_wp2_with fail
          refine bodyPost_ret (results_box rfl _ _ (w.heap.size + 1) 30 _ _ rfl (HF.out.res.set7d _ _ _ _ _ _ _) rfl Tryz.underlying30 Tryz.size30) rfl ?_
          refine ⟨⟨_, _, Tree.leaf _ _ _ _ _ _ _ _, fun _ => ⟨by rw [← HKL.out, ← HCL.out]; exact HP.out trivial, .inr (.inr (.inr (.inr (.inr (.inr (.inr (.inl rfl)))))))⟩, rfl⟩, HF.out.below.trans ((kept_set7d _ _ _ _ _ _ _ _ _).below (fun k e => by omega) (by have := HF.out.size; omega))⟩
      · have hd : decide (0 < i) = false := by simp; omega
        go_region
        go_wp2_with fail
        refine bodyPost_ret (results_box rfl _ _ (w.heap.size + 1) 30 _ _ rfl (HF.out.res.set7d _ _ _ _ _ _ _) rfl Tryz.underlying30 Tryz.size30) rfl ?_
        refine ⟨⟨_, _, Tree.leaf _ _ _ _ _ _ _ _, fun _ => ⟨by rw [← HKL.out, ← HCL.out]; exact HP.out trivial, .inr (.inr (.inr (.inr (.inr (.inr (.inr (.inl rfl)))))))⟩, rfl⟩, HF.out.below.trans ((kept_set7d _ _ _ _ _ _ _ _ _).below (fun k e => by omega) (by have := HF.out.size; omega))⟩
    by_cases k4 : k = 4
    · subst k4
      go_wp2_with fail
      refine (literalBytes_any t _ ht).mono ?_
      rintro e w3 ⟨⟨t', y, ht', rfl⟩, hb3⟩
      have hs3 := hb3.size
      have HF := Lib.hid (HF.out.below' hb3)
      clear hb3
      go_wp2_with (((with_reducible show wpList _ _ _ (⟨_, .store 30 (.tmp 2) _, _, _, _, _⟩ :: _) _ _); refine wpx_store (w.heap.size + 1) _ 30 HF.out.res 30 _ _ _ rfl rfl rfl rfl rfl Tryz.size30 rfl (by simp [Value.oneCell']) ?_; intro w2 hb2 hk2 hs2))
      refine bodyPost_ret (results_box rfl _ _ (w.heap.size + 1) 30 _ _ rfl hb2 rfl Tryz.underlying30 Tryz.size30) rfl ?_
      refine ⟨⟨_, _, Tree.leaf _ _ _ _ _ _ _ _, fun _ => ⟨by rw [← HKL.out, ← HCL.out]; exact HP.out trivial, .inr (.inr (.inr (.inr (.inl rfl))))⟩, rfl⟩, HF.out.below.trans (hk2.below (fun k e => by omega) (by have := HF.out.size; omega))⟩
    by_cases k5 : k = 5
    · subst k5
      go_wp2_with fail
      refine (hexBytes_any t _ ht).mono ?_
      rintro e w3 ⟨⟨t', y, ht', rfl⟩, hb3⟩
      have hs3 := hb3.size
      have HF := Lib.hid (HF.out.below' hb3)
      clear hb3
      go_wp2_with (((with_reducible show wpList _ _ _ (⟨_, .store 30 (.tmp 2) _, _, _, _, _⟩ :: _) _ _); refine wpx_store (w.heap.size + 1) _ 30 HF.out.res 30 _ _ _ rfl rfl rfl rfl rfl Tryz.size30 rfl (by simp [Value.oneCell']) ?_; intro w2 hb2 hk2 hs2))
      refine bodyPost_ret (results_box rfl _ _ (w.heap.size + 1) 30 _ _ rfl hb2 rfl Tryz.underlying30 Tryz.size30) rfl ?_
      refine ⟨⟨_, _, Tree.leaf _ _ _ _ _ _ _ _, fun _ => ⟨by rw [← HKL.out, ← HCL.out]; exact HP.out trivial, .inr (.inr (.inr (.inr (.inr (.inl rfl)))))⟩, rfl⟩, HF.out.below.trans (hk2.below (fun k e => by omega) (by have := HF.out.size; omega))⟩
    by_cases k6 : k = 6
    · subst k6
      go_wp2_with fail
      go_region_with (go_at_call 43; refine (nameable_any t _ ?_).mono ?_; omega; rintro e w3 ⟨rfl, rfl⟩)
      all_goals
        go_wp2_with fail
        refine bodyPost_ret (results_box rfl _ _ (w.heap.size + 1) 30 _ _ rfl (HF.out.res.set7d _ _ _ _ _ _ _) rfl Tryz.underlying30 Tryz.size30) rfl ?_
        refine ⟨⟨_, _, Tree.leaf _ _ _ _ _ _ _ _, fun _ => ⟨by rw [← HKL.out, ← HCL.out]; exact HP.out trivial, .inr (.inr (.inr (.inr (.inr (.inr (.inl rfl))))))⟩, rfl⟩, HF.out.below.trans ((kept_set7d _ _ _ _ _ _ _ _ _).below (fun k e => by omega) (by have := HF.out.size; omega))⟩
    by_cases k7 : k = 7
    · subst k7
      go_wp2_with ((with_reducible show wpList _ _ _ (⟨_, .load 26 (.tmp 1), _, _, _, _⟩ :: _) _ _); refine wpx_load w.heap.size _ 26 HF.out.obj 26 _ _ rfl rfl rfl rfl Tryz.underlying26 Tryz.size26 ?_)
      refine (fromKids_all n IH.out 6 7 i g r t none ka ca 0 0 kl kc cl cc os S b off _ HCL.out HL.out HCA.out (fun j hj => ?_) (fun k hk => ?_) (HG.out.below HF.out.below)).mono ?_
      · obtain ⟨u, hu, hru⟩ := HK.out j hj
        have hS' := HS.out
        exact ⟨u, hu.below HF.out.below (hS' _ (HCA.out (by omega)).2), hru.below HF.out.below hS'⟩
      · have := HS.out k hk
        have := HF.out.size
        omega
      rintro e w3 ⟨⟨u, y, hu, hy, rfl⟩, hb3⟩
      obtain ⟨k', i', g', r', t', ka', ca', kl', kc', cl', cc', rfl⟩ := hu.form
      have hs3 := hb3.size
      have HF3 := Lib.hid (HF.out.below' hb3)
      have HU := Lib.hid hu
      have HY := Lib.hid hy
      clear hb3 hu hy
      go_wp2_with ((with_reducible show wpList _ _ _ (⟨_, .store 30 (.tmp 2) _, _, _, _, _⟩ :: _) _ _); refine wpx_store (w.heap.size + 1) _ 30 HF3.out.res 30 _ _ _ rfl rfl rfl rfl rfl Tryz.size30 rfl (by simp [Value.oneCell']) ?_; intro w2 hb2 hk2 hs2)
      refine bodyPost_ret (results_box rfl _ _ (w.heap.size + 1) 30 _ _ rfl hb2 rfl Tryz.underlying30 Tryz.size30) rfl ?_
      refine ⟨⟨_, _, HU.out.same fun k hk => ⟨hk2.block k hk.2 (by have := HF.out.size; omega), by have := HF.out.size; omega, by omega⟩, fun h => ⟨by rw [← HKL.out, ← HCL.out]; exact HP.out trivial, .inr (.inr (.inr (.inr (.inr (.inr (.inr (.inr (.inl ⟨rfl, HY.out h⟩))))))))⟩, rfl⟩, HF3.out.below.trans (hk2.below (fun k e => by omega) (by have := HF3.out.size; omega))⟩
    by_cases k8 : k = 8
    · subst k8
      by_cases hlen : kl = cl
      · subst hlen
        obtain ⟨hkl16, kb, ko, hka, hkk⟩ := HSR.out
        have HKA := Lib.hid hka
        have HKK := Lib.hid hkk
        have hkl' : kl * 16 ≤ 140737488355328 := by rw [HKL.out]; exact hkl16
        clear hkl16 hka hkk
        go_wp2_with fail
        go_loopw [128] (fun i wr => ∃ m : Nat, m ≤ kl ∧ i = .int .i64 m ∧ wr = w1 ∧ KeysTo ks m) (fun i _ => kl - (intOf i).toNat)
        case atStart => exact ⟨0, by omega, rfl, rfl, fun j h hj => by omega, fun j h hj => by omega⟩
        case round =>
          obtain ⟨m, hm, rfl, rfl, hkt⟩ := hrel
          have HKT := Lib.hid hkt
          clear hkt
          by_cases hlt : m < kl
          · obtain ⟨rfl, hSk⟩ := HKA.out (by rw [← HKL.out]; omega)
            have hml : m < ks.length := by rw [← HKL.out]; exact hlt
            obtain ⟨sm, hsm⟩ : ∃ x, x = ks[m] := ⟨_, rfl⟩
            obtain ⟨hcm, hsz⟩ := HKK.out m hml
            rw [← hsm] at hcm hsz
            have hcm' := (HF.out.below.cell (p := ⟨kb, ko + m, none⟩) (HS.out _ hSk)).trans hcm
            have HSM := Lib.hid hsm
            clear hcm hsm
            rcases Bool.eq_false_or_eq_true (noByte 0 sm.data.toList) with n0 | n0
            · rcases Bool.eq_false_or_eq_true (noByte 35 sm.data.toList) with s0 | s0
              · cases m with
                | zero =>
                  simp only [Nat.add_zero] at hcm'
                  go_wp2_with (first | (go_at_call 43; refine (nameable_any _ _ (by omega)).mono ?_; rintro e w3 ⟨rfl, rfl⟩) | (go_at_call 45; refine (signed_any _ _ (by omega)).mono ?_; rintro e w3 ⟨rfl, rfl⟩) | (with_reducible show wpList _ _ _ (⟨_, .store 30 (.tmp 2) _, _, _, _, _⟩ :: _) _ _); refine wpx_store (w.heap.size + 1) _ 30 HF.out.res 30 _ _ _ rfl rfl rfl rfl rfl Tryz.size30 rfl (by simp [Value.oneCell']) ?_; intro w2 hb2 hk2 hs2)
                  go_roundw
                  case rel => exact ⟨1, by omega, by first | rfl | trivial, by first | rfl | trivial, HKT.out.snoc hml (by rw [← HSM.out]; exact n0) (by rw [← HSM.out]; exact s0) (fun _ h => by omega)⟩
                  case measure => simp [intOf]; omega
                | succ m =>
                  obtain ⟨sp, hsp⟩ : ∃ x, x = ks[m] := ⟨_, rfl⟩
                  obtain ⟨hcp, hpz⟩ := HKK.out m (by omega)
                  rw [← hsp] at hcp hpz
                  have hcp' := (HF.out.below.cell (p := ⟨kb, ko + m, none⟩) (HS.out _ hSk)).trans hcp
                  have HSP := Lib.hid hsp
                  clear hcp hsp
                  rcases Bool.eq_false_or_eq_true (Op.bytesLess sp.toList sm.toList) with o0 | o0
                  · go_wp2_with (first | (go_at_call 43; refine (nameable_any _ _ (by omega)).mono ?_; rintro e w3 ⟨rfl, rfl⟩) | (go_at_call 45; refine (signed_any _ _ (by omega)).mono ?_; rintro e w3 ⟨rfl, rfl⟩) | (with_reducible show wpList _ _ _ (⟨_, .store 30 (.tmp 2) _, _, _, _, _⟩ :: _) _ _); refine wpx_store (w.heap.size + 1) _ 30 HF.out.res 30 _ _ _ rfl rfl rfl rfl rfl Tryz.size30 rfl (by simp [Value.oneCell']) ?_; intro w2 hb2 hk2 hs2)
                    go_roundw
                    case rel => exact ⟨m + 2, by omega, by go_num, by first | rfl | trivial, HKT.out.snoc hml (by rw [← HSM.out]; exact n0) (by rw [← HSM.out]; exact s0) (fun m' e => by have e' : m' = m := (by omega); subst e'; rw [← HSM.out, ← HSP.out]; exact o0)⟩
                    case measure => simp [intOf]; omega
                  · go_wp2_with (first | (go_at_call 43; refine (nameable_any _ _ (by omega)).mono ?_; rintro e w3 ⟨rfl, rfl⟩) | (go_at_call 45; refine (signed_any _ _ (by omega)).mono ?_; rintro e w3 ⟨rfl, rfl⟩) | (with_reducible show wpList _ _ _ (⟨_, .store 30 (.tmp 2) _, _, _, _, _⟩ :: _) _ _); refine wpx_store (w.heap.size + 1) _ 30 HF.out.res 30 _ _ _ rfl rfl rfl rfl rfl Tryz.size30 rfl (by simp [Value.oneCell']) ?_; intro w2 hb2 hk2 hs2)
                    refine bodyPost_ret (results_box rfl _ _ (w.heap.size + 1) 30 _ _ rfl hb2 rfl Tryz.underlying30 Tryz.size30) rfl ?_
                    refine ⟨⟨_, _, Tree.leaf _ _ _ _ _ _ _ _, by simp, rfl⟩, HF.out.below.trans (hk2.below (fun k e => by omega) (by have := HF.out.size; omega))⟩
              · go_wp2_with (first | (go_at_call 43; refine (nameable_any _ _ (by omega)).mono ?_; rintro e w3 ⟨rfl, rfl⟩) | (go_at_call 45; refine (signed_any _ _ (by omega)).mono ?_; rintro e w3 ⟨rfl, rfl⟩) | (with_reducible show wpList _ _ _ (⟨_, .store 30 (.tmp 2) _, _, _, _, _⟩ :: _) _ _); refine wpx_store (w.heap.size + 1) _ 30 HF.out.res 30 _ _ _ rfl rfl rfl rfl rfl Tryz.size30 rfl (by simp [Value.oneCell']) ?_; intro w2 hb2 hk2 hs2)
                refine bodyPost_ret (results_box rfl _ _ (w.heap.size + 1) 30 _ _ rfl hb2 rfl Tryz.underlying30 Tryz.size30) rfl ?_
                refine ⟨⟨_, _, Tree.leaf _ _ _ _ _ _ _ _, by simp, rfl⟩, HF.out.below.trans (hk2.below (fun k e => by omega) (by have := HF.out.size; omega))⟩
            · go_wp2_with (first | (go_at_call 43; refine (nameable_any _ _ (by omega)).mono ?_; rintro e w3 ⟨rfl, rfl⟩) | (go_at_call 45; refine (signed_any _ _ (by omega)).mono ?_; rintro e w3 ⟨rfl, rfl⟩) | (with_reducible show wpList _ _ _ (⟨_, .store 30 (.tmp 2) _, _, _, _, _⟩ :: _) _ _); refine wpx_store (w.heap.size + 1) _ 30 HF.out.res 30 _ _ _ rfl rfl rfl rfl rfl Tryz.size30 rfl (by simp [Value.oneCell']) ?_; intro w2 hb2 hk2 hs2)
              refine bodyPost_ret (results_box rfl _ _ (w.heap.size + 1) 30 _ _ rfl hb2 rfl Tryz.underlying30 Tryz.size30) rfl ?_
              refine ⟨⟨_, _, Tree.leaf _ _ _ _ _ _ _ _, by simp, rfl⟩, HF.out.below.trans (hk2.below (fun k e => by omega) (by have := HF.out.size; omega))⟩
          · have hmk : m = ks.length := by rw [← HKL.out]; omega
            have hok := HKT.out.all hmk
            go_wp2_with ((with_reducible show wpList _ _ _ (⟨_, .load 26 (.tmp 1), _, _, _, _⟩ :: _) _ _); refine wpx_load w.heap.size _ 26 HF.out.obj 26 _ _ rfl rfl rfl rfl Tryz.underlying26 Tryz.size26 ?_)
            refine (fromKids_all n IH.out 7 8 i g r t ka ka ca kl kc kl kc kl cc os S b off _ HCL.out HL.out HCA.out (fun j hj => ?_) (fun k hk => ?_) (HG.out.below HF.out.below)).mono ?_
            · obtain ⟨u, hu, hru⟩ := HK.out j hj
              have hS' := HS.out
              exact ⟨u, hu.below HF.out.below (hS' _ (HCA.out (by omega)).2), hru.below HF.out.below hS'⟩
            · have := HS.out k hk
              have := HF.out.size
              omega
            rintro e w3 ⟨⟨u, y, hu, hy, rfl⟩, hb3⟩
            obtain ⟨k', i', g', r', t', ka', ca', kl', kc', cl', cc', rfl⟩ := hu.form
            have hs3 := hb3.size
            have HF3 := Lib.hid (HF.out.below' hb3)
            have HU := Lib.hid hu
            have HY := Lib.hid hy
            clear hb3 hu hy
            go_wp2_with ((with_reducible show wpList _ _ _ (⟨_, .store 30 (.tmp 2) _, _, _, _, _⟩ :: _) _ _); refine wpx_store (w.heap.size + 1) _ 30 HF3.out.res 30 _ _ _ rfl rfl rfl rfl rfl Tryz.size30 rfl (by simp [Value.oneCell']) ?_; intro w2 hb2 hk2 hs2)
            refine bodyPost_ret (results_box rfl _ _ (w.heap.size + 1) 30 _ _ rfl hb2 rfl Tryz.underlying30 Tryz.size30) rfl ?_
            refine ⟨⟨_, _, HU.out.same fun k hk => ⟨hk2.block k hk.2 (by have := HF.out.size; omega), by have := HF.out.size; omega, by omega⟩, fun h => ⟨by rw [← HKL.out, ← HCL.out]; exact HP.out trivial, .inr (.inr (.inr (.inr (.inr (.inr (.inr (.inr (.inr ⟨rfl, by rw [← HKL.out, ← HCL.out], hok, HY.out h⟩))))))))⟩, rfl⟩, HF3.out.below.trans (hk2.below (fun k e => by omega) (by have := HF3.out.size; omega))⟩
      · go_wp2_with ((with_reducible show wpList _ _ _ (⟨_, .store 30 (.tmp 2) _, _, _, _, _⟩ :: _) _ _); refine wpx_store (w.heap.size + 1) _ 30 HF.out.res 30 _ _ _ rfl rfl rfl rfl rfl Tryz.size30 rfl (by simp [Value.oneCell']) ?_; intro w2 hb2 hk2 hs2)
        refine bodyPost_ret (results_box rfl _ _ (w.heap.size + 1) 30 _ _ rfl hb2 rfl Tryz.underlying30 Tryz.size30) rfl ?_
        refine ⟨⟨_, _, Tree.leaf _ _ _ _ _ _ _ _, by simp, rfl⟩, HF.out.below.trans (hk2.below (fun k e => by omega) (by have := HF.out.size; omega))⟩
    have b0 : (k == 0) = false := by simpa using k0
    have b1 : (k == 1) = false := by simpa using k1
    have b2 : (k == 2) = false := by simpa using k2
    have b3 : (k == 3) = false := by simpa using k3
    have b4 : (k == 4) = false := by simpa using k4
    have b5 : (k == 5) = false := by simpa using k5
    have b6 : (k == 6) = false := by simpa using k6
    have b7 : (k == 7) = false := by simpa using k7
    have b8 : (k == 8) = false := by simpa using k8
    have b9 : (k == 9) = false := by simpa using k9
    go_wp2_with ((with_reducible show wpList _ _ _ (⟨_, .store 30 (.tmp 2) _, _, _, _, _⟩ :: _) _ _); refine wpx_store (w.heap.size + 1) _ 30 HF.out.res 30 _ _ _ rfl rfl rfl rfl rfl Tryz.size30 rfl (by simp [Value.oneCell']) ?_; intro w2 hb2 hk2 hs2)
    refine bodyPost_ret (results_box rfl _ _ (w.heap.size + 1) 30 _ _ rfl hb2 rfl Tryz.underlying30 Tryz.size30) rfl ?_
    refine ⟨⟨_, _, Tree.leaf _ _ _ _ _ _ _ _, by simp, rfl⟩, HF.out.below.trans (hk2.below (fun k e => by omega) (by have := HF.out.size; omega))⟩

theorem fromObject_any (htw : TwelveSaid) (n : Nat) : Said16 n := by
  induction n with
  | zero => intro v o S w h; exact h.elim
  | succ n ih => exact fromObject_step n htw ih

end Go.Proofs.YtcpijmbdibgdmaaGreatDoor

/-
  spec.FromObject and spec.NullFree.
-/
namespace Go.Proofs.YtcpijmbdibgdmaaGreatDoor
open Go Go.RowKit

theorem FObj.begin (w : World) (c0 c1 c2 c3 c4 c5 c6 : Value) (o : Obj) (z : Value) :
    FObj w (((w.alloc (.cells #[c0, c1, c2, c3, c4, c5, c6] 26)).alloc (.cells #[.int .i64 0, .int .i64 0, .int .i64 0, .float .f64 0, .string ⟨#[]⟩, .slice none 0 0, .slice none 0 0] 30)).alloc o) (.agg #[c0, c1, c2, c3, c4, c5, c6]) z := by
  refine ⟨(((Below.refl _ _).alloc (Nat.le_refl _) _).alloc (by simp) _).alloc (by simp; omega) _, by simp, ((Blk.new w _ 26).alloc _).alloc _, ?_⟩
  have := (Blk.new (w.alloc (.cells #[c0, c1, c2, c3, c4, c5, c6] 26)) #[.int .i64 0, .int .i64 0, .int .i64 0, .float .f64 0, .string ⟨#[]⟩, .slice none 0 0, .slice none 0 0] 30).alloc o
  simpa using this

theorem FObj.kept {w w1 w2 : World} {v z : Value} (h : FObj w w1 v z) (hk : Kept (· = w.heap.size + 1 + 1) w1 w2) : FObj w w2 v z := by
  have := h.size
  have := hk.size
  exact ⟨h.below.trans (hk.below (fun k e => by omega) (by omega)), by omega, h.obj.kept hk (by omega), h.res.kept hk (by omega)⟩

set_option maxRecDepth 100000 in
set_option maxHeartbeats 2000000 in
theorem fromObjectTop_any (htw : TwelveSaid) (n : Nat) (v : Value) (o : Ob) (S : Nat → Prop) (w : World) (h : Rep n w S v o) (hS : ∀ k, S k → k < w.heap.size) (hg : Gl w) :
    Calls Tryz.prog 6 #[v] w fun e w' => RetVal n w w' (Valid n o) e ∧ Below w.heap.size w w' := by
  cases n with
  | zero => exact h.elim
  | succ n =>
    obtain ⟨k, i, g, r, t, ka, ca, kl, kc, cl, cc, rfl⟩ := h.form
    have H := Lib.hid h
    have HS := Lib.hid hS
    have HG := Lib.hid hg
    have TW := Lib.hid htw
    clear h hS hg htw
    go_enter Tryz.func6, Tryz.ntmps6
    go_wp2_with fail
    have HF0 := Lib.hid (FObj.begin w (.int .i64 k) (.int .i64 i) (.int .i64 g) (.float .f64 r) (.string t) (.slice ka kl kc) (.slice ca cl cc) (.cells #[.int .i64 20000] 3) .nilIface)
    refine (fewIn_any (n + 1) _ o (w.heap.size + 1 + 1) 0 20000 S _ (H.out.below HF0.out.below HS.out) (fun k hk => by have := HS.out k hk; omega) (by simp) ?_ ?_).mono ?_
    · go_simp
    · go_simp
    rintro e w1 ⟨⟨x, rfl⟩, hk1, _⟩
    have HF := Lib.hid (HF0.out.kept hk1)
    have hs1 := HF.out.size
    clear hk1
    cases x
    · go_wp2_with (first | ((with_reducible show wpList _ _ _ (⟨_, .store 30 (.tmp 2) _, _, _, _, _⟩ :: _) _ _); refine wpx_store (w.heap.size + 1) _ 30 HF.out.res 30 _ _ _ rfl rfl rfl rfl rfl Tryz.size30 rfl (by simp [Value.oneCell']) ?_; intro w2 hb2 hk2 hs2))
      refine bodyPost_ret (results_box rfl _ _ (w.heap.size + 1) 30 _ _ rfl hb2 rfl Tryz.underlying30 Tryz.size30) rfl ?_
      exact ⟨⟨_, false, Tree.leaf _ _ _ _ _ _ _ _, by simp, rfl⟩, HF.out.below.trans (hk2.below (fun k e => by omega) (by have := HF.out.size; omega))⟩
    · go_wp2_with (first | ((with_reducible show wpList _ _ _ (⟨_, .load 26 (.tmp 1), _, _, _, _⟩ :: _) _ _); refine wpx_load w.heap.size _ 26 HF.out.obj 26 _ _ rfl rfl rfl rfl Tryz.underlying26 Tryz.size26 ?_))
      refine (fromObject_any TW.out (n + 1) _ o S _ (H.out.below HF.out.below HS.out) (fun k hk => by have := HS.out k hk; omega) (HG.out.below HF.out.below)).mono ?_
      rintro e w3 ⟨⟨u, y, hu, hy, rfl⟩, hb3⟩
      obtain ⟨k', i', g', r', t', ka', ca', kl', kc', cl', cc', rfl⟩ := hu.form
      have hs3 := hb3.size
      have HF3 := Lib.hid (HF.out.below' hb3)
      have HU := Lib.hid hu
      have HY := Lib.hid hy
      clear hb3 hu hy
      go_wp2_with ((with_reducible show wpList _ _ _ (⟨_, .store 30 (.tmp 2) _, _, _, _, _⟩ :: _) _ _); refine wpx_store (w.heap.size + 1) _ 30 HF3.out.res 30 _ _ _ rfl rfl rfl rfl rfl Tryz.size30 rfl (by simp [Value.oneCell']) ?_; intro w2 hb2 hk2 hs2)
      refine bodyPost_ret (results_box rfl _ _ (w.heap.size + 1) 30 _ _ rfl hb2 rfl Tryz.underlying30 Tryz.size30) rfl ?_
      refine ⟨⟨_, _, HU.out.same fun k hk => ⟨hk2.block k hk.2 (by have := HF.out.size; omega), by have := HF.out.size; omega, by omega⟩, fun h => HY.out h, rfl⟩, HF3.out.below.trans (hk2.below (fun k e => by omega) (by have := HF3.out.size; omega))⟩

set_option maxRecDepth 100000 in
set_option maxHeartbeats 2000000 in
theorem nullFree_any (htw : TwelveSaid) (n : Nat) : ∀ (v : Value) (o : Ob) (S : Nat → Prop) (w : World), Rep n w S v o → (∀ k, S k → k < w.heap.size) → Gl w →
    Calls Tryz.prog 10 #[v] w fun e w' => RetIf (Valid n o) e ∧ Below w.heap.size w w' := by
  induction n with
  | zero => intro v o S w h; exact h.elim
  | succ n ih =>
    intro v o S w h hS hg
    have h' := h
    have HS := Lib.hid hS
    have HG := Lib.hid hg
    have TW := Lib.hid htw
    have IH := Lib.hid ih
    obtain ⟨k, i, g, r, t, ks, os⟩ := o
    obtain ⟨ka, ca, kc, cc, rfl, ht, hr, hs, hl, b, off, hca, hk⟩ := h
    obtain ⟨hkl16, kb, ko, hka, hkk⟩ := hs
    obtain ⟨kl, hkl⟩ : ∃ l, l = ks.length := ⟨_, rfl⟩
    obtain ⟨cl, hcl⟩ : ∃ l, l = os.length := ⟨_, rfl⟩
    rw [← hkl, ← hcl] at h' ⊢
    rw [← hkl] at hkl16
    rw [← hcl] at hl
    have H := Lib.hid h'
    clear h'
    have HKL := Lib.hid hkl
    have HCL := Lib.hid hcl
    have HKA := Lib.hid hka
    have HKK := Lib.hid hkk
    have HCA := Lib.hid hca
    have HK := Lib.hid hk
    clear hS hg htw ih hkl hcl hka hkk hca hk
    have hsf := @store_float Tryz.prog
    go_enter Tryz.func10, Tryz.ntmps10
    rcases Bool.eq_false_or_eq_true (k == 0) with hk0 | hk0
    · go_wp2_with fail
      go_ret
      exact ⟨RetIf.mk _ (by simp), (Below.refl _ _).alloc (Nat.le_refl _) _⟩
    · go_wp2_with fail
      go_loopw [15] (fun i' wr => ∃ m : Nat, m ≤ kl ∧ i' = .int .i64 m ∧ wr = w.alloc (.cells #[.int .i64 k, .int .i64 i, .int .i64 g, .float .f64 r, .string t, .slice ka kl kc, .slice ca cl cc] 26)) (fun i _ => kl - (intOf i).toNat)
      case atStart => exact ⟨0, by omega, rfl, rfl⟩
      case round =>
        obtain ⟨m, hm, rfl, rfl⟩ := hrel
        by_cases hlt : m < kl
        · obtain ⟨rfl, hSk⟩ := HKA.out (by rw [← HKL.out]; omega)
          have hml : m < ks.length := by rw [← HKL.out]; exact hlt
          obtain ⟨hcm, hsz⟩ := HKK.out m hml
          have hcm' := (((Below.refl w.heap.size w).alloc (Nat.le_refl _) (.cells #[.int .i64 k, .int .i64 i, .int .i64 g, .float .f64 r, .string t, .slice (some ⟨kb, ko, none⟩) kl kc, .slice ca cl cc] 26)).cell (p := ⟨kb, ko + m, none⟩) (HS.out _ hSk)).trans hcm
          clear hcm
          go_wp2_with fail
          refine (simple_any _ _ hsz).mono ?_
          rintro e w3 ⟨⟨x, rfl⟩, rfl⟩
          cases x
          · go_wp2_with fail
            go_ret
            exact ⟨RetIf.mk _ (by simp), (Below.refl _ _).alloc (Nat.le_refl _) _⟩
          · go_wp2_with fail
            go_roundw
            case rel => exact ⟨m + 1, by omega, by go_num, by first | rfl | trivial⟩
            case measure => simp [intOf]; omega
        · go_wp2_with fail
          go_loopw [26] (fun i' wr => ∃ m : Nat, m ≤ cl ∧ i' = .int .i64 m ∧ Below w.heap.size w wr ∧ w.heap.size + 1 ≤ wr.heap.size ∧ Blk wr w.heap.size #[.int .i64 k, .int .i64 i, .int .i64 g, .float .f64 r, .string t, .slice ka kl kc, .slice ca cl cc] 26) (fun i _ => cl - (intOf i).toNat)
          case atStart => exact ⟨0, by omega, rfl, (Below.refl _ _).alloc (Nat.le_refl _) _, by simp, Blk.new _ _ _⟩
          case round =>
            obtain ⟨m', hm', rfl, hbw, hsw, hbk⟩ := hrel
            have HBW := Lib.hid hbw
            have HBK := Lib.hid hbk
            clear hbw hbk
            by_cases hlt' : m' < cl
            · obtain ⟨rfl, hSb⟩ := HCA.out (by rw [← HCL.out]; omega)
              obtain ⟨u, hu, htr⟩ := HK.out m' (by rw [← HCL.out]; omega)
              obtain ⟨k1, i1, g1, r1, t1, ka1, ca1, kl1, kc1, cl1, cc1, rfl⟩ := htr.form
              obtain ⟨h0, h1, h2, h3, h4, h5, h6⟩ := (hu.below HBW.out (HS.out _ hSb)).cells
              have HT := Lib.hid (htr.below HBW.out HS.out)
              clear hu htr
              go_wp2_with fail
              refine (IH.out _ _ S _ (HT.out.below ((Below.refl wr.heap.size wr).alloc (Nat.le_refl _) _) (fun k hk => by have := HS.out k hk; omega)) (fun k hk => by have := HS.out k hk; simp; omega) (HG.out.below (HBW.out.alloc (by omega) _))).mono ?_
              rintro e w1 ⟨⟨y, rfl, hy⟩, hb1⟩
              have hs1 := hb1.size
              simp at hs1
              have HB1 := Lib.hid ((HBW.out.alloc (by omega) _).trans (hb1.mono (by simp; omega)))
              have HBK1 := Lib.hid ((HBK.out.alloc _).below hb1 (by simp; omega))
              clear hb1 hy
              cases y
              · go_wp2_with fail
                go_ret
                exact ⟨RetIf.mk _ (by simp), HB1.out⟩
              · go_wp2_with fail
                go_roundw
                case rel => exact ⟨m' + 1, by omega, by go_num, HB1.out, by omega, HBK1.out⟩
                case measure => simp [intOf]; omega
            · go_wp2_with (first | ((with_reducible show wpList _ _ _ (⟨_, .load 26 (.tmp 1), _, _, _, _⟩ :: _) _ _); refine wpx_load w.heap.size _ 26 HBK.out 26 _ _ rfl rfl rfl rfl Tryz.underlying26 Tryz.size26 ?_))
              refine (fromObjectTop_any TW.out (n + 1) _ _ S _ (H.out.below HBW.out HS.out) (fun k hk => by have := HS.out k hk; omega) (HG.out.below HBW.out)).mono ?_
              rintro e w3 ⟨⟨u, y, hu, hy, rfl⟩, hb3⟩
              obtain ⟨k', i', g', r', t', ka', ca', kl', kc', cl', cc', rfl⟩ := hu.form
              have HY := Lib.hid hy
              have HB3 := Lib.hid (HBW.out.trans (hb3.mono (by omega)))
              have hs3 := hb3.size
              clear hu hy hb3
              go_wp2_with fail
              go_ret
              exact ⟨RetIf.mk _ HY.out, HB3.out.alloc (by omega) _⟩

end Go.Proofs.YtcpijmbdibgdmaaGreatDoor
