/-
  Contracts of spec.fewIn, laws.zzFits1.
-/
import Derived.Test.YtcpijmbdibgdmaaGreatDoorK2
import Derived.Deep.DeepCutAuto
import Derived.RegionTactic
import Derived.BigRegion
import Derived.StillTailTactics
namespace Go.Proofs.YtcpijmbdibgdmaaGreatDoor
open Go Go.RowKit

set_option maxRecDepth 100000 in
theorem fits1_any (n : Nat) (v : Value) (o : Ob) (S : Nat → Prop) (w : World) (h : Rep n w S v o) (hS : ∀ k, S k → k < w.heap.size) :
    Calls Tryz.prog 5 #[v] w fun e w' => RetBool e ∧ Below w.heap.size w w' := by
  cases n with
  | zero => exact h.elim
  | succ n =>
    obtain ⟨k, i, g, r, t, ks, os⟩ := o
    obtain ⟨ka, ca, kc, cc, rfl, ht, hr, hs, hl, _⟩ := h
    have HS := Lib.hid hS
    have Hs := Lib.hid hs
    clear hS hs
    go_enter Tryz.func5, Tryz.ntmps5
    go_wp2_with (go_at_call 14; refine (fits2_any _ _ _ S _ (Hs.out.below ((Below.refl w.heap.size w).alloc (Nat.le_refl _) _) HS.out)).mono ?_; rintro e w1 ⟨⟨q, rfl⟩, rfl⟩)
    all_goals go_ret
    all_goals exact ⟨RetBool.mk _, (Below.refl _ _).alloc (Nat.le_refl _) _⟩

/-- A cell holds some int, and may be written. -/
def HasInt (w : World) (b o : Nat) : Prop := ∃ L : Int, w.cell? ⟨b, o, none⟩ = some (.int .i64 L) ∧ w.frozen? ⟨b, o, none⟩ = false

theorem HasInt.setCell {w : World} {b o : Nat} (h : HasInt w b o) (L : Int) : HasInt (w.setCell ⟨b, o, none⟩ (.int .i64 L)) b o := by
  obtain ⟨L0, hc, hf⟩ := h
  exact ⟨L, World.cell?_setCell_same _ _ _ hc, by rw [World.frozen?_setCell]; exact hf⟩
theorem HasInt.alloc {w : World} {b o : Nat} (h : HasInt w b o) (x : Obj) : HasInt (w.alloc x) b o := by
  obtain ⟨L0, hc, hf⟩ := h
  have hb : b < w.heap.size := World.block_lt_of_cell? _ _ hc
  exact ⟨L0, by rw [World.cell?_alloc_lt _ _ _ hb]; exact hc, by rw [World.frozen?_alloc_old _ _ _ (by show b ≠ _; omega)]; exact hf⟩
theorem HasInt.drew {w : World} {b o : Nat} (h : HasInt w b o) : HasInt w.drew b o := h

set_option maxRecDepth 100000 in
set_option maxHeartbeats 1000000 in
theorem fewIn_any (n : Nat) : ∀ (v : Value) (o : Ob) (lb lo : Nat) (L : Int) (S : Nat → Prop) (w : World), Rep n w S v o → (∀ k, S k → k < lb) → lb < w.heap.size → w.cell? ⟨lb, lo, none⟩ = some (.int .i64 L) → w.frozen? ⟨lb, lo, none⟩ = false →
    Calls Tryz.prog 15 #[v, .pointer (some ⟨lb, lo, none⟩)] w fun e w' => RetBool e ∧ Kept (· = lb) w w' ∧ HasInt w' lb lo := by
  induction n with
  | zero => intro v o lb lo L S w h; exact h.elim
  | succ n ih =>
    intro v o lb lo L S w h hS hlw hc hf
    have IH := Lib.hid ih
    clear ih
    obtain ⟨k, i, g, r, t, ks, os⟩ := o
    obtain ⟨ka, ca, kc, cc, rfl, ht, hr, hs, hl, b, off, hca, hk⟩ := h
    obtain ⟨hsl, sb, so, hsa, hsk⟩ := hs
    have HSA := Lib.hid hsa
    have HSK := Lib.hid hsk
    have HCA := Lib.hid hca
    have HK := Lib.hid hk
    have HS := Lib.hid hS
    clear hsa hsk hca hk hS
    obtain ⟨kl, hkl⟩ : ∃ l, l = ks.length := ⟨_, rfl⟩
    obtain ⟨cl, hcl⟩ : ∃ l, l = os.length := ⟨_, rfl⟩
    rw [← hkl] at hsl ⊢
    rw [← hcl] at hl ⊢
    have HKL := Lib.hid hkl
    have HCL := Lib.hid hcl
    clear hkl hcl
    go_enter Tryz.func15, Tryz.ntmps15
    go_wp2_with fail
    go_region
    go_wp2_with fail
    go_loopw [6, 21] (fun _ i wr => ∃ (j : Nat), j ≤ kl ∧ i = .int .i64 j ∧ Kept (· = lb) w wr ∧ HasInt wr lb lo ∧ wr.heap.size > w.heap.size ∧ wr.cell? ⟨w.heap.size, 6, none⟩ = some (.slice ca cl cc)) (fun _ i _ => kl - (intOf i).toNat)
    case atStart =>
      refine ⟨0, by omega, rfl, (((Kept.refl (· = lb) w).setCell ⟨lb, lo, none⟩ _ (fun _ => rfl)).alloc _).drew, ((HasInt.setCell ⟨L, hc, hf⟩ _).alloc _).drew, by simp, ?_⟩
      go_simp
    case round =>
      obtain ⟨j, hj, rfl, hkp, ⟨L1, hc1, hf1⟩, hgt, h6⟩ := hrel
      by_cases hlt : j < kl
      · obtain ⟨rfl, hbB⟩ := HSA.out (by rw [← HKL.out]; omega)
        obtain ⟨hcs, hsz⟩ := HSK.out j (by rw [← HKL.out]; omega)
        have hcs' := (hkp.cell (p := ⟨sb, so + j, none⟩) (by have := HS.out sb hbB; show sb < _; omega) (by have := HS.out sb hbB; show ¬ sb = lb; omega)).trans hcs
        clear hcs
        go_wp2_with fail
        go_roundw
        case rel =>
          refine ⟨j + 1, by omega, by go_num, hkp.trans ((Kept.refl (· = lb) wr).setCell ⟨lb, lo, none⟩ _ (fun _ => rfl)) (fun _ _ h => h), HasInt.setCell ⟨L1, hc1, hf1⟩ _, by simp; omega, ?_⟩
          rw [World.cell?_setCell_other _ _ _ _ (by intro h; injection h with h1; omega)]; exact h6
        case measure => simp [intOf]; omega
      · have hneg : ¬ L1 < 0 ∨ L1 < 0 := by omega
        rcases hneg with hL | hL
        · go_wp2_with fail
          go_loopw [7] (fun i wr => ∃ (j : Nat), j ≤ cl ∧ i = .int .i64 j ∧ Kept (· = lb) w wr ∧ HasInt wr lb lo ∧ wr.heap.size > w.heap.size ∧ wr.cell? ⟨w.heap.size, 6, none⟩ = some (.slice ca cl cc)) (fun i _ => cl - (intOf i).toNat)
          case atStart => exact ⟨0, by omega, rfl, hkp, ⟨L1, hc1, hf1⟩, hgt, h6⟩
          case round =>
            clear hkp hc1 hf1 hgt h6 hL
            obtain ⟨j, hj, rfl, hkp, hint, hgt, h6⟩ := hrel
            by_cases hlt : j < cl
            · obtain ⟨rfl, hbB⟩ := HCA.out (by rw [← HCL.out]; omega)
              obtain ⟨u, hu, ht⟩ := HK.out j (by rw [← HCL.out]; omega)
              obtain ⟨k1, i1, g1, r1, t1, ka1, ca1, kl1, kc1, cl1, cc1, rfl⟩ := ht.form
              have hbl : Below lb w wr := hkp.below (fun k h => by omega) (by omega)
              obtain ⟨h0, h1, h2, h3, h4, h5, h6'⟩ := (hu.below hbl (HS.out _ hbB)).cells
              have Ht := Lib.hid (ht.below hbl HS.out)
              have HINT := Lib.hid hint
              clear hu ht
              go_wp2_with fail
              obtain ⟨L2, hc2, hf2⟩ := HINT.out
              refine (IH.out _ _ lb lo L2 S _ Ht.out HS.out (by omega) hc2 hf2).mono ?_
              rintro e w1 ⟨⟨q, rfl⟩, hk1, hint1⟩
              have h6n := (hk1.cell (p := ⟨w.heap.size, 6, none⟩) hgt (by show ¬ w.heap.size = lb; omega)).trans h6
              have hs1 := hk1.size
              have HINT1 := Lib.hid hint1
              have HK1 := Lib.hid hk1
              clear hint1 hk1 hc2 hf2
              cases q
              · go_wp2_with fail
                go_ret
                exact ⟨RetBool.mk _, hkp.trans HK1.out (fun _ _ h => h), HINT1.out⟩
              · go_wp2_with fail
                go_roundw
                case rel => exact ⟨j + 1, by omega, by go_num, hkp.trans HK1.out (fun _ _ h => h), HINT1.out, by omega, h6n⟩
                case measure => simp [intOf]; omega
            · go_wp2_with fail
              go_ret
              exact ⟨RetBool.mk _, hkp, hint⟩
        · go_wp2_with fail
          go_ret
          exact ⟨RetBool.mk _, hkp, ⟨L1, hc1, hf1⟩⟩
end Go.Proofs.YtcpijmbdibgdmaaGreatDoor
