/-
  Contracts of the reader of package spec: escape, fail, literal, hex, LiteralBytes, HexBytes: they return, whatever the text.
-/
import Derived.Test.YtcpijmbdibgdmaaGreatDoorK2
import Derived.Deep.DeepCutAuto
import Derived.Deep.QuietTactic
import Derived.BigQuiet
import Derived.RegionTactic
namespace Go.Proofs.YtcpijmbdibgdmaaGreatDoor
open Go Go.RowKit

/-- A reader lies in block `b`, over the text `s`, at place `k`. -/
def Rdr (w : World) (b : Nat) (s : ByteArray) (k : Nat) : Prop :=
  k ≤ s.size ∧ w.cell? ⟨b, 0, none⟩ = some (.string s) ∧ w.cell? ⟨b, 1, none⟩ = some (.int .i64 k) ∧
    (∃ bad : Int, w.cell? ⟨b, 2, none⟩ = some (.int .i64 bad)) ∧ (∃ odd : Bool, w.cell? ⟨b, 4, none⟩ = some (.bool odd)) ∧ (∃ ends : Bool, w.cell? ⟨b, 5, none⟩ = some (.bool ends)) ∧
    w.frozen? ⟨b, 1, none⟩ = false ∧ w.frozen? ⟨b, 2, none⟩ = false ∧ w.frozen? ⟨b, 4, none⟩ = false ∧ w.frozen? ⟨b, 5, none⟩ = false

theorem Rdr.drew {w : World} {b : Nat} {s : ByteArray} {k : Nat} (h : Rdr w b s k) : Rdr w.drew b s k := h
theorem Rdr.drewN {w : World} {b : Nat} {s : ByteArray} {k : Nat} (h : Rdr w b s k) (n : Nat) : Rdr (w.drewN n) b s k := h

theorem Rdr.lt {w : World} {b : Nat} {s : ByteArray} {k : Nat} (h : Rdr w b s k) : b < w.heap.size := World.block_lt_of_cell? _ _ h.2.1

theorem Rdr.of_block {w w' : World} {b : Nat} {s : ByteArray} {k : Nat} (h : Rdr w b s k) (hb : w'.heap[b]? = w.heap[b]?) : Rdr w' b s k := by
  have hc : ∀ o, w'.cell? ⟨b, o, none⟩ = w.cell? ⟨b, o, none⟩ := fun o => World.cell?_of_block (w := w) (a := ⟨b, o, none⟩) hb
  have hf : ∀ o, w'.frozen? ⟨b, o, none⟩ = w.frozen? ⟨b, o, none⟩ := fun o => World.frozen?_of_block (w := w) (a := ⟨b, o, none⟩) hb
  unfold Rdr at h ⊢
  simp only [hc, hf]
  exact h

theorem Rdr.alloc {w : World} {b : Nat} {s : ByteArray} {k : Nat} (h : Rdr w b s k) (o : Obj) : Rdr (w.alloc o) b s k :=
  h.of_block (Below.heap_alloc _ _ _ h.lt)

theorem Rdr.setAt {w : World} {b : Nat} {s : ByteArray} {k : Nat} (h : Rdr w b s k) (k' : Nat) (z : Int) (hz : z = k') (hk : k' ≤ s.size) : Rdr (w.setCell ⟨b, 1, none⟩ (.int .i64 z)) b s k' := by
  subst hz
  obtain ⟨h0, h1, h2, ⟨x2, h3⟩, ⟨x4, h4⟩, ⟨x5, h5⟩, f1, f2, f4, f5⟩ := h
  refine ⟨hk, ?_, World.cell?_setCell_same _ _ _ h2, ⟨x2, ?_⟩, ⟨x4, ?_⟩, ⟨x5, ?_⟩, ?_, ?_, ?_, ?_⟩
  · rw [World.cell?_setCell_other _ _ _ _ (by simp)]; exact h1
  · rw [World.cell?_setCell_other _ _ _ _ (by simp)]; exact h3
  · rw [World.cell?_setCell_other _ _ _ _ (by simp)]; exact h4
  · rw [World.cell?_setCell_other _ _ _ _ (by simp)]; exact h5
  all_goals (rw [World.frozen?_setCell]; assumption)

theorem Rdr.setBad {w : World} {b : Nat} {s : ByteArray} {k : Nat} (h : Rdr w b s k) (x : Int) : Rdr (w.setCell ⟨b, 2, none⟩ (.int .i64 x)) b s k := by
  obtain ⟨h0, h1, h2, ⟨x2, h3⟩, ⟨x4, h4⟩, ⟨x5, h5⟩, f1, f2, f4, f5⟩ := h
  refine ⟨h0, ?_, ?_, ⟨x, World.cell?_setCell_same _ _ _ h3⟩, ⟨x4, ?_⟩, ⟨x5, ?_⟩, ?_, ?_, ?_, ?_⟩
  · rw [World.cell?_setCell_other _ _ _ _ (by simp)]; exact h1
  · rw [World.cell?_setCell_other _ _ _ _ (by simp)]; exact h2
  · rw [World.cell?_setCell_other _ _ _ _ (by simp)]; exact h4
  · rw [World.cell?_setCell_other _ _ _ _ (by simp)]; exact h5
  all_goals (rw [World.frozen?_setCell]; assumption)

theorem Rdr.setOdd {w : World} {b : Nat} {s : ByteArray} {k : Nat} (h : Rdr w b s k) (x : Bool) : Rdr (w.setCell ⟨b, 4, none⟩ (.bool x)) b s k := by
  obtain ⟨h0, h1, h2, ⟨x2, h3⟩, ⟨x4, h4⟩, ⟨x5, h5⟩, f1, f2, f4, f5⟩ := h
  refine ⟨h0, ?_, ?_, ⟨x2, ?_⟩, ⟨x, World.cell?_setCell_same _ _ _ h4⟩, ⟨x5, ?_⟩, ?_, ?_, ?_, ?_⟩
  · rw [World.cell?_setCell_other _ _ _ _ (by simp)]; exact h1
  · rw [World.cell?_setCell_other _ _ _ _ (by simp)]; exact h2
  · rw [World.cell?_setCell_other _ _ _ _ (by simp)]; exact h3
  · rw [World.cell?_setCell_other _ _ _ _ (by simp)]; exact h5
  all_goals (rw [World.frozen?_setCell]; assumption)

theorem Rdr.setEnds {w : World} {b : Nat} {s : ByteArray} {k : Nat} (h : Rdr w b s k) (x : Bool) : Rdr (w.setCell ⟨b, 5, none⟩ (.bool x)) b s k := by
  obtain ⟨h0, h1, h2, ⟨x2, h3⟩, ⟨x4, h4⟩, ⟨x5, h5⟩, f1, f2, f4, f5⟩ := h
  refine ⟨h0, ?_, ?_, ⟨x2, ?_⟩, ⟨x4, ?_⟩, ⟨x, World.cell?_setCell_same _ _ _ h5⟩, ?_, ?_, ?_, ?_⟩
  · rw [World.cell?_setCell_other _ _ _ _ (by simp)]; exact h1
  · rw [World.cell?_setCell_other _ _ _ _ (by simp)]; exact h2
  · rw [World.cell?_setCell_other _ _ _ _ (by simp)]; exact h3
  · rw [World.cell?_setCell_other _ _ _ _ (by simp)]; exact h4
  all_goals (rw [World.frozen?_setCell]; assumption)

set_option maxRecDepth 100000 in
theorem fail_any (b : Nat) (s : ByteArray) (k : Nat) (x : Int) (w : World) (h : Rdr w b s k) :
    Calls Tryz.prog 66 #[.pointer (some ⟨b, 0, none⟩), .int .i64 x] w fun e w' => e = .returned (.agg #[.int .i64 0, .int .i64 0, .int .i64 0, .float .f64 0, .string ⟨#[]⟩, .slice none 0 0, .slice none 0 0]) ∧ Kept (· = b) w w' ∧ Rdr w' b s k := by
  have H := Lib.hid h
  obtain ⟨h0, h1, h2, ⟨x2, h3⟩, ⟨x4, h4⟩, ⟨x5, h5⟩, f1, f2, f4, f5⟩ := h
  have hlt := H.out.lt
  have hsf := @store_float Tryz.prog
  rcases Bool.eq_false_or_eq_true (x2 == 0) with hx | hx
  · go_enter Tryz.func66, Tryz.ntmps66
    go_wp2
    refine bodyPost_ret (v := .agg #[.int .i64 0, .int .i64 0, .int .i64 0, .float .f64 0, .string ⟨#[]⟩, .slice none 0 0, .slice none 0 0]) (by simp [results, Tryz.results66, go_sem]) rfl ⟨rfl, ?_, ?_⟩
    · exact ((Kept.refl (· = b) w).setCell ⟨b, 2, none⟩ _ (fun _ => rfl)).alloc _
    · exact (H.out.setBad x).alloc _
  · go_enter Tryz.func66, Tryz.ntmps66
    go_wp2
    refine bodyPost_ret (v := .agg #[.int .i64 0, .int .i64 0, .int .i64 0, .float .f64 0, .string ⟨#[]⟩, .slice none 0 0, .slice none 0 0]) (by simp [results, Tryz.results66, go_sem]) rfl ⟨rfl, ?_, ?_⟩
    · exact (Kept.refl (· = b) w).alloc _
    · exact H.out.alloc _

/-- It returns a byte and a bool. -/
def RetByteBool (e : Ending) : Prop := ∃ (x : Int) (y : Bool), 0 ≤ x ∧ x ≤ 255 ∧ e = .returned (.tuple #[.int .u8 x, .bool y])
theorem RetByteBool.mk (x : Int) (y : Bool) (h0 : 0 ≤ x) (h1 : x ≤ 255) : RetByteBool (.returned (.tuple #[.int .u8 x, .bool y])) := ⟨x, y, h0, h1, rfl⟩

/-- The reader is behind place `k`, or there. -/
def RdrFrom (w : World) (b : Nat) (s : ByteArray) (k : Nat) : Prop := ∃ k', k ≤ k' ∧ Rdr w b s k'

set_option maxRecDepth 100000 in
set_option maxHeartbeats 1000000 in
theorem escape_any (b : Nat) (s : ByteArray) (k : Nat) (w : World) (h : Rdr w b s k) (hs : s.size ≤ 140737488355330) :
    Calls Tryz.prog 65 #[.pointer (some ⟨b, 0, none⟩)] w fun e w' => RetByteBool e ∧ Kept (· = b) w w' ∧ RdrFrom w' b s k := by
  have H := Lib.hid h
  obtain ⟨h0, h1, h2, ⟨x2, h3⟩, ⟨x4, h4⟩, ⟨x5, h5⟩, f1, f2, f4, f5⟩ := h
  have hlt := H.out.lt
  by_cases hk : k < s.size
  · have hk' : (k : Int) < (s.size : Int) := by omega
    have hk0 : (0 : Int) ≤ (k : Int) := by omega
    go_enter Tryz.func65, Tryz.ntmps65
    go_wp2_with fail
    go_quiet (fail)
    go_wp2_with fail
    go_quiet (fail)
    go_wp2_with fail
    all_goals first
      | (go_ret2; exact ⟨RetByteBool.mk _ _ (by omega) (by omega), ((Kept.refl (· = b) w).drewN _).setCell ⟨b, 1, none⟩ _ (fun _ => rfl), ⟨k + 1, by omega, (H.out.drewN _).setAt (k + 1) _ (by omega) (by omega)⟩⟩)
      | skip
    · by_cases hk1 : k + 1 < s.size
      · have hk1' : (k : Int) + 1 < (s.size : Int) := by omega
        have hk10 : (0 : Int) ≤ (k : Int) + 1 := by omega
        have hkn : ((k : Int) + 1).toNat = k + 1 := by omega
        go_quiet (fail)
        go_wp2_with fail
        all_goals go_ret2
        all_goals first
          | exact ⟨RetByteBool.mk _ _ (by omega) (by omega), (((Kept.refl (· = b) w).drewN _).setCell ⟨b, 1, none⟩ _ (fun _ => rfl)).drewN _, ⟨k + 1, by omega, ((H.out.drewN _).setAt (k + 1) _ (by omega) (by omega)).drewN _⟩⟩
          | exact ⟨RetByteBool.mk _ _ (by omega) (by omega), ((((Kept.refl (· = b) w).drewN _).setCell ⟨b, 1, none⟩ _ (fun _ => rfl)).drewN _).setCell ⟨b, 1, none⟩ _ (fun _ => rfl), ⟨k + 2, by omega, (((H.out.drewN _).setAt (k + 1) _ (by omega) (by omega)).drewN _).setAt (k + 2) _ (by omega) (by omega)⟩⟩
      · have hd : decide ((k : Int) + 1 < (s.size : Int)) = false := by simp; omega
        go_quiet (fail)
        go_wp2_with fail
        go_ret2
        exact ⟨RetByteBool.mk _ _ (by omega) (by omega), (((Kept.refl (· = b) w).drewN _).setCell ⟨b, 1, none⟩ _ (fun _ => rfl)).drewN _, ⟨k + 1, by omega, ((H.out.drewN _).setAt (k + 1) _ (by omega) (by omega)).drewN _⟩⟩
    all_goals first
      | (go_ret2; exact ⟨RetByteBool.mk _ _ (by omega) (by have := s[k].toNat_lt; omega), ((Kept.refl (· = b) w).drewN _).setCell ⟨b, 1, none⟩ _ (fun _ => rfl), ⟨k + 1, by omega, (H.out.drewN _).setAt (k + 1) _ (by omega) (by omega)⟩⟩)
      | skip
    clear h0 h1 h2 h3 h4 h5 f1 f2 f4 f5
    go_loopw [5, 6] (fun o n wr => ∃ (k' m : Nat) (x : Int), m ≤ 3 ∧ n = .int .i64 m ∧ o = .int .i64 x ∧ k + 1 ≤ k' ∧ Kept (· = b) w wr ∧ Rdr wr b s k') (fun _ n _ => 3 - (intOf n).toNat)
    case atStart => exact ⟨k + 1, 1, _, by omega, rfl, rfl, by omega, ((Kept.refl (· = b) w).drewN _).setCell ⟨b, 1, none⟩ _ (fun _ => rfl), (H.out.drewN _).setAt (k + 1) _ (by omega) (by have := H.out.1; omega)⟩
    case round =>
      obtain ⟨k', m, x, hm, rfl, rfl, hkk, hkp, hr⟩ := hrel
      have HKP := Lib.hid hkp
      have HR := Lib.hid hr
      obtain ⟨h0, h1, h2, ⟨x2, h3⟩, ⟨x4, h4⟩, ⟨x5, h5⟩, f1, f2, f4, f5⟩ := hr
      clear hkp
      have hk0 : (0 : Int) ≤ (k' : Int) := by omega
      by_cases hk : k' < s.size
      · have hk' : (k' : Int) < (s.size : Int) := by omega
        by_cases hm3 : m < 3
        · have hm3' : (m : Int) < 3 := by omega
          by_cases c1 : 48 ≤ (s[k'].toNat : Int)
          · by_cases c2 : (s[k'].toNat : Int) ≤ 55
            · go_wp2_with fail
              go_quiet (fail)
              go_wp2_with fail
              go_quiet (fail)
              go_wp2_with fail
              go_roundw
              case rel => exact ⟨k' + 1, m + 1, _, by omega, by go_num, rfl, by omega, (HKP.out.drewN _).setCell ⟨b, 1, none⟩ _ (fun _ => rfl), (HR.out.drewN _).setAt (k' + 1) _ (by omega) (by omega)⟩
              case measure => simp [intOf]; omega
            · have hd : decide ((s[k'].toNat : Int) ≤ 55) = false := by simp; omega
              go_wp2_with fail
              go_quiet (fail)
              go_wp2_with fail
              go_ret2
              exact ⟨RetByteBool.mk _ _ (by omega) (by omega), HKP.out.drewN _, ⟨k', by omega, HR.out.drewN _⟩⟩
          · have hd : decide (48 ≤ (s[k'].toNat : Int)) = false := by simp; omega
            go_wp2_with fail
            go_quiet (fail)
            go_wp2_with fail
            go_ret2
            exact ⟨RetByteBool.mk _ _ (by omega) (by omega), HKP.out.drewN _, ⟨k', by omega, HR.out.drewN _⟩⟩
        · have hd : decide ((m : Int) < 3) = false := by simp; omega
          go_wp2_with fail
          go_quiet (fail)
          go_wp2_with fail
          go_ret2
          exact ⟨RetByteBool.mk _ _ (by omega) (by omega), HKP.out.drewN _, ⟨k', by omega, HR.out.drewN _⟩⟩
      · have hd : decide ((k' : Int) < (s.size : Int)) = false := by simp; omega
        have hd' : decide (k' < s.size) = false := by simp; omega
        go_wp2_with fail
        go_quiet (fail)
        go_wp2_with fail
        go_ret2
        exact ⟨RetByteBool.mk _ _ (by omega) (by omega), HKP.out.drewN _, ⟨k', by omega, HR.out.drewN _⟩⟩
  · go_enter Tryz.func65, Tryz.ntmps65
    go_wp2_with fail
    go_quiet (fail)
    go_wp2_with fail
    go_ret2
    exact ⟨RetByteBool.mk _ _ (by omega) (by omega), (Kept.refl _ _).drewN _, ⟨k, Nat.le_refl _, H.out.drewN _⟩⟩

end Go.Proofs.YtcpijmbdibgdmaaGreatDoor
