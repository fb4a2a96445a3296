/-
  impl.Entries: a walk for each kind of what is found.
-/
import Derived.Test.YtcpijmbdibgdmaaGreatDoorE2
namespace Go.Proofs.YtcpijmbdibgdmaaGreatDoor
open Go Go.RowKit

def nullOb : Ob := .mk 0 0 0 0 ByteArray.empty [] []

theorem nullOb_prep (m : Nat) (w : World) (S : Nat → Prop) : PRep (m + 1) w S .nilIface nullOb :=
  PRep.leaf ⟨by simp, by omega, by simp, fun j hj => by simp at hj, by simp⟩ (.inl ⟨rfl, rfl⟩)

theorem nullOb_valid (m : Nat) : Valid (m + 1) nullOb := by
  refine ⟨?_, .inl rfl⟩
  have h0 : FloatKind.f64.format.order 0 0 = some Ordering.eq := by kernel_rfl
  simp [OnlyP, h0]

theorem neq61_nil (w : World) : (binOp BinOp.neq 61 (.map none) (.map none)).run Tryz.prog w = .ok (.bool false) w := by kernel_rfl
theorem neq61_some (b : Nat) (w : World) : (binOp BinOp.neq 61 (.map (some b)) (.map none)).run Tryz.prog w = .ok (.bool true) w := by kernel_rfl

/-- It returns a row of nine objects, equal to those of a list. -/
def Got (n : Nat) (w' : World) (os : List Ob) (e : Ending) : Prop := ∃ (a : Option Addr) (cap : Nat) (us : List Value) (os' : List Ob) (B : Nat), e = .returned (.slice a 9 cap) ∧ os'.length = 9 ∧ RepRow n w' B (.slice a 9 cap) us os' ∧ ∀ j (h : j < os'.length) (h' : j < os.length), EqN n os'[j] os[j]

/-- impl.object of a dictionary in which a key is looked up. -/
def Opened (w : World) (v : Value) (key : ByteArray) (R : World → Value → Bool → Prop) : Prop := ∀ w', Below w.heap.size w w' → w.heap.size + 1 ≤ w'.heap.size → Calls Tryz.prog 19 #[v] w' fun e w1 =>
  (∃ b u ok, e = .returned (.tuple #[.iface 61 (.map (some b)), .bool true]) ∧ Finds w1 w1.heap.size b key u ok ∧ R w1 u ok) ∧ Below w'.heap.size w' w1

theorem nine {w : World} {base : Nat} {mb : Nat} {XS : List Value} (h : w.ownsRow base 51 1 (.slice (some ⟨mb, 0, none⟩) 9 9) 9 XS) (j : Nat) (hj : j < 9) : w.cell? ⟨mb, j, none⟩ = some (XS.getD j .nilIface) := by
  have h1 := h.cellAt j (by rw [Nat.mul_one]; exact hj)
  have h2 := h.1
  rw [h1]
  simp [List.getD, show j < XS.length by omega]

set_option maxRecDepth 100000 in
set_option maxHeartbeats 4000000 in
theorem entries_none (m : Nat) (c0 c1 c2 c3 c4 c5 c6 : Value) (key : ByteArray) (w : World) (h : Opened w (.agg #[c0, c1, c2, c3, c4, c5, c6]) key (fun _ u ok => NotOf 66 u ok ∧ NotOf 68 u ok ∧ NotOf 73 u ok ∧ NotOf 76 u ok ∧ NotOf 79 u ok ∧ NotOf 80 u ok ∧ NotOf 61 u ok ∧ NotOf 86 u ok)) :
    Calls Tryz.prog 12 #[.agg #[c0, c1, c2, c3, c4, c5, c6], .string key] w fun e w' => Got (m + 1) w' [nullOb, nullOb, nullOb, nullOb, nullOb, nullOb, nullOb, nullOb, nullOb] e ∧ Below w.heap.size w w' := by
  have H := Lib.hid h
  clear h
  have hq1 := neq61_nil
  have hq2 := neq61_some
  go_enter Tryz.func12, Tryz.ntmps12
  go_wp2_with fail
  refine (H.out _ ((Below.refl _ _).alloc (Nat.le_refl _) _) (by simp)).mono ?_
  rintro e w1 ⟨⟨b, u, ok, rfl, hf, ⟨n66, n68, n73, n76, n79, n80, n61, n86⟩⟩, hb1⟩
  have hs1 := hb1.size
  simp at hs1
  have hu63 : Tryz.prog.underlying 63 = some (.slice 51) := by kernel_rfl
  obtain ⟨i51, hi, hz0, hz1, hz2⟩ := info_parts Tryz.info51
  obtain ⟨wm, hrun, hown, hgr⟩ := run_make_full (P := Tryz.prog) w1 w1.heap.size 63 51 i51 .nilIface 1 hu63 hi hz0 hz1 .i64 .i64 9 (by rw [hz2]; omega) (by unfold maxLen; omega) (Nat.le_refl _)
  have hmc : (madeCells Value.nilIface.cells (9 * 1)).toList = [.nilIface, .nilIface, .nilIface, .nilIface, .nilIface, .nilIface, .nilIface, .nilIface, .nilIface] := by kernel_rfl
  rw [hmc] at hown
  have hrun' : (Instr.makeSlice 63 (.int .i64 9) (.int .i64 9)).run Tryz.prog w1 = .ok (.slice (some ⟨w1.heap.size, 0, none⟩) 9 9) wm := hrun
  have hsm := (kept_of_grown_none hgr).size
  have HF0 := Lib.hid (hf.later ((kept_of_grown_none hgr).below (fun _ h => h.elim) (Nat.le_refl _)))
  have HB0 := Lib.hid ((kept_of_grown_none hgr).below (B := w1.heap.size) (fun _ h => h.elim) (Nat.le_refl _))
  have HO0 := Lib.hid hown
  have HBA := Lib.hid ((((Below.refl w.heap.size w).alloc (Nat.le_refl _) (.cells #[c0, c1, c2, c3, c4, c5, c6] 26))).trans (hb1.mono (by simp)))
  obtain ⟨mb, hmb⟩ : ∃ x, x = w1.heap.size := ⟨_, rfl⟩
  rw [← hmb] at hrun' HF0 HB0 HO0
  have hmb1 : mb ≤ w1.heap.size := by omega
  have hmb2 : w1.heap.size ≤ mb := by omega
  have hlt0 : mb < wm.heap.size := (HO0.out.lt mb rfl).2
  clear hmb hf hrun hown hgr hi hz0 hz1 hz2 hu63 hb1
  go_wp2_with fail
  refine (ent25_not wm mb b key _ _ (HF0.out) n66).mono ?_
  rintro e v0 ⟨rfl, hk⟩
  have hl1 : mb < v0.heap.size := by have := hk.size; omega
  have HB1 := Lib.hid (HB0.out.trans (hk.below (fun _ h => h.elim) (by omega)))
  have HF1 := Lib.hid (HF0.out.later (hk.below (fun _ h => h.elim) (by omega)))
  have HO1 := Lib.hid (hk.own HO0.out (fun _ _ h => h))
  clear hk HB0 HF0 HO0
  go_wp2_with fail
  refine (ent26_not v0 mb b key _ _ (HF1.out) n68).mono ?_
  rintro e v1 ⟨rfl, hk⟩
  have hl2 : mb < v1.heap.size := by have := hk.size; omega
  have HB2 := Lib.hid (HB1.out.trans (hk.below (fun _ h => h.elim) (by omega)))
  have HF2 := Lib.hid (HF1.out.later (hk.below (fun _ h => h.elim) (by omega)))
  have HO2 := Lib.hid (hk.own HO1.out (fun _ _ h => h))
  clear hk HB1 HF1 HO1
  go_wp2_with fail
  refine (ent27_not v1 mb b key _ _ (HF2.out) n68).mono ?_
  rintro e v2 ⟨rfl, hk⟩
  have hl3 : mb < v2.heap.size := by have := hk.size; omega
  have HB3 := Lib.hid (HB2.out.trans (hk.below (fun _ h => h.elim) (by omega)))
  have HF3 := Lib.hid (HF2.out.later (hk.below (fun _ h => h.elim) (by omega)))
  have HO3 := Lib.hid (hk.own HO2.out (fun _ _ h => h))
  clear hk HB2 HF2 HO2
  go_wp2_with fail
  refine (ent28_not v2 mb b key _ _ (HF3.out) n73).mono ?_
  rintro e v3 ⟨rfl, hk⟩
  have hl4 : mb < v3.heap.size := by have := hk.size; omega
  have HB4 := Lib.hid (HB3.out.trans (hk.below (fun _ h => h.elim) (by omega)))
  have HF4 := Lib.hid (HF3.out.later (hk.below (fun _ h => h.elim) (by omega)))
  have HO4 := Lib.hid (hk.own HO3.out (fun _ _ h => h))
  clear hk HB3 HF3 HO3
  go_wp2_with fail
  refine (ent29_not v3 mb b key _ _ (HF4.out) n76).mono ?_
  rintro e v4 ⟨rfl, hk⟩
  have hl5 : mb < v4.heap.size := by have := hk.size; omega
  have HB5 := Lib.hid (HB4.out.trans (hk.below (fun _ h => h.elim) (by omega)))
  have HF5 := Lib.hid (HF4.out.later (hk.below (fun _ h => h.elim) (by omega)))
  have HO5 := Lib.hid (hk.own HO4.out (fun _ _ h => h))
  clear hk HB4 HF4 HO4
  go_wp2_with fail
  refine (ent30_not v4 mb b key _ _ (HF5.out) n79).mono ?_
  rintro e v5 ⟨rfl, hk⟩
  have hl6 : mb < v5.heap.size := by have := hk.size; omega
  have HB6 := Lib.hid (HB5.out.trans (hk.below (fun _ h => h.elim) (by omega)))
  have HF6 := Lib.hid (HF5.out.later (hk.below (fun _ h => h.elim) (by omega)))
  have HO6 := Lib.hid (hk.own HO5.out (fun _ _ h => h))
  clear hk HB5 HF5 HO5
  go_wp2_with fail
  refine (ent31_not v5 mb b key _ _ (HF6.out) n80).mono ?_
  rintro e v6 ⟨rfl, hk⟩
  have hl7 : mb < v6.heap.size := by have := hk.size; omega
  have HB7 := Lib.hid (HB6.out.trans (hk.below (fun _ h => h.elim) (by omega)))
  have HF7 := Lib.hid (HF6.out.later (hk.below (fun _ h => h.elim) (by omega)))
  have HO7 := Lib.hid (hk.own HO6.out (fun _ _ h => h))
  clear hk HB6 HF6 HO6
  go_wp2_with fail
  refine (ent32_not v6 mb b key _ _ (HF7.out) n61).mono ?_
  rintro e v7 ⟨rfl, hk⟩
  have hl8 : mb < v7.heap.size := by have := hk.size; omega
  have HB8 := Lib.hid (HB7.out.trans (hk.below (fun _ h => h.elim) (by omega)))
  have HF8 := Lib.hid (HF7.out.later (hk.below (fun _ h => h.elim) (by omega)))
  have HO8 := Lib.hid (hk.own HO7.out (fun _ _ h => h))
  clear hk HB7 HF7 HO7
  go_wp2_with fail
  refine (ent33_not v7 mb b key _ _ (HF8.out) n86).mono ?_
  rintro e v8 ⟨rfl, hk⟩
  have hl9 : mb < v8.heap.size := by have := hk.size; omega
  have HB9 := Lib.hid (HB8.out.trans (hk.below (fun _ h => h.elim) (by omega)))
  have HF9 := Lib.hid (HF8.out.later (hk.below (fun _ h => h.elim) (by omega)))
  have HO9 := Lib.hid (hk.own HO8.out (fun _ _ h => h))
  clear hk HB8 HF8 HO8
  go_wp2_with fail
  refine (tells_any (m + 1) (tell_any (m + 1)) (some ⟨mb, 0, none⟩) 9 mb (fun j => List.getD _ j .nilIface) (fun _ k => k < mb) [nullOb, nullOb, nullOb, nullOb, nullOb, nullOb, nullOb, nullOb, nullOb] (fun k => k < v8.heap.size) v8 (by simp) (fun _ => ⟨rfl, by omega⟩) (fun j k hk => by omega) (fun j hj => ⟨nine HO9.out j hj, ?_⟩) (fun k hk => hk) (fun o' ho' => ?_)).mono ?_
  · have hj9 : j < 9 := hj
    have hc : j = 0 ∨ j = 1 ∨ j = 2 ∨ j = 3 ∨ j = 4 ∨ j = 5 ∨ j = 6 ∨ j = 7 ∨ j = 8 := by omega
    rcases hc with rfl | rfl | rfl | rfl | rfl | rfl | rfl | rfl | rfl <;> exact nullOb_prep m _ _
  · simp at ho'
    rw [ho']
    exact nullOb_valid m
  rintro e w9 ⟨⟨ra, rc, us, os', rfl, hl9, hrow, heq⟩, hb9⟩
  have HROW := Lib.hid hrow
  have HEQ := Lib.hid heq
  have HBZ := Lib.hid ((HBA.out.trans (HB9.out.mono (by omega))).trans (hb9.mono (by omega)))
  clear hrow heq hb9 HBA HB9
  go_wp2_with fail
  go_ret
  exact ⟨⟨ra, rc, us, os', _, rfl, hl9, HROW.out, HEQ.out⟩, HBZ.out⟩

set_option maxRecDepth 100000 in
set_option maxHeartbeats 4000000 in
theorem entries_bool (m : Nat) (c0 c1 c2 c3 c4 c5 c6 : Value) (o : Ob) (ho : Valid (m + 1) o) (key : ByteArray) (w : World) (h : Opened w (.agg #[c0, c1, c2, c3, c4, c5, c6]) key (fun w1 u ok => (∃ (x : Bool), u = .iface 66 (.bool x)) ∧ ok = true ∧ PRep (m + 1) w1 (fun k => k < w1.heap.size) u o)) :
    Calls Tryz.prog 12 #[.agg #[c0, c1, c2, c3, c4, c5, c6], .string key] w fun e w' => Got (m + 1) w' [o, nullOb, nullOb, nullOb, nullOb, nullOb, nullOb, nullOb, nullOb] e ∧ Below w.heap.size w w' := by
  have H := Lib.hid h
  clear h
  have hq1 := neq61_nil
  have hq2 := neq61_some
  go_enter Tryz.func12, Tryz.ntmps12
  go_wp2_with fail
  refine (H.out _ ((Below.refl _ _).alloc (Nat.le_refl _) _) (by simp)).mono ?_
  rintro e w1 ⟨⟨b, u, ok, rfl, hf, ⟨⟨x, rfl⟩, rfl, hu⟩⟩, hb1⟩
  have hs1 := hb1.size
  simp at hs1
  have hu63 : Tryz.prog.underlying 63 = some (.slice 51) := by kernel_rfl
  obtain ⟨i51, hi, hz0, hz1, hz2⟩ := info_parts Tryz.info51
  obtain ⟨wm, hrun, hown, hgr⟩ := run_make_full (P := Tryz.prog) w1 w1.heap.size 63 51 i51 .nilIface 1 hu63 hi hz0 hz1 .i64 .i64 9 (by rw [hz2]; omega) (by unfold maxLen; omega) (Nat.le_refl _)
  have hmc : (madeCells Value.nilIface.cells (9 * 1)).toList = [.nilIface, .nilIface, .nilIface, .nilIface, .nilIface, .nilIface, .nilIface, .nilIface, .nilIface] := by kernel_rfl
  rw [hmc] at hown
  have hrun' : (Instr.makeSlice 63 (.int .i64 9) (.int .i64 9)).run Tryz.prog w1 = .ok (.slice (some ⟨w1.heap.size, 0, none⟩) 9 9) wm := hrun
  have hsm := (kept_of_grown_none hgr).size
  have HF0 := Lib.hid (hf.later ((kept_of_grown_none hgr).below (fun _ h => h.elim) (Nat.le_refl _)))
  have HB0 := Lib.hid ((kept_of_grown_none hgr).below (B := w1.heap.size) (fun _ h => h.elim) (Nat.le_refl _))
  have HO0 := Lib.hid hown
  have HBA := Lib.hid ((((Below.refl w.heap.size w).alloc (Nat.le_refl _) (.cells #[c0, c1, c2, c3, c4, c5, c6] 26))).trans (hb1.mono (by simp)))
  have HU := Lib.hid hu
  clear hu
  obtain ⟨mb, hmb⟩ : ∃ x, x = w1.heap.size := ⟨_, rfl⟩
  rw [← hmb] at hrun' HF0 HB0 HO0
  have hmb1 : mb ≤ w1.heap.size := by omega
  have hmb2 : w1.heap.size ≤ mb := by omega
  have hlt0 : mb < wm.heap.size := (HO0.out.lt mb rfl).2
  clear hmb hf hrun hown hgr hi hz0 hz1 hz2 hu63 hb1
  go_wp2_with fail
  refine (ent25_is wm mb b key x (HF0.out)).mono ?_
  rintro e v0 ⟨p, rfl, hk, hc⟩
  have hl1 : mb < v0.heap.size := by have := hk.size; omega
  have HB1 := Lib.hid (HB0.out.trans (hk.below (fun _ h => h.elim) (by omega)))
  have HF1 := Lib.hid (HF0.out.later (hk.below (fun _ h => h.elim) (by omega)))
  have HO1 := Lib.hid (hk.own HO0.out (fun _ _ h => h))
  have hm1 := nine HO1.out 0 (by omega)
  have hm2 := HO1.out.frozenAt 0
  clear hk HB0 HF0 HO0
  go_wp2_with fail
  have hst := HO1.out.stored 0 (.iface 66 (.bool x))
  have hks : Kept (· = mb) v0 (v0.setCell ⟨mb, 0, none⟩ (.iface 66 (.bool x))) := (Kept.refl _ v0).setCell _ _ (fun _ => rfl)
  generalize v0.setCell ⟨mb, 0, none⟩ (.iface 66 (.bool x)) = s0 at hst hks ⊢
  have hl2 : mb < s0.heap.size := by have := hks.size; omega
  have HB2 := Lib.hid (HB1.out.trans (hks.below (fun k e => by have e' : k = mb := e; omega) (by omega)))
  have HF2 := Lib.hid (HF1.out.later (hks.below (fun k e => by have e' : k = mb := e; omega) (by omega)))
  have HO2 := Lib.hid hst.1
  clear hst hks HB1 HF1 HO1 hm1 hm2 hc
  refine (ent26_not s0 mb b key _ _ (HF2.out) (.inr (.inr ⟨66, _, rfl, rfl, by decide⟩))).mono ?_
  rintro e v1 ⟨rfl, hk⟩
  have hl3 : mb < v1.heap.size := by have := hk.size; omega
  have HB3 := Lib.hid (HB2.out.trans (hk.below (fun _ h => h.elim) (by omega)))
  have HF3 := Lib.hid (HF2.out.later (hk.below (fun _ h => h.elim) (by omega)))
  have HO3 := Lib.hid (hk.own HO2.out (fun _ _ h => h))
  clear hk HB2 HF2 HO2
  go_wp2_with fail
  refine (ent27_not v1 mb b key _ _ (HF3.out) (.inr (.inr ⟨66, _, rfl, rfl, by decide⟩))).mono ?_
  rintro e v2 ⟨rfl, hk⟩
  have hl4 : mb < v2.heap.size := by have := hk.size; omega
  have HB4 := Lib.hid (HB3.out.trans (hk.below (fun _ h => h.elim) (by omega)))
  have HF4 := Lib.hid (HF3.out.later (hk.below (fun _ h => h.elim) (by omega)))
  have HO4 := Lib.hid (hk.own HO3.out (fun _ _ h => h))
  clear hk HB3 HF3 HO3
  go_wp2_with fail
  refine (ent28_not v2 mb b key _ _ (HF4.out) (.inr (.inr ⟨66, _, rfl, rfl, by decide⟩))).mono ?_
  rintro e v3 ⟨rfl, hk⟩
  have hl5 : mb < v3.heap.size := by have := hk.size; omega
  have HB5 := Lib.hid (HB4.out.trans (hk.below (fun _ h => h.elim) (by omega)))
  have HF5 := Lib.hid (HF4.out.later (hk.below (fun _ h => h.elim) (by omega)))
  have HO5 := Lib.hid (hk.own HO4.out (fun _ _ h => h))
  clear hk HB4 HF4 HO4
  go_wp2_with fail
  refine (ent29_not v3 mb b key _ _ (HF5.out) (.inr (.inr ⟨66, _, rfl, rfl, by decide⟩))).mono ?_
  rintro e v4 ⟨rfl, hk⟩
  have hl6 : mb < v4.heap.size := by have := hk.size; omega
  have HB6 := Lib.hid (HB5.out.trans (hk.below (fun _ h => h.elim) (by omega)))
  have HF6 := Lib.hid (HF5.out.later (hk.below (fun _ h => h.elim) (by omega)))
  have HO6 := Lib.hid (hk.own HO5.out (fun _ _ h => h))
  clear hk HB5 HF5 HO5
  go_wp2_with fail
  refine (ent30_not v4 mb b key _ _ (HF6.out) (.inr (.inr ⟨66, _, rfl, rfl, by decide⟩))).mono ?_
  rintro e v5 ⟨rfl, hk⟩
  have hl7 : mb < v5.heap.size := by have := hk.size; omega
  have HB7 := Lib.hid (HB6.out.trans (hk.below (fun _ h => h.elim) (by omega)))
  have HF7 := Lib.hid (HF6.out.later (hk.below (fun _ h => h.elim) (by omega)))
  have HO7 := Lib.hid (hk.own HO6.out (fun _ _ h => h))
  clear hk HB6 HF6 HO6
  go_wp2_with fail
  refine (ent31_not v5 mb b key _ _ (HF7.out) (.inr (.inr ⟨66, _, rfl, rfl, by decide⟩))).mono ?_
  rintro e v6 ⟨rfl, hk⟩
  have hl8 : mb < v6.heap.size := by have := hk.size; omega
  have HB8 := Lib.hid (HB7.out.trans (hk.below (fun _ h => h.elim) (by omega)))
  have HF8 := Lib.hid (HF7.out.later (hk.below (fun _ h => h.elim) (by omega)))
  have HO8 := Lib.hid (hk.own HO7.out (fun _ _ h => h))
  clear hk HB7 HF7 HO7
  go_wp2_with fail
  refine (ent32_not v6 mb b key _ _ (HF8.out) (.inr (.inr ⟨66, _, rfl, rfl, by decide⟩))).mono ?_
  rintro e v7 ⟨rfl, hk⟩
  have hl9 : mb < v7.heap.size := by have := hk.size; omega
  have HB9 := Lib.hid (HB8.out.trans (hk.below (fun _ h => h.elim) (by omega)))
  have HF9 := Lib.hid (HF8.out.later (hk.below (fun _ h => h.elim) (by omega)))
  have HO9 := Lib.hid (hk.own HO8.out (fun _ _ h => h))
  clear hk HB8 HF8 HO8
  go_wp2_with fail
  refine (ent33_not v7 mb b key _ _ (HF9.out) (.inr (.inr ⟨66, _, rfl, rfl, by decide⟩))).mono ?_
  rintro e v8 ⟨rfl, hk⟩
  have hl10 : mb < v8.heap.size := by have := hk.size; omega
  have HB10 := Lib.hid (HB9.out.trans (hk.below (fun _ h => h.elim) (by omega)))
  have HF10 := Lib.hid (HF9.out.later (hk.below (fun _ h => h.elim) (by omega)))
  have HO10 := Lib.hid (hk.own HO9.out (fun _ _ h => h))
  clear hk HB9 HF9 HO9
  go_wp2_with fail
  refine (tells_any (m + 1) (tell_any (m + 1)) (some ⟨mb, 0, none⟩) 9 mb (fun j => List.getD _ j .nilIface) (fun _ k => k < mb) [o, nullOb, nullOb, nullOb, nullOb, nullOb, nullOb, nullOb, nullOb] (fun k => k < v8.heap.size) v8 (by simp) (fun _ => ⟨rfl, by omega⟩) (fun j k hk => by omega) (fun j hj => ⟨nine HO10.out j hj, ?_⟩) (fun k hk => hk) (fun o' ho' => ?_)).mono ?_
  · have hj9 : j < 9 := hj
    have hc : j = 0 ∨ j = 1 ∨ j = 2 ∨ j = 3 ∨ j = 4 ∨ j = 5 ∨ j = 6 ∨ j = 7 ∨ j = 8 := by omega
    have hp : PRep (m + 1) v8 (fun k => k < mb) (.iface 66 (.bool x)) o := (HU.out.below (HB10.out.mono (by omega)) (fun k hk => hk)).mono (fun k hk => by omega)
    rcases hc with rfl | rfl | rfl | rfl | rfl | rfl | rfl | rfl | rfl <;> first | exact nullOb_prep m _ _ | exact hp
  · simp only [List.mem_cons, List.not_mem_nil, or_false] at ho'
    rcases ho' with h | h | h | h | h | h | h | h | h <;> rw [h] <;> first | exact nullOb_valid m | exact ho
  rintro e w9 ⟨⟨ra, rc, us, os', rfl, hl9, hrow, heq⟩, hb9⟩
  have HROW := Lib.hid hrow
  have HEQ := Lib.hid heq
  have HBZ := Lib.hid ((HBA.out.trans (HB10.out.mono (by omega))).trans (hb9.mono (by omega)))
  clear hrow heq hb9 HBA HB10
  go_wp2_with fail
  go_ret
  exact ⟨⟨ra, rc, us, os', _, rfl, hl9, HROW.out, HEQ.out⟩, HBZ.out⟩

set_option maxRecDepth 100000 in
set_option maxHeartbeats 4000000 in
theorem entries_int (m : Nat) (c0 c1 c2 c3 c4 c5 c6 : Value) (o : Ob) (ho : Valid (m + 1) o) (key : ByteArray) (w : World) (h : Opened w (.agg #[c0, c1, c2, c3, c4, c5, c6]) key (fun w1 u ok => (∃ (x : Int), u = .iface 68 (.int .i64 x)) ∧ ok = true ∧ PRep (m + 1) w1 (fun k => k < w1.heap.size) u o)) :
    Calls Tryz.prog 12 #[.agg #[c0, c1, c2, c3, c4, c5, c6], .string key] w fun e w' => Got (m + 1) w' [nullOb, o, o, nullOb, nullOb, nullOb, nullOb, nullOb, nullOb] e ∧ Below w.heap.size w w' := by
  have H := Lib.hid h
  clear h
  have hq1 := neq61_nil
  have hq2 := neq61_some
  go_enter Tryz.func12, Tryz.ntmps12
  go_wp2_with fail
  refine (H.out _ ((Below.refl _ _).alloc (Nat.le_refl _) _) (by simp)).mono ?_
  rintro e w1 ⟨⟨b, u, ok, rfl, hf, ⟨⟨x, rfl⟩, rfl, hu⟩⟩, hb1⟩
  have hs1 := hb1.size
  simp at hs1
  have hu63 : Tryz.prog.underlying 63 = some (.slice 51) := by kernel_rfl
  obtain ⟨i51, hi, hz0, hz1, hz2⟩ := info_parts Tryz.info51
  obtain ⟨wm, hrun, hown, hgr⟩ := run_make_full (P := Tryz.prog) w1 w1.heap.size 63 51 i51 .nilIface 1 hu63 hi hz0 hz1 .i64 .i64 9 (by rw [hz2]; omega) (by unfold maxLen; omega) (Nat.le_refl _)
  have hmc : (madeCells Value.nilIface.cells (9 * 1)).toList = [.nilIface, .nilIface, .nilIface, .nilIface, .nilIface, .nilIface, .nilIface, .nilIface, .nilIface] := by kernel_rfl
  rw [hmc] at hown
  have hrun' : (Instr.makeSlice 63 (.int .i64 9) (.int .i64 9)).run Tryz.prog w1 = .ok (.slice (some ⟨w1.heap.size, 0, none⟩) 9 9) wm := hrun
  have hsm := (kept_of_grown_none hgr).size
  have HF0 := Lib.hid (hf.later ((kept_of_grown_none hgr).below (fun _ h => h.elim) (Nat.le_refl _)))
  have HB0 := Lib.hid ((kept_of_grown_none hgr).below (B := w1.heap.size) (fun _ h => h.elim) (Nat.le_refl _))
  have HO0 := Lib.hid hown
  have HBA := Lib.hid ((((Below.refl w.heap.size w).alloc (Nat.le_refl _) (.cells #[c0, c1, c2, c3, c4, c5, c6] 26))).trans (hb1.mono (by simp)))
  have HU := Lib.hid hu
  clear hu
  obtain ⟨mb, hmb⟩ : ∃ x, x = w1.heap.size := ⟨_, rfl⟩
  rw [← hmb] at hrun' HF0 HB0 HO0
  have hmb1 : mb ≤ w1.heap.size := by omega
  have hmb2 : w1.heap.size ≤ mb := by omega
  have hlt0 : mb < wm.heap.size := (HO0.out.lt mb rfl).2
  clear hmb hf hrun hown hgr hi hz0 hz1 hz2 hu63 hb1
  go_wp2_with fail
  refine (ent25_not wm mb b key _ _ (HF0.out) (.inr (.inr ⟨68, _, rfl, rfl, by decide⟩))).mono ?_
  rintro e v0 ⟨rfl, hk⟩
  have hl1 : mb < v0.heap.size := by have := hk.size; omega
  have HB1 := Lib.hid (HB0.out.trans (hk.below (fun _ h => h.elim) (by omega)))
  have HF1 := Lib.hid (HF0.out.later (hk.below (fun _ h => h.elim) (by omega)))
  have HO1 := Lib.hid (hk.own HO0.out (fun _ _ h => h))
  clear hk HB0 HF0 HO0
  go_wp2_with fail
  refine (ent26_is v0 mb b key x (HF1.out)).mono ?_
  rintro e v1 ⟨p, rfl, hk, hc⟩
  have hl2 : mb < v1.heap.size := by have := hk.size; omega
  have HB2 := Lib.hid (HB1.out.trans (hk.below (fun _ h => h.elim) (by omega)))
  have HF2 := Lib.hid (HF1.out.later (hk.below (fun _ h => h.elim) (by omega)))
  have HO2 := Lib.hid (hk.own HO1.out (fun _ _ h => h))
  have hm1 := nine HO2.out 1 (by omega)
  have hm2 := HO2.out.frozenAt 1
  clear hk HB1 HF1 HO1
  go_wp2_with fail
  have hst := HO2.out.stored 1 (.iface 68 (.int .i64 x))
  have hks : Kept (· = mb) v1 (v1.setCell ⟨mb, 1, none⟩ (.iface 68 (.int .i64 x))) := (Kept.refl _ v1).setCell _ _ (fun _ => rfl)
  generalize v1.setCell ⟨mb, 1, none⟩ (.iface 68 (.int .i64 x)) = s1 at hst hks ⊢
  have hl3 : mb < s1.heap.size := by have := hks.size; omega
  have HB3 := Lib.hid (HB2.out.trans (hks.below (fun k e => by have e' : k = mb := e; omega) (by omega)))
  have HF3 := Lib.hid (HF2.out.later (hks.below (fun k e => by have e' : k = mb := e; omega) (by omega)))
  have HO3 := Lib.hid hst.1
  clear hst hks HB2 HF2 HO2 hm1 hm2 hc
  refine (ent27_is s1 mb b key x (HF3.out)).mono ?_
  rintro e v2 ⟨p, rfl, hk, hc⟩
  have hl4 : mb < v2.heap.size := by have := hk.size; omega
  have HB4 := Lib.hid (HB3.out.trans (hk.below (fun _ h => h.elim) (by omega)))
  have HF4 := Lib.hid (HF3.out.later (hk.below (fun _ h => h.elim) (by omega)))
  have HO4 := Lib.hid (hk.own HO3.out (fun _ _ h => h))
  have hm1 := nine HO4.out 2 (by omega)
  have hm2 := HO4.out.frozenAt 2
  clear hk HB3 HF3 HO3
  go_wp2_with fail
  have hst := HO4.out.stored 2 (.iface 68 (.int .i64 x))
  have hks : Kept (· = mb) v2 (v2.setCell ⟨mb, 2, none⟩ (.iface 68 (.int .i64 x))) := (Kept.refl _ v2).setCell _ _ (fun _ => rfl)
  generalize v2.setCell ⟨mb, 2, none⟩ (.iface 68 (.int .i64 x)) = s2 at hst hks ⊢
  have hl5 : mb < s2.heap.size := by have := hks.size; omega
  have HB5 := Lib.hid (HB4.out.trans (hks.below (fun k e => by have e' : k = mb := e; omega) (by omega)))
  have HF5 := Lib.hid (HF4.out.later (hks.below (fun k e => by have e' : k = mb := e; omega) (by omega)))
  have HO5 := Lib.hid hst.1
  clear hst hks HB4 HF4 HO4 hm1 hm2 hc
  refine (ent28_not s2 mb b key _ _ (HF5.out) (.inr (.inr ⟨68, _, rfl, rfl, by decide⟩))).mono ?_
  rintro e v3 ⟨rfl, hk⟩
  have hl6 : mb < v3.heap.size := by have := hk.size; omega
  have HB6 := Lib.hid (HB5.out.trans (hk.below (fun _ h => h.elim) (by omega)))
  have HF6 := Lib.hid (HF5.out.later (hk.below (fun _ h => h.elim) (by omega)))
  have HO6 := Lib.hid (hk.own HO5.out (fun _ _ h => h))
  clear hk HB5 HF5 HO5
  go_wp2_with fail
  refine (ent29_not v3 mb b key _ _ (HF6.out) (.inr (.inr ⟨68, _, rfl, rfl, by decide⟩))).mono ?_
  rintro e v4 ⟨rfl, hk⟩
  have hl7 : mb < v4.heap.size := by have := hk.size; omega
  have HB7 := Lib.hid (HB6.out.trans (hk.below (fun _ h => h.elim) (by omega)))
  have HF7 := Lib.hid (HF6.out.later (hk.below (fun _ h => h.elim) (by omega)))
  have HO7 := Lib.hid (hk.own HO6.out (fun _ _ h => h))
  clear hk HB6 HF6 HO6
  go_wp2_with fail
  refine (ent30_not v4 mb b key _ _ (HF7.out) (.inr (.inr ⟨68, _, rfl, rfl, by decide⟩))).mono ?_
  rintro e v5 ⟨rfl, hk⟩
  have hl8 : mb < v5.heap.size := by have := hk.size; omega
  have HB8 := Lib.hid (HB7.out.trans (hk.below (fun _ h => h.elim) (by omega)))
  have HF8 := Lib.hid (HF7.out.later (hk.below (fun _ h => h.elim) (by omega)))
  have HO8 := Lib.hid (hk.own HO7.out (fun _ _ h => h))
  clear hk HB7 HF7 HO7
  go_wp2_with fail
  refine (ent31_not v5 mb b key _ _ (HF8.out) (.inr (.inr ⟨68, _, rfl, rfl, by decide⟩))).mono ?_
  rintro e v6 ⟨rfl, hk⟩
  have hl9 : mb < v6.heap.size := by have := hk.size; omega
  have HB9 := Lib.hid (HB8.out.trans (hk.below (fun _ h => h.elim) (by omega)))
  have HF9 := Lib.hid (HF8.out.later (hk.below (fun _ h => h.elim) (by omega)))
  have HO9 := Lib.hid (hk.own HO8.out (fun _ _ h => h))
  clear hk HB8 HF8 HO8
  go_wp2_with fail
  refine (ent32_not v6 mb b key _ _ (HF9.out) (.inr (.inr ⟨68, _, rfl, rfl, by decide⟩))).mono ?_
  rintro e v7 ⟨rfl, hk⟩
  have hl10 : mb < v7.heap.size := by have := hk.size; omega
  have HB10 := Lib.hid (HB9.out.trans (hk.below (fun _ h => h.elim) (by omega)))
  have HF10 := Lib.hid (HF9.out.later (hk.below (fun _ h => h.elim) (by omega)))
  have HO10 := Lib.hid (hk.own HO9.out (fun _ _ h => h))
  clear hk HB9 HF9 HO9
  go_wp2_with fail
  refine (ent33_not v7 mb b key _ _ (HF10.out) (.inr (.inr ⟨68, _, rfl, rfl, by decide⟩))).mono ?_
  rintro e v8 ⟨rfl, hk⟩
  have hl11 : mb < v8.heap.size := by have := hk.size; omega
  have HB11 := Lib.hid (HB10.out.trans (hk.below (fun _ h => h.elim) (by omega)))
  have HF11 := Lib.hid (HF10.out.later (hk.below (fun _ h => h.elim) (by omega)))
  have HO11 := Lib.hid (hk.own HO10.out (fun _ _ h => h))
  clear hk HB10 HF10 HO10
  go_wp2_with fail
  refine (tells_any (m + 1) (tell_any (m + 1)) (some ⟨mb, 0, none⟩) 9 mb (fun j => List.getD _ j .nilIface) (fun _ k => k < mb) [nullOb, o, o, nullOb, nullOb, nullOb, nullOb, nullOb, nullOb] (fun k => k < v8.heap.size) v8 (by simp) (fun _ => ⟨rfl, by omega⟩) (fun j k hk => by omega) (fun j hj => ⟨nine HO11.out j hj, ?_⟩) (fun k hk => hk) (fun o' ho' => ?_)).mono ?_
  · have hj9 : j < 9 := hj
    have hc : j = 0 ∨ j = 1 ∨ j = 2 ∨ j = 3 ∨ j = 4 ∨ j = 5 ∨ j = 6 ∨ j = 7 ∨ j = 8 := by omega
    have hp : PRep (m + 1) v8 (fun k => k < mb) (.iface 68 (.int .i64 x)) o := (HU.out.below (HB11.out.mono (by omega)) (fun k hk => hk)).mono (fun k hk => by omega)
    rcases hc with rfl | rfl | rfl | rfl | rfl | rfl | rfl | rfl | rfl <;> first | exact nullOb_prep m _ _ | exact hp
  · simp only [List.mem_cons, List.not_mem_nil, or_false] at ho'
    rcases ho' with h | h | h | h | h | h | h | h | h <;> rw [h] <;> first | exact nullOb_valid m | exact ho
  rintro e w9 ⟨⟨ra, rc, us, os', rfl, hl9, hrow, heq⟩, hb9⟩
  have HROW := Lib.hid hrow
  have HEQ := Lib.hid heq
  have HBZ := Lib.hid ((HBA.out.trans (HB11.out.mono (by omega))).trans (hb9.mono (by omega)))
  clear hrow heq hb9 HBA HB11
  go_wp2_with fail
  go_ret
  exact ⟨⟨ra, rc, us, os', _, rfl, hl9, HROW.out, HEQ.out⟩, HBZ.out⟩

set_option maxRecDepth 100000 in
set_option maxHeartbeats 4000000 in
theorem entries_name (m : Nat) (c0 c1 c2 c3 c4 c5 c6 : Value) (o : Ob) (ho : Valid (m + 1) o) (key : ByteArray) (w : World) (h : Opened w (.agg #[c0, c1, c2, c3, c4, c5, c6]) key (fun w1 u ok => (∃ (x : ByteArray), u = .iface 73 (.string x)) ∧ ok = true ∧ PRep (m + 1) w1 (fun k => k < w1.heap.size) u o)) :
    Calls Tryz.prog 12 #[.agg #[c0, c1, c2, c3, c4, c5, c6], .string key] w fun e w' => Got (m + 1) w' [nullOb, nullOb, nullOb, o, nullOb, nullOb, nullOb, nullOb, nullOb] e ∧ Below w.heap.size w w' := by
  have H := Lib.hid h
  clear h
  have hq1 := neq61_nil
  have hq2 := neq61_some
  go_enter Tryz.func12, Tryz.ntmps12
  go_wp2_with fail
  refine (H.out _ ((Below.refl _ _).alloc (Nat.le_refl _) _) (by simp)).mono ?_
  rintro e w1 ⟨⟨b, u, ok, rfl, hf, ⟨⟨x, rfl⟩, rfl, hu⟩⟩, hb1⟩
  have hs1 := hb1.size
  simp at hs1
  have hu63 : Tryz.prog.underlying 63 = some (.slice 51) := by kernel_rfl
  obtain ⟨i51, hi, hz0, hz1, hz2⟩ := info_parts Tryz.info51
  obtain ⟨wm, hrun, hown, hgr⟩ := run_make_full (P := Tryz.prog) w1 w1.heap.size 63 51 i51 .nilIface 1 hu63 hi hz0 hz1 .i64 .i64 9 (by rw [hz2]; omega) (by unfold maxLen; omega) (Nat.le_refl _)
  have hmc : (madeCells Value.nilIface.cells (9 * 1)).toList = [.nilIface, .nilIface, .nilIface, .nilIface, .nilIface, .nilIface, .nilIface, .nilIface, .nilIface] := by kernel_rfl
  rw [hmc] at hown
  have hrun' : (Instr.makeSlice 63 (.int .i64 9) (.int .i64 9)).run Tryz.prog w1 = .ok (.slice (some ⟨w1.heap.size, 0, none⟩) 9 9) wm := hrun
  have hsm := (kept_of_grown_none hgr).size
  have HF0 := Lib.hid (hf.later ((kept_of_grown_none hgr).below (fun _ h => h.elim) (Nat.le_refl _)))
  have HB0 := Lib.hid ((kept_of_grown_none hgr).below (B := w1.heap.size) (fun _ h => h.elim) (Nat.le_refl _))
  have HO0 := Lib.hid hown
  have HBA := Lib.hid ((((Below.refl w.heap.size w).alloc (Nat.le_refl _) (.cells #[c0, c1, c2, c3, c4, c5, c6] 26))).trans (hb1.mono (by simp)))
  have HU := Lib.hid hu
  clear hu
  obtain ⟨mb, hmb⟩ : ∃ x, x = w1.heap.size := ⟨_, rfl⟩
  rw [← hmb] at hrun' HF0 HB0 HO0
  have hmb1 : mb ≤ w1.heap.size := by omega
  have hmb2 : w1.heap.size ≤ mb := by omega
  have hlt0 : mb < wm.heap.size := (HO0.out.lt mb rfl).2
  clear hmb hf hrun hown hgr hi hz0 hz1 hz2 hu63 hb1
  go_wp2_with fail
  refine (ent25_not wm mb b key _ _ (HF0.out) (.inr (.inr ⟨73, _, rfl, rfl, by decide⟩))).mono ?_
  rintro e v0 ⟨rfl, hk⟩
  have hl1 : mb < v0.heap.size := by have := hk.size; omega
  have HB1 := Lib.hid (HB0.out.trans (hk.below (fun _ h => h.elim) (by omega)))
  have HF1 := Lib.hid (HF0.out.later (hk.below (fun _ h => h.elim) (by omega)))
  have HO1 := Lib.hid (hk.own HO0.out (fun _ _ h => h))
  clear hk HB0 HF0 HO0
  go_wp2_with fail
  refine (ent26_not v0 mb b key _ _ (HF1.out) (.inr (.inr ⟨73, _, rfl, rfl, by decide⟩))).mono ?_
  rintro e v1 ⟨rfl, hk⟩
  have hl2 : mb < v1.heap.size := by have := hk.size; omega
  have HB2 := Lib.hid (HB1.out.trans (hk.below (fun _ h => h.elim) (by omega)))
  have HF2 := Lib.hid (HF1.out.later (hk.below (fun _ h => h.elim) (by omega)))
  have HO2 := Lib.hid (hk.own HO1.out (fun _ _ h => h))
  clear hk HB1 HF1 HO1
  go_wp2_with fail
  refine (ent27_not v1 mb b key _ _ (HF2.out) (.inr (.inr ⟨73, _, rfl, rfl, by decide⟩))).mono ?_
  rintro e v2 ⟨rfl, hk⟩
  have hl3 : mb < v2.heap.size := by have := hk.size; omega
  have HB3 := Lib.hid (HB2.out.trans (hk.below (fun _ h => h.elim) (by omega)))
  have HF3 := Lib.hid (HF2.out.later (hk.below (fun _ h => h.elim) (by omega)))
  have HO3 := Lib.hid (hk.own HO2.out (fun _ _ h => h))
  clear hk HB2 HF2 HO2
  go_wp2_with fail
  refine (ent28_is v2 mb b key x (HF3.out)).mono ?_
  rintro e v3 ⟨p, rfl, hk, hc⟩
  have hl4 : mb < v3.heap.size := by have := hk.size; omega
  have HB4 := Lib.hid (HB3.out.trans (hk.below (fun _ h => h.elim) (by omega)))
  have HF4 := Lib.hid (HF3.out.later (hk.below (fun _ h => h.elim) (by omega)))
  have HO4 := Lib.hid (hk.own HO3.out (fun _ _ h => h))
  have hm1 := nine HO4.out 3 (by omega)
  have hm2 := HO4.out.frozenAt 3
  clear hk HB3 HF3 HO3
  go_wp2_with fail
  have hst := HO4.out.stored 3 (.iface 73 (.string x))
  have hks : Kept (· = mb) v3 (v3.setCell ⟨mb, 3, none⟩ (.iface 73 (.string x))) := (Kept.refl _ v3).setCell _ _ (fun _ => rfl)
  generalize v3.setCell ⟨mb, 3, none⟩ (.iface 73 (.string x)) = s3 at hst hks ⊢
  have hl5 : mb < s3.heap.size := by have := hks.size; omega
  have HB5 := Lib.hid (HB4.out.trans (hks.below (fun k e => by have e' : k = mb := e; omega) (by omega)))
  have HF5 := Lib.hid (HF4.out.later (hks.below (fun k e => by have e' : k = mb := e; omega) (by omega)))
  have HO5 := Lib.hid hst.1
  clear hst hks HB4 HF4 HO4 hm1 hm2 hc
  refine (ent29_not s3 mb b key _ _ (HF5.out) (.inr (.inr ⟨73, _, rfl, rfl, by decide⟩))).mono ?_
  rintro e v4 ⟨rfl, hk⟩
  have hl6 : mb < v4.heap.size := by have := hk.size; omega
  have HB6 := Lib.hid (HB5.out.trans (hk.below (fun _ h => h.elim) (by omega)))
  have HF6 := Lib.hid (HF5.out.later (hk.below (fun _ h => h.elim) (by omega)))
  have HO6 := Lib.hid (hk.own HO5.out (fun _ _ h => h))
  clear hk HB5 HF5 HO5
  go_wp2_with fail
  refine (ent30_not v4 mb b key _ _ (HF6.out) (.inr (.inr ⟨73, _, rfl, rfl, by decide⟩))).mono ?_
  rintro e v5 ⟨rfl, hk⟩
  have hl7 : mb < v5.heap.size := by have := hk.size; omega
  have HB7 := Lib.hid (HB6.out.trans (hk.below (fun _ h => h.elim) (by omega)))
  have HF7 := Lib.hid (HF6.out.later (hk.below (fun _ h => h.elim) (by omega)))
  have HO7 := Lib.hid (hk.own HO6.out (fun _ _ h => h))
  clear hk HB6 HF6 HO6
  go_wp2_with fail
  refine (ent31_not v5 mb b key _ _ (HF7.out) (.inr (.inr ⟨73, _, rfl, rfl, by decide⟩))).mono ?_
  rintro e v6 ⟨rfl, hk⟩
  have hl8 : mb < v6.heap.size := by have := hk.size; omega
  have HB8 := Lib.hid (HB7.out.trans (hk.below (fun _ h => h.elim) (by omega)))
  have HF8 := Lib.hid (HF7.out.later (hk.below (fun _ h => h.elim) (by omega)))
  have HO8 := Lib.hid (hk.own HO7.out (fun _ _ h => h))
  clear hk HB7 HF7 HO7
  go_wp2_with fail
  refine (ent32_not v6 mb b key _ _ (HF8.out) (.inr (.inr ⟨73, _, rfl, rfl, by decide⟩))).mono ?_
  rintro e v7 ⟨rfl, hk⟩
  have hl9 : mb < v7.heap.size := by have := hk.size; omega
  have HB9 := Lib.hid (HB8.out.trans (hk.below (fun _ h => h.elim) (by omega)))
  have HF9 := Lib.hid (HF8.out.later (hk.below (fun _ h => h.elim) (by omega)))
  have HO9 := Lib.hid (hk.own HO8.out (fun _ _ h => h))
  clear hk HB8 HF8 HO8
  go_wp2_with fail
  refine (ent33_not v7 mb b key _ _ (HF9.out) (.inr (.inr ⟨73, _, rfl, rfl, by decide⟩))).mono ?_
  rintro e v8 ⟨rfl, hk⟩
  have hl10 : mb < v8.heap.size := by have := hk.size; omega
  have HB10 := Lib.hid (HB9.out.trans (hk.below (fun _ h => h.elim) (by omega)))
  have HF10 := Lib.hid (HF9.out.later (hk.below (fun _ h => h.elim) (by omega)))
  have HO10 := Lib.hid (hk.own HO9.out (fun _ _ h => h))
  clear hk HB9 HF9 HO9
  go_wp2_with fail
  refine (tells_any (m + 1) (tell_any (m + 1)) (some ⟨mb, 0, none⟩) 9 mb (fun j => List.getD _ j .nilIface) (fun _ k => k < mb) [nullOb, nullOb, nullOb, o, nullOb, nullOb, nullOb, nullOb, nullOb] (fun k => k < v8.heap.size) v8 (by simp) (fun _ => ⟨rfl, by omega⟩) (fun j k hk => by omega) (fun j hj => ⟨nine HO10.out j hj, ?_⟩) (fun k hk => hk) (fun o' ho' => ?_)).mono ?_
  · have hj9 : j < 9 := hj
    have hc : j = 0 ∨ j = 1 ∨ j = 2 ∨ j = 3 ∨ j = 4 ∨ j = 5 ∨ j = 6 ∨ j = 7 ∨ j = 8 := by omega
    have hp : PRep (m + 1) v8 (fun k => k < mb) (.iface 73 (.string x)) o := (HU.out.below (HB10.out.mono (by omega)) (fun k hk => hk)).mono (fun k hk => by omega)
    rcases hc with rfl | rfl | rfl | rfl | rfl | rfl | rfl | rfl | rfl <;> first | exact nullOb_prep m _ _ | exact hp
  · simp only [List.mem_cons, List.not_mem_nil, or_false] at ho'
    rcases ho' with h | h | h | h | h | h | h | h | h <;> rw [h] <;> first | exact nullOb_valid m | exact ho
  rintro e w9 ⟨⟨ra, rc, us, os', rfl, hl9, hrow, heq⟩, hb9⟩
  have HROW := Lib.hid hrow
  have HEQ := Lib.hid heq
  have HBZ := Lib.hid ((HBA.out.trans (HB10.out.mono (by omega))).trans (hb9.mono (by omega)))
  clear hrow heq hb9 HBA HB10
  go_wp2_with fail
  go_ret
  exact ⟨⟨ra, rc, us, os', _, rfl, hl9, HROW.out, HEQ.out⟩, HBZ.out⟩

set_option maxRecDepth 100000 in
set_option maxHeartbeats 4000000 in
theorem entries_str (m : Nat) (c0 c1 c2 c3 c4 c5 c6 : Value) (o : Ob) (ho : Valid (m + 1) o) (key : ByteArray) (w : World) (h : Opened w (.agg #[c0, c1, c2, c3, c4, c5, c6]) key (fun w1 u ok => (∃ (x : ByteArray), u = .iface 76 (.string x)) ∧ ok = true ∧ PRep (m + 1) w1 (fun k => k < w1.heap.size) u o)) :
    Calls Tryz.prog 12 #[.agg #[c0, c1, c2, c3, c4, c5, c6], .string key] w fun e w' => Got (m + 1) w' [nullOb, nullOb, nullOb, nullOb, o, nullOb, nullOb, nullOb, nullOb] e ∧ Below w.heap.size w w' := by
  have H := Lib.hid h
  clear h
  have hq1 := neq61_nil
  have hq2 := neq61_some
  go_enter Tryz.func12, Tryz.ntmps12
  go_wp2_with fail
  refine (H.out _ ((Below.refl _ _).alloc (Nat.le_refl _) _) (by simp)).mono ?_
  rintro e w1 ⟨⟨b, u, ok, rfl, hf, ⟨⟨x, rfl⟩, rfl, hu⟩⟩, hb1⟩
  have hs1 := hb1.size
  simp at hs1
  have hu63 : Tryz.prog.underlying 63 = some (.slice 51) := by kernel_rfl
  obtain ⟨i51, hi, hz0, hz1, hz2⟩ := info_parts Tryz.info51
  obtain ⟨wm, hrun, hown, hgr⟩ := run_make_full (P := Tryz.prog) w1 w1.heap.size 63 51 i51 .nilIface 1 hu63 hi hz0 hz1 .i64 .i64 9 (by rw [hz2]; omega) (by unfold maxLen; omega) (Nat.le_refl _)
  have hmc : (madeCells Value.nilIface.cells (9 * 1)).toList = [.nilIface, .nilIface, .nilIface, .nilIface, .nilIface, .nilIface, .nilIface, .nilIface, .nilIface] := by kernel_rfl
  rw [hmc] at hown
  have hrun' : (Instr.makeSlice 63 (.int .i64 9) (.int .i64 9)).run Tryz.prog w1 = .ok (.slice (some ⟨w1.heap.size, 0, none⟩) 9 9) wm := hrun
  have hsm := (kept_of_grown_none hgr).size
  have HF0 := Lib.hid (hf.later ((kept_of_grown_none hgr).below (fun _ h => h.elim) (Nat.le_refl _)))
  have HB0 := Lib.hid ((kept_of_grown_none hgr).below (B := w1.heap.size) (fun _ h => h.elim) (Nat.le_refl _))
  have HO0 := Lib.hid hown
  have HBA := Lib.hid ((((Below.refl w.heap.size w).alloc (Nat.le_refl _) (.cells #[c0, c1, c2, c3, c4, c5, c6] 26))).trans (hb1.mono (by simp)))
  have HU := Lib.hid hu
  clear hu
  obtain ⟨mb, hmb⟩ : ∃ x, x = w1.heap.size := ⟨_, rfl⟩
  rw [← hmb] at hrun' HF0 HB0 HO0
  have hmb1 : mb ≤ w1.heap.size := by omega
  have hmb2 : w1.heap.size ≤ mb := by omega
  have hlt0 : mb < wm.heap.size := (HO0.out.lt mb rfl).2
  clear hmb hf hrun hown hgr hi hz0 hz1 hz2 hu63 hb1
  go_wp2_with fail
  refine (ent25_not wm mb b key _ _ (HF0.out) (.inr (.inr ⟨76, _, rfl, rfl, by decide⟩))).mono ?_
  rintro e v0 ⟨rfl, hk⟩
  have hl1 : mb < v0.heap.size := by have := hk.size; omega
  have HB1 := Lib.hid (HB0.out.trans (hk.below (fun _ h => h.elim) (by omega)))
  have HF1 := Lib.hid (HF0.out.later (hk.below (fun _ h => h.elim) (by omega)))
  have HO1 := Lib.hid (hk.own HO0.out (fun _ _ h => h))
  clear hk HB0 HF0 HO0
  go_wp2_with fail
  refine (ent26_not v0 mb b key _ _ (HF1.out) (.inr (.inr ⟨76, _, rfl, rfl, by decide⟩))).mono ?_
  rintro e v1 ⟨rfl, hk⟩
  have hl2 : mb < v1.heap.size := by have := hk.size; omega
  have HB2 := Lib.hid (HB1.out.trans (hk.below (fun _ h => h.elim) (by omega)))
  have HF2 := Lib.hid (HF1.out.later (hk.below (fun _ h => h.elim) (by omega)))
  have HO2 := Lib.hid (hk.own HO1.out (fun _ _ h => h))
  clear hk HB1 HF1 HO1
  go_wp2_with fail
  refine (ent27_not v1 mb b key _ _ (HF2.out) (.inr (.inr ⟨76, _, rfl, rfl, by decide⟩))).mono ?_
  rintro e v2 ⟨rfl, hk⟩
  have hl3 : mb < v2.heap.size := by have := hk.size; omega
  have HB3 := Lib.hid (HB2.out.trans (hk.below (fun _ h => h.elim) (by omega)))
  have HF3 := Lib.hid (HF2.out.later (hk.below (fun _ h => h.elim) (by omega)))
  have HO3 := Lib.hid (hk.own HO2.out (fun _ _ h => h))
  clear hk HB2 HF2 HO2
  go_wp2_with fail
  refine (ent28_not v2 mb b key _ _ (HF3.out) (.inr (.inr ⟨76, _, rfl, rfl, by decide⟩))).mono ?_
  rintro e v3 ⟨rfl, hk⟩
  have hl4 : mb < v3.heap.size := by have := hk.size; omega
  have HB4 := Lib.hid (HB3.out.trans (hk.below (fun _ h => h.elim) (by omega)))
  have HF4 := Lib.hid (HF3.out.later (hk.below (fun _ h => h.elim) (by omega)))
  have HO4 := Lib.hid (hk.own HO3.out (fun _ _ h => h))
  clear hk HB3 HF3 HO3
  go_wp2_with fail
  refine (ent29_is v3 mb b key x (HF4.out)).mono ?_
  rintro e v4 ⟨p, rfl, hk, hc⟩
  have hl5 : mb < v4.heap.size := by have := hk.size; omega
  have HB5 := Lib.hid (HB4.out.trans (hk.below (fun _ h => h.elim) (by omega)))
  have HF5 := Lib.hid (HF4.out.later (hk.below (fun _ h => h.elim) (by omega)))
  have HO5 := Lib.hid (hk.own HO4.out (fun _ _ h => h))
  have hm1 := nine HO5.out 4 (by omega)
  have hm2 := HO5.out.frozenAt 4
  clear hk HB4 HF4 HO4
  go_wp2_with fail
  have hst := HO5.out.stored 4 (.iface 76 (.string x))
  have hks : Kept (· = mb) v4 (v4.setCell ⟨mb, 4, none⟩ (.iface 76 (.string x))) := (Kept.refl _ v4).setCell _ _ (fun _ => rfl)
  generalize v4.setCell ⟨mb, 4, none⟩ (.iface 76 (.string x)) = s4 at hst hks ⊢
  have hl6 : mb < s4.heap.size := by have := hks.size; omega
  have HB6 := Lib.hid (HB5.out.trans (hks.below (fun k e => by have e' : k = mb := e; omega) (by omega)))
  have HF6 := Lib.hid (HF5.out.later (hks.below (fun k e => by have e' : k = mb := e; omega) (by omega)))
  have HO6 := Lib.hid hst.1
  clear hst hks HB5 HF5 HO5 hm1 hm2 hc
  refine (ent30_not s4 mb b key _ _ (HF6.out) (.inr (.inr ⟨76, _, rfl, rfl, by decide⟩))).mono ?_
  rintro e v5 ⟨rfl, hk⟩
  have hl7 : mb < v5.heap.size := by have := hk.size; omega
  have HB7 := Lib.hid (HB6.out.trans (hk.below (fun _ h => h.elim) (by omega)))
  have HF7 := Lib.hid (HF6.out.later (hk.below (fun _ h => h.elim) (by omega)))
  have HO7 := Lib.hid (hk.own HO6.out (fun _ _ h => h))
  clear hk HB6 HF6 HO6
  go_wp2_with fail
  refine (ent31_not v5 mb b key _ _ (HF7.out) (.inr (.inr ⟨76, _, rfl, rfl, by decide⟩))).mono ?_
  rintro e v6 ⟨rfl, hk⟩
  have hl8 : mb < v6.heap.size := by have := hk.size; omega
  have HB8 := Lib.hid (HB7.out.trans (hk.below (fun _ h => h.elim) (by omega)))
  have HF8 := Lib.hid (HF7.out.later (hk.below (fun _ h => h.elim) (by omega)))
  have HO8 := Lib.hid (hk.own HO7.out (fun _ _ h => h))
  clear hk HB7 HF7 HO7
  go_wp2_with fail
  refine (ent32_not v6 mb b key _ _ (HF8.out) (.inr (.inr ⟨76, _, rfl, rfl, by decide⟩))).mono ?_
  rintro e v7 ⟨rfl, hk⟩
  have hl9 : mb < v7.heap.size := by have := hk.size; omega
  have HB9 := Lib.hid (HB8.out.trans (hk.below (fun _ h => h.elim) (by omega)))
  have HF9 := Lib.hid (HF8.out.later (hk.below (fun _ h => h.elim) (by omega)))
  have HO9 := Lib.hid (hk.own HO8.out (fun _ _ h => h))
  clear hk HB8 HF8 HO8
  go_wp2_with fail
  refine (ent33_not v7 mb b key _ _ (HF9.out) (.inr (.inr ⟨76, _, rfl, rfl, by decide⟩))).mono ?_
  rintro e v8 ⟨rfl, hk⟩
  have hl10 : mb < v8.heap.size := by have := hk.size; omega
  have HB10 := Lib.hid (HB9.out.trans (hk.below (fun _ h => h.elim) (by omega)))
  have HF10 := Lib.hid (HF9.out.later (hk.below (fun _ h => h.elim) (by omega)))
  have HO10 := Lib.hid (hk.own HO9.out (fun _ _ h => h))
  clear hk HB9 HF9 HO9
  go_wp2_with fail
  refine (tells_any (m + 1) (tell_any (m + 1)) (some ⟨mb, 0, none⟩) 9 mb (fun j => List.getD _ j .nilIface) (fun _ k => k < mb) [nullOb, nullOb, nullOb, nullOb, o, nullOb, nullOb, nullOb, nullOb] (fun k => k < v8.heap.size) v8 (by simp) (fun _ => ⟨rfl, by omega⟩) (fun j k hk => by omega) (fun j hj => ⟨nine HO10.out j hj, ?_⟩) (fun k hk => hk) (fun o' ho' => ?_)).mono ?_
  · have hj9 : j < 9 := hj
    have hc : j = 0 ∨ j = 1 ∨ j = 2 ∨ j = 3 ∨ j = 4 ∨ j = 5 ∨ j = 6 ∨ j = 7 ∨ j = 8 := by omega
    have hp : PRep (m + 1) v8 (fun k => k < mb) (.iface 76 (.string x)) o := (HU.out.below (HB10.out.mono (by omega)) (fun k hk => hk)).mono (fun k hk => by omega)
    rcases hc with rfl | rfl | rfl | rfl | rfl | rfl | rfl | rfl | rfl <;> first | exact nullOb_prep m _ _ | exact hp
  · simp only [List.mem_cons, List.not_mem_nil, or_false] at ho'
    rcases ho' with h | h | h | h | h | h | h | h | h <;> rw [h] <;> first | exact nullOb_valid m | exact ho
  rintro e w9 ⟨⟨ra, rc, us, os', rfl, hl9, hrow, heq⟩, hb9⟩
  have HROW := Lib.hid hrow
  have HEQ := Lib.hid heq
  have HBZ := Lib.hid ((HBA.out.trans (HB10.out.mono (by omega))).trans (hb9.mono (by omega)))
  clear hrow heq hb9 HBA HB10
  go_wp2_with fail
  go_ret
  exact ⟨⟨ra, rc, us, os', _, rfl, hl9, HROW.out, HEQ.out⟩, HBZ.out⟩

end Go.Proofs.YtcpijmbdibgdmaaGreatDoor
