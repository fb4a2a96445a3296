/-
  impl.Entries: the other kinds.
-/
import Derived.Test.YtcpijmbdibgdmaaGreatDoorE4
namespace Go.Proofs.YtcpijmbdibgdmaaGreatDoor
open Go Go.RowKit

set_option maxRecDepth 100000 in
set_option maxHeartbeats 4000000 in
theorem entries_hex (m : Nat) (c0 c1 c2 c3 c4 c5 c6 : Value) (o : Ob) (ho : Valid (m + 1) o) (key : ByteArray) (w : World) (h : Opened w (.agg #[c0, c1, c2, c3, c4, c5, c6]) key (fun w1 u ok => (∃ (x : ByteArray), u = .iface 79 (.string x)) ∧ ok = true ∧ PRep (m + 1) w1 (fun k => k < w1.heap.size) u o)) :
    Calls Tryz.prog 12 #[.agg #[c0, c1, c2, c3, c4, c5, c6], .string key] w fun e w' => Got (m + 1) w' [nullOb, nullOb, nullOb, nullOb, nullOb, o, nullOb, nullOb, nullOb] e ∧ Below w.heap.size w w' := by
  have H := Lib.hid h
  clear h
  have hq1 := neq61_nil
  have hq2 := neq61_some
  go_enter Tryz.func12, Tryz.ntmps12
  go_wp2_with fail
  refine (H.out _ ((Below.refl _ _).alloc (Nat.le_refl _) _) (by simp)).mono ?_
  rintro e w1 ⟨⟨b, u, ok, rfl, hf, ⟨⟨x, rfl⟩, rfl, hu⟩⟩, hb1⟩
  have hs1 := hb1.size
  simp at hs1
  have hu63 : Tryz.prog.underlying 63 = some (.slice 51) := by kernel_rfl
  obtain ⟨i51, hi, hz0, hz1, hz2⟩ := info_parts Tryz.info51
  obtain ⟨wm, hrun, hown, hgr⟩ := run_make_full (P := Tryz.prog) w1 w1.heap.size 63 51 i51 .nilIface 1 hu63 hi hz0 hz1 .i64 .i64 9 (by rw [hz2]; omega) (by unfold maxLen; omega) (Nat.le_refl _)
  have hmc : (madeCells Value.nilIface.cells (9 * 1)).toList = [.nilIface, .nilIface, .nilIface, .nilIface, .nilIface, .nilIface, .nilIface, .nilIface, .nilIface] := by kernel_rfl
  rw [hmc] at hown
  have hrun' : (Instr.makeSlice 63 (.int .i64 9) (.int .i64 9)).run Tryz.prog w1 = .ok (.slice (some ⟨w1.heap.size, 0, none⟩) 9 9) wm := hrun
  have hsm := (kept_of_grown_none hgr).size
  have HF0 := Lib.hid (hf.later ((kept_of_grown_none hgr).below (fun _ h => h.elim) (Nat.le_refl _)))
  have HB0 := Lib.hid ((kept_of_grown_none hgr).below (B := w1.heap.size) (fun _ h => h.elim) (Nat.le_refl _))
  have HO0 := Lib.hid hown
  have HBA := Lib.hid ((((Below.refl w.heap.size w).alloc (Nat.le_refl _) (.cells #[c0, c1, c2, c3, c4, c5, c6] 26))).trans (hb1.mono (by simp)))
  have HU := Lib.hid hu
  clear hu
  obtain ⟨mb, hmb⟩ : ∃ x, x = w1.heap.size := ⟨_, rfl⟩
  rw [← hmb] at hrun' HF0 HB0 HO0
  have hmb1 : mb ≤ w1.heap.size := by omega
  have hmb2 : w1.heap.size ≤ mb := by omega
  have hlt0 : mb < wm.heap.size := (HO0.out.lt mb rfl).2
  clear hmb hf hrun hown hgr hi hz0 hz1 hz2 hu63 hb1
  go_wp2_with fail
  refine (ent25_not wm mb b key _ _ (HF0.out) (.inr (.inr ⟨79, _, rfl, rfl, by decide⟩))).mono ?_
  rintro e v0 ⟨rfl, hk⟩
  have hl1 : mb < v0.heap.size := by have := hk.size; omega
  have HB1 := Lib.hid (HB0.out.trans (hk.below (fun _ h => h.elim) (by omega)))
  have HF1 := Lib.hid (HF0.out.later (hk.below (fun _ h => h.elim) (by omega)))
  have HO1 := Lib.hid (hk.own HO0.out (fun _ _ h => h))
  clear hk HB0 HF0 HO0
  go_wp2_with fail
  refine (ent26_not v0 mb b key _ _ (HF1.out) (.inr (.inr ⟨79, _, rfl, rfl, by decide⟩))).mono ?_
  rintro e v1 ⟨rfl, hk⟩
  have hl2 : mb < v1.heap.size := by have := hk.size; omega
  have HB2 := Lib.hid (HB1.out.trans (hk.below (fun _ h => h.elim) (by omega)))
  have HF2 := Lib.hid (HF1.out.later (hk.below (fun _ h => h.elim) (by omega)))
  have HO2 := Lib.hid (hk.own HO1.out (fun _ _ h => h))
  clear hk HB1 HF1 HO1
  go_wp2_with fail
  refine (ent27_not v1 mb b key _ _ (HF2.out) (.inr (.inr ⟨79, _, rfl, rfl, by decide⟩))).mono ?_
  rintro e v2 ⟨rfl, hk⟩
  have hl3 : mb < v2.heap.size := by have := hk.size; omega
  have HB3 := Lib.hid (HB2.out.trans (hk.below (fun _ h => h.elim) (by omega)))
  have HF3 := Lib.hid (HF2.out.later (hk.below (fun _ h => h.elim) (by omega)))
  have HO3 := Lib.hid (hk.own HO2.out (fun _ _ h => h))
  clear hk HB2 HF2 HO2
  go_wp2_with fail
  refine (ent28_not v2 mb b key _ _ (HF3.out) (.inr (.inr ⟨79, _, rfl, rfl, by decide⟩))).mono ?_
  rintro e v3 ⟨rfl, hk⟩
  have hl4 : mb < v3.heap.size := by have := hk.size; omega
  have HB4 := Lib.hid (HB3.out.trans (hk.below (fun _ h => h.elim) (by omega)))
  have HF4 := Lib.hid (HF3.out.later (hk.below (fun _ h => h.elim) (by omega)))
  have HO4 := Lib.hid (hk.own HO3.out (fun _ _ h => h))
  clear hk HB3 HF3 HO3
  go_wp2_with fail
  refine (ent29_not v3 mb b key _ _ (HF4.out) (.inr (.inr ⟨79, _, rfl, rfl, by decide⟩))).mono ?_
  rintro e v4 ⟨rfl, hk⟩
  have hl5 : mb < v4.heap.size := by have := hk.size; omega
  have HB5 := Lib.hid (HB4.out.trans (hk.below (fun _ h => h.elim) (by omega)))
  have HF5 := Lib.hid (HF4.out.later (hk.below (fun _ h => h.elim) (by omega)))
  have HO5 := Lib.hid (hk.own HO4.out (fun _ _ h => h))
  clear hk HB4 HF4 HO4
  go_wp2_with fail
  refine (ent30_is v4 mb b key x (HF5.out)).mono ?_
  rintro e v5 ⟨p, rfl, hk, hc⟩
  have hl6 : mb < v5.heap.size := by have := hk.size; omega
  have HB6 := Lib.hid (HB5.out.trans (hk.below (fun _ h => h.elim) (by omega)))
  have HF6 := Lib.hid (HF5.out.later (hk.below (fun _ h => h.elim) (by omega)))
  have HO6 := Lib.hid (hk.own HO5.out (fun _ _ h => h))
  have hm1 := nine HO6.out 5 (by omega)
  have hm2 := HO6.out.frozenAt 5
  clear hk HB5 HF5 HO5
  go_wp2_with fail
  have hst := HO6.out.stored 5 (.iface 79 (.string x))
  have hks : Kept (· = mb) v5 (v5.setCell ⟨mb, 5, none⟩ (.iface 79 (.string x))) := (Kept.refl _ v5).setCell _ _ (fun _ => rfl)
  generalize v5.setCell ⟨mb, 5, none⟩ (.iface 79 (.string x)) = s5 at hst hks ⊢
  have hl7 : mb < s5.heap.size := by have := hks.size; omega
  have HB7 := Lib.hid (HB6.out.trans (hks.below (fun k e => by have e' : k = mb := e; omega) (by omega)))
  have HF7 := Lib.hid (HF6.out.later (hks.below (fun k e => by have e' : k = mb := e; omega) (by omega)))
  have HO7 := Lib.hid hst.1
  clear hst hks HB6 HF6 HO6 hm1 hm2 hc
  refine (ent31_not s5 mb b key _ _ (HF7.out) (.inr (.inr ⟨79, _, rfl, rfl, by decide⟩))).mono ?_
  rintro e v6 ⟨rfl, hk⟩
  have hl8 : mb < v6.heap.size := by have := hk.size; omega
  have HB8 := Lib.hid (HB7.out.trans (hk.below (fun _ h => h.elim) (by omega)))
  have HF8 := Lib.hid (HF7.out.later (hk.below (fun _ h => h.elim) (by omega)))
  have HO8 := Lib.hid (hk.own HO7.out (fun _ _ h => h))
  clear hk HB7 HF7 HO7
  go_wp2_with fail
  refine (ent32_not v6 mb b key _ _ (HF8.out) (.inr (.inr ⟨79, _, rfl, rfl, by decide⟩))).mono ?_
  rintro e v7 ⟨rfl, hk⟩
  have hl9 : mb < v7.heap.size := by have := hk.size; omega
  have HB9 := Lib.hid (HB8.out.trans (hk.below (fun _ h => h.elim) (by omega)))
  have HF9 := Lib.hid (HF8.out.later (hk.below (fun _ h => h.elim) (by omega)))
  have HO9 := Lib.hid (hk.own HO8.out (fun _ _ h => h))
  clear hk HB8 HF8 HO8
  go_wp2_with fail
  refine (ent33_not v7 mb b key _ _ (HF9.out) (.inr (.inr ⟨79, _, rfl, rfl, by decide⟩))).mono ?_
  rintro e v8 ⟨rfl, hk⟩
  have hl10 : mb < v8.heap.size := by have := hk.size; omega
  have HB10 := Lib.hid (HB9.out.trans (hk.below (fun _ h => h.elim) (by omega)))
  have HF10 := Lib.hid (HF9.out.later (hk.below (fun _ h => h.elim) (by omega)))
  have HO10 := Lib.hid (hk.own HO9.out (fun _ _ h => h))
  clear hk HB9 HF9 HO9
  go_wp2_with fail
  refine (tells_any (m + 1) (tell_any (m + 1)) (some ⟨mb, 0, none⟩) 9 mb (fun j => List.getD _ j .nilIface) (fun _ k => k < mb) [nullOb, nullOb, nullOb, nullOb, nullOb, o, nullOb, nullOb, nullOb] (fun k => k < v8.heap.size) v8 (by simp) (fun _ => ⟨rfl, by omega⟩) (fun j k hk => by omega) (fun j hj => ⟨nine HO10.out j hj, ?_⟩) (fun k hk => hk) (fun o' ho' => ?_)).mono ?_
  · have hj9 : j < 9 := hj
    have hc : j = 0 ∨ j = 1 ∨ j = 2 ∨ j = 3 ∨ j = 4 ∨ j = 5 ∨ j = 6 ∨ j = 7 ∨ j = 8 := by omega
    have hp : PRep (m + 1) v8 (fun k => k < mb) (.iface 79 (.string x)) o := (HU.out.below (HB10.out.mono (by omega)) (fun k hk => hk)).mono (fun k hk => by omega)
    rcases hc with rfl | rfl | rfl | rfl | rfl | rfl | rfl | rfl | rfl <;> first | exact nullOb_prep m _ _ | exact hp
  · simp only [List.mem_cons, List.not_mem_nil, or_false] at ho'
    rcases ho' with h | h | h | h | h | h | h | h | h <;> rw [h] <;> first | exact nullOb_valid m | exact ho
  rintro e w9 ⟨⟨ra, rc, us, os', rfl, hl9, hrow, heq⟩, hb9⟩
  have HROW := Lib.hid hrow
  have HEQ := Lib.hid heq
  have HBZ := Lib.hid ((HBA.out.trans (HB10.out.mono (by omega))).trans (hb9.mono (by omega)))
  clear hrow heq hb9 HBA HB10
  go_wp2_with fail
  go_ret
  exact ⟨⟨ra, rc, us, os', _, rfl, hl9, HROW.out, HEQ.out⟩, HBZ.out⟩

set_option maxRecDepth 100000 in
set_option maxHeartbeats 4000000 in
theorem entries_arr (m : Nat) (c0 c1 c2 c3 c4 c5 c6 : Value) (o : Ob) (ho : Valid (m + 1) o) (key : ByteArray) (w : World) (h : Opened w (.agg #[c0, c1, c2, c3, c4, c5, c6]) key (fun w1 u ok => (∃ (xa : Addr) (xl xc : Nat), u = .iface 80 (.slice (some xa) xl xc)) ∧ ok = true ∧ PRep (m + 1) w1 (fun k => k < w1.heap.size) u o)) :
    Calls Tryz.prog 12 #[.agg #[c0, c1, c2, c3, c4, c5, c6], .string key] w fun e w' => Got (m + 1) w' [nullOb, nullOb, nullOb, nullOb, nullOb, nullOb, o, nullOb, nullOb] e ∧ Below w.heap.size w w' := by
  have H := Lib.hid h
  clear h
  have hq1 := neq61_nil
  have hq2 := neq61_some
  go_enter Tryz.func12, Tryz.ntmps12
  go_wp2_with fail
  refine (H.out _ ((Below.refl _ _).alloc (Nat.le_refl _) _) (by simp)).mono ?_
  rintro e w1 ⟨⟨b, u, ok, rfl, hf, ⟨⟨xa, xl, xc, rfl⟩, rfl, hu⟩⟩, hb1⟩
  have hs1 := hb1.size
  simp at hs1
  have hu63 : Tryz.prog.underlying 63 = some (.slice 51) := by kernel_rfl
  obtain ⟨i51, hi, hz0, hz1, hz2⟩ := info_parts Tryz.info51
  obtain ⟨wm, hrun, hown, hgr⟩ := run_make_full (P := Tryz.prog) w1 w1.heap.size 63 51 i51 .nilIface 1 hu63 hi hz0 hz1 .i64 .i64 9 (by rw [hz2]; omega) (by unfold maxLen; omega) (Nat.le_refl _)
  have hmc : (madeCells Value.nilIface.cells (9 * 1)).toList = [.nilIface, .nilIface, .nilIface, .nilIface, .nilIface, .nilIface, .nilIface, .nilIface, .nilIface] := by kernel_rfl
  rw [hmc] at hown
  have hrun' : (Instr.makeSlice 63 (.int .i64 9) (.int .i64 9)).run Tryz.prog w1 = .ok (.slice (some ⟨w1.heap.size, 0, none⟩) 9 9) wm := hrun
  have hsm := (kept_of_grown_none hgr).size
  have HF0 := Lib.hid (hf.later ((kept_of_grown_none hgr).below (fun _ h => h.elim) (Nat.le_refl _)))
  have HB0 := Lib.hid ((kept_of_grown_none hgr).below (B := w1.heap.size) (fun _ h => h.elim) (Nat.le_refl _))
  have HO0 := Lib.hid hown
  have HBA := Lib.hid ((((Below.refl w.heap.size w).alloc (Nat.le_refl _) (.cells #[c0, c1, c2, c3, c4, c5, c6] 26))).trans (hb1.mono (by simp)))
  have HU := Lib.hid hu
  clear hu
  obtain ⟨mb, hmb⟩ : ∃ x, x = w1.heap.size := ⟨_, rfl⟩
  rw [← hmb] at hrun' HF0 HB0 HO0
  have hmb1 : mb ≤ w1.heap.size := by omega
  have hmb2 : w1.heap.size ≤ mb := by omega
  have hlt0 : mb < wm.heap.size := (HO0.out.lt mb rfl).2
  clear hmb hf hrun hown hgr hi hz0 hz1 hz2 hu63 hb1
  go_wp2_with fail
  refine (ent25_not wm mb b key _ _ (HF0.out) (.inr (.inr ⟨80, _, rfl, rfl, by decide⟩))).mono ?_
  rintro e v0 ⟨rfl, hk⟩
  have hl1 : mb < v0.heap.size := by have := hk.size; omega
  have HB1 := Lib.hid (HB0.out.trans (hk.below (fun _ h => h.elim) (by omega)))
  have HF1 := Lib.hid (HF0.out.later (hk.below (fun _ h => h.elim) (by omega)))
  have HO1 := Lib.hid (hk.own HO0.out (fun _ _ h => h))
  clear hk HB0 HF0 HO0
  go_wp2_with fail
  refine (ent26_not v0 mb b key _ _ (HF1.out) (.inr (.inr ⟨80, _, rfl, rfl, by decide⟩))).mono ?_
  rintro e v1 ⟨rfl, hk⟩
  have hl2 : mb < v1.heap.size := by have := hk.size; omega
  have HB2 := Lib.hid (HB1.out.trans (hk.below (fun _ h => h.elim) (by omega)))
  have HF2 := Lib.hid (HF1.out.later (hk.below (fun _ h => h.elim) (by omega)))
  have HO2 := Lib.hid (hk.own HO1.out (fun _ _ h => h))
  clear hk HB1 HF1 HO1
  go_wp2_with fail
  refine (ent27_not v1 mb b key _ _ (HF2.out) (.inr (.inr ⟨80, _, rfl, rfl, by decide⟩))).mono ?_
  rintro e v2 ⟨rfl, hk⟩
  have hl3 : mb < v2.heap.size := by have := hk.size; omega
  have HB3 := Lib.hid (HB2.out.trans (hk.below (fun _ h => h.elim) (by omega)))
  have HF3 := Lib.hid (HF2.out.later (hk.below (fun _ h => h.elim) (by omega)))
  have HO3 := Lib.hid (hk.own HO2.out (fun _ _ h => h))
  clear hk HB2 HF2 HO2
  go_wp2_with fail
  refine (ent28_not v2 mb b key _ _ (HF3.out) (.inr (.inr ⟨80, _, rfl, rfl, by decide⟩))).mono ?_
  rintro e v3 ⟨rfl, hk⟩
  have hl4 : mb < v3.heap.size := by have := hk.size; omega
  have HB4 := Lib.hid (HB3.out.trans (hk.below (fun _ h => h.elim) (by omega)))
  have HF4 := Lib.hid (HF3.out.later (hk.below (fun _ h => h.elim) (by omega)))
  have HO4 := Lib.hid (hk.own HO3.out (fun _ _ h => h))
  clear hk HB3 HF3 HO3
  go_wp2_with fail
  refine (ent29_not v3 mb b key _ _ (HF4.out) (.inr (.inr ⟨80, _, rfl, rfl, by decide⟩))).mono ?_
  rintro e v4 ⟨rfl, hk⟩
  have hl5 : mb < v4.heap.size := by have := hk.size; omega
  have HB5 := Lib.hid (HB4.out.trans (hk.below (fun _ h => h.elim) (by omega)))
  have HF5 := Lib.hid (HF4.out.later (hk.below (fun _ h => h.elim) (by omega)))
  have HO5 := Lib.hid (hk.own HO4.out (fun _ _ h => h))
  clear hk HB4 HF4 HO4
  go_wp2_with fail
  refine (ent30_not v4 mb b key _ _ (HF5.out) (.inr (.inr ⟨80, _, rfl, rfl, by decide⟩))).mono ?_
  rintro e v5 ⟨rfl, hk⟩
  have hl6 : mb < v5.heap.size := by have := hk.size; omega
  have HB6 := Lib.hid (HB5.out.trans (hk.below (fun _ h => h.elim) (by omega)))
  have HF6 := Lib.hid (HF5.out.later (hk.below (fun _ h => h.elim) (by omega)))
  have HO6 := Lib.hid (hk.own HO5.out (fun _ _ h => h))
  clear hk HB5 HF5 HO5
  go_wp2_with fail
  refine (ent31_is v5 mb b key _ (HF6.out)).mono ?_
  rintro e v6 ⟨rfl, hk⟩
  have hl7 : mb < v6.heap.size := by have := hk.size; omega
  have HB7 := Lib.hid (HB6.out.trans (hk.below (fun _ h => h.elim) (by omega)))
  have HF7 := Lib.hid (HF6.out.later (hk.below (fun _ h => h.elim) (by omega)))
  have HO7 := Lib.hid (hk.own HO6.out (fun _ _ h => h))
  have hm1 := nine HO7.out 6 (by omega)
  have hm2 := HO7.out.frozenAt 6
  clear hk HB6 HF6 HO6
  go_wp2_with fail
  have hst := HO7.out.stored 6 (.iface 80 (.slice (some xa) xl xc))
  have hks : Kept (· = mb) v6 (v6.setCell ⟨mb, 6, none⟩ (.iface 80 (.slice (some xa) xl xc))) := (Kept.refl _ v6).setCell _ _ (fun _ => rfl)
  generalize v6.setCell ⟨mb, 6, none⟩ (.iface 80 (.slice (some xa) xl xc)) = s6 at hst hks ⊢
  have hl8 : mb < s6.heap.size := by have := hks.size; omega
  have HB8 := Lib.hid (HB7.out.trans (hks.below (fun k e => by have e' : k = mb := e; omega) (by omega)))
  have HF8 := Lib.hid (HF7.out.later (hks.below (fun k e => by have e' : k = mb := e; omega) (by omega)))
  have HO8 := Lib.hid hst.1
  clear hst hks HB7 HF7 HO7 hm1 hm2
  refine (ent32_not s6 mb b key _ _ (HF8.out) (.inr (.inr ⟨80, _, rfl, rfl, by decide⟩))).mono ?_
  rintro e v7 ⟨rfl, hk⟩
  have hl9 : mb < v7.heap.size := by have := hk.size; omega
  have HB9 := Lib.hid (HB8.out.trans (hk.below (fun _ h => h.elim) (by omega)))
  have HF9 := Lib.hid (HF8.out.later (hk.below (fun _ h => h.elim) (by omega)))
  have HO9 := Lib.hid (hk.own HO8.out (fun _ _ h => h))
  clear hk HB8 HF8 HO8
  go_wp2_with fail
  refine (ent33_not v7 mb b key _ _ (HF9.out) (.inr (.inr ⟨80, _, rfl, rfl, by decide⟩))).mono ?_
  rintro e v8 ⟨rfl, hk⟩
  have hl10 : mb < v8.heap.size := by have := hk.size; omega
  have HB10 := Lib.hid (HB9.out.trans (hk.below (fun _ h => h.elim) (by omega)))
  have HF10 := Lib.hid (HF9.out.later (hk.below (fun _ h => h.elim) (by omega)))
  have HO10 := Lib.hid (hk.own HO9.out (fun _ _ h => h))
  clear hk HB9 HF9 HO9
  go_wp2_with fail
  refine (tells_any (m + 1) (tell_any (m + 1)) (some ⟨mb, 0, none⟩) 9 mb (fun j => List.getD _ j .nilIface) (fun _ k => k < mb) [nullOb, nullOb, nullOb, nullOb, nullOb, nullOb, o, nullOb, nullOb] (fun k => k < v8.heap.size) v8 (by simp) (fun _ => ⟨rfl, by omega⟩) (fun j k hk => by omega) (fun j hj => ⟨nine HO10.out j hj, ?_⟩) (fun k hk => hk) (fun o' ho' => ?_)).mono ?_
  · have hj9 : j < 9 := hj
    have hc : j = 0 ∨ j = 1 ∨ j = 2 ∨ j = 3 ∨ j = 4 ∨ j = 5 ∨ j = 6 ∨ j = 7 ∨ j = 8 := by omega
    have hp : PRep (m + 1) v8 (fun k => k < mb) (.iface 80 (.slice (some xa) xl xc)) o := (HU.out.below (HB10.out.mono (by omega)) (fun k hk => hk)).mono (fun k hk => by omega)
    rcases hc with rfl | rfl | rfl | rfl | rfl | rfl | rfl | rfl | rfl <;> first | exact nullOb_prep m _ _ | exact hp
  · simp only [List.mem_cons, List.not_mem_nil, or_false] at ho'
    rcases ho' with h | h | h | h | h | h | h | h | h <;> rw [h] <;> first | exact nullOb_valid m | exact ho
  rintro e w9 ⟨⟨ra, rc, us, os', rfl, hl9, hrow, heq⟩, hb9⟩
  have HROW := Lib.hid hrow
  have HEQ := Lib.hid heq
  have HBZ := Lib.hid ((HBA.out.trans (HB10.out.mono (by omega))).trans (hb9.mono (by omega)))
  clear hrow heq hb9 HBA HB10
  go_wp2_with fail
  go_ret
  exact ⟨⟨ra, rc, us, os', _, rfl, hl9, HROW.out, HEQ.out⟩, HBZ.out⟩

set_option maxRecDepth 100000 in
set_option maxHeartbeats 4000000 in
theorem entries_dict (m : Nat) (c0 c1 c2 c3 c4 c5 c6 : Value) (o : Ob) (ho : Valid (m + 1) o) (key : ByteArray) (w : World) (h : Opened w (.agg #[c0, c1, c2, c3, c4, c5, c6]) key (fun w1 u ok => (∃ (xb : Nat), u = .iface 61 (.map (some xb))) ∧ ok = true ∧ PRep (m + 1) w1 (fun k => k < w1.heap.size) u o)) :
    Calls Tryz.prog 12 #[.agg #[c0, c1, c2, c3, c4, c5, c6], .string key] w fun e w' => Got (m + 1) w' [nullOb, nullOb, nullOb, nullOb, nullOb, nullOb, nullOb, o, nullOb] e ∧ Below w.heap.size w w' := by
  have H := Lib.hid h
  clear h
  have hq1 := neq61_nil
  have hq2 := neq61_some
  go_enter Tryz.func12, Tryz.ntmps12
  go_wp2_with fail
  refine (H.out _ ((Below.refl _ _).alloc (Nat.le_refl _) _) (by simp)).mono ?_
  rintro e w1 ⟨⟨b, u, ok, rfl, hf, ⟨⟨xb, rfl⟩, rfl, hu⟩⟩, hb1⟩
  have hs1 := hb1.size
  simp at hs1
  have hu63 : Tryz.prog.underlying 63 = some (.slice 51) := by kernel_rfl
  obtain ⟨i51, hi, hz0, hz1, hz2⟩ := info_parts Tryz.info51
  obtain ⟨wm, hrun, hown, hgr⟩ := run_make_full (P := Tryz.prog) w1 w1.heap.size 63 51 i51 .nilIface 1 hu63 hi hz0 hz1 .i64 .i64 9 (by rw [hz2]; omega) (by unfold maxLen; omega) (Nat.le_refl _)
  have hmc : (madeCells Value.nilIface.cells (9 * 1)).toList = [.nilIface, .nilIface, .nilIface, .nilIface, .nilIface, .nilIface, .nilIface, .nilIface, .nilIface] := by kernel_rfl
  rw [hmc] at hown
  have hrun' : (Instr.makeSlice 63 (.int .i64 9) (.int .i64 9)).run Tryz.prog w1 = .ok (.slice (some ⟨w1.heap.size, 0, none⟩) 9 9) wm := hrun
  have hsm := (kept_of_grown_none hgr).size
  have HF0 := Lib.hid (hf.later ((kept_of_grown_none hgr).below (fun _ h => h.elim) (Nat.le_refl _)))
  have HB0 := Lib.hid ((kept_of_grown_none hgr).below (B := w1.heap.size) (fun _ h => h.elim) (Nat.le_refl _))
  have HO0 := Lib.hid hown
  have HBA := Lib.hid ((((Below.refl w.heap.size w).alloc (Nat.le_refl _) (.cells #[c0, c1, c2, c3, c4, c5, c6] 26))).trans (hb1.mono (by simp)))
  have HU := Lib.hid hu
  clear hu
  obtain ⟨mb, hmb⟩ : ∃ x, x = w1.heap.size := ⟨_, rfl⟩
  rw [← hmb] at hrun' HF0 HB0 HO0
  have hmb1 : mb ≤ w1.heap.size := by omega
  have hmb2 : w1.heap.size ≤ mb := by omega
  have hlt0 : mb < wm.heap.size := (HO0.out.lt mb rfl).2
  clear hmb hf hrun hown hgr hi hz0 hz1 hz2 hu63 hb1
  go_wp2_with fail
  refine (ent25_not wm mb b key _ _ (HF0.out) (.inr (.inr ⟨61, _, rfl, rfl, by decide⟩))).mono ?_
  rintro e v0 ⟨rfl, hk⟩
  have hl1 : mb < v0.heap.size := by have := hk.size; omega
  have HB1 := Lib.hid (HB0.out.trans (hk.below (fun _ h => h.elim) (by omega)))
  have HF1 := Lib.hid (HF0.out.later (hk.below (fun _ h => h.elim) (by omega)))
  have HO1 := Lib.hid (hk.own HO0.out (fun _ _ h => h))
  clear hk HB0 HF0 HO0
  go_wp2_with fail
  refine (ent26_not v0 mb b key _ _ (HF1.out) (.inr (.inr ⟨61, _, rfl, rfl, by decide⟩))).mono ?_
  rintro e v1 ⟨rfl, hk⟩
  have hl2 : mb < v1.heap.size := by have := hk.size; omega
  have HB2 := Lib.hid (HB1.out.trans (hk.below (fun _ h => h.elim) (by omega)))
  have HF2 := Lib.hid (HF1.out.later (hk.below (fun _ h => h.elim) (by omega)))
  have HO2 := Lib.hid (hk.own HO1.out (fun _ _ h => h))
  clear hk HB1 HF1 HO1
  go_wp2_with fail
  refine (ent27_not v1 mb b key _ _ (HF2.out) (.inr (.inr ⟨61, _, rfl, rfl, by decide⟩))).mono ?_
  rintro e v2 ⟨rfl, hk⟩
  have hl3 : mb < v2.heap.size := by have := hk.size; omega
  have HB3 := Lib.hid (HB2.out.trans (hk.below (fun _ h => h.elim) (by omega)))
  have HF3 := Lib.hid (HF2.out.later (hk.below (fun _ h => h.elim) (by omega)))
  have HO3 := Lib.hid (hk.own HO2.out (fun _ _ h => h))
  clear hk HB2 HF2 HO2
  go_wp2_with fail
  refine (ent28_not v2 mb b key _ _ (HF3.out) (.inr (.inr ⟨61, _, rfl, rfl, by decide⟩))).mono ?_
  rintro e v3 ⟨rfl, hk⟩
  have hl4 : mb < v3.heap.size := by have := hk.size; omega
  have HB4 := Lib.hid (HB3.out.trans (hk.below (fun _ h => h.elim) (by omega)))
  have HF4 := Lib.hid (HF3.out.later (hk.below (fun _ h => h.elim) (by omega)))
  have HO4 := Lib.hid (hk.own HO3.out (fun _ _ h => h))
  clear hk HB3 HF3 HO3
  go_wp2_with fail
  refine (ent29_not v3 mb b key _ _ (HF4.out) (.inr (.inr ⟨61, _, rfl, rfl, by decide⟩))).mono ?_
  rintro e v4 ⟨rfl, hk⟩
  have hl5 : mb < v4.heap.size := by have := hk.size; omega
  have HB5 := Lib.hid (HB4.out.trans (hk.below (fun _ h => h.elim) (by omega)))
  have HF5 := Lib.hid (HF4.out.later (hk.below (fun _ h => h.elim) (by omega)))
  have HO5 := Lib.hid (hk.own HO4.out (fun _ _ h => h))
  clear hk HB4 HF4 HO4
  go_wp2_with fail
  refine (ent30_not v4 mb b key _ _ (HF5.out) (.inr (.inr ⟨61, _, rfl, rfl, by decide⟩))).mono ?_
  rintro e v5 ⟨rfl, hk⟩
  have hl6 : mb < v5.heap.size := by have := hk.size; omega
  have HB6 := Lib.hid (HB5.out.trans (hk.below (fun _ h => h.elim) (by omega)))
  have HF6 := Lib.hid (HF5.out.later (hk.below (fun _ h => h.elim) (by omega)))
  have HO6 := Lib.hid (hk.own HO5.out (fun _ _ h => h))
  clear hk HB5 HF5 HO5
  go_wp2_with fail
  refine (ent31_not v5 mb b key _ _ (HF6.out) (.inr (.inr ⟨61, _, rfl, rfl, by decide⟩))).mono ?_
  rintro e v6 ⟨rfl, hk⟩
  have hl7 : mb < v6.heap.size := by have := hk.size; omega
  have HB7 := Lib.hid (HB6.out.trans (hk.below (fun _ h => h.elim) (by omega)))
  have HF7 := Lib.hid (HF6.out.later (hk.below (fun _ h => h.elim) (by omega)))
  have HO7 := Lib.hid (hk.own HO6.out (fun _ _ h => h))
  clear hk HB6 HF6 HO6
  go_wp2_with fail
  refine (ent32_is v6 mb b key _ (HF7.out)).mono ?_
  rintro e v7 ⟨rfl, hk⟩
  have hl8 : mb < v7.heap.size := by have := hk.size; omega
  have HB8 := Lib.hid (HB7.out.trans (hk.below (fun _ h => h.elim) (by omega)))
  have HF8 := Lib.hid (HF7.out.later (hk.below (fun _ h => h.elim) (by omega)))
  have HO8 := Lib.hid (hk.own HO7.out (fun _ _ h => h))
  have hm1 := nine HO8.out 7 (by omega)
  have hm2 := HO8.out.frozenAt 7
  clear hk HB7 HF7 HO7
  go_wp2_with fail
  have hst := HO8.out.stored 7 (.iface 61 (.map (some xb)))
  have hks : Kept (· = mb) v7 (v7.setCell ⟨mb, 7, none⟩ (.iface 61 (.map (some xb)))) := (Kept.refl _ v7).setCell _ _ (fun _ => rfl)
  generalize v7.setCell ⟨mb, 7, none⟩ (.iface 61 (.map (some xb))) = s7 at hst hks ⊢
  have hl9 : mb < s7.heap.size := by have := hks.size; omega
  have HB9 := Lib.hid (HB8.out.trans (hks.below (fun k e => by have e' : k = mb := e; omega) (by omega)))
  have HF9 := Lib.hid (HF8.out.later (hks.below (fun k e => by have e' : k = mb := e; omega) (by omega)))
  have HO9 := Lib.hid hst.1
  clear hst hks HB8 HF8 HO8 hm1 hm2
  refine (ent33_not s7 mb b key _ _ (HF9.out) (.inr (.inr ⟨61, _, rfl, rfl, by decide⟩))).mono ?_
  rintro e v8 ⟨rfl, hk⟩
  have hl10 : mb < v8.heap.size := by have := hk.size; omega
  have HB10 := Lib.hid (HB9.out.trans (hk.below (fun _ h => h.elim) (by omega)))
  have HF10 := Lib.hid (HF9.out.later (hk.below (fun _ h => h.elim) (by omega)))
  have HO10 := Lib.hid (hk.own HO9.out (fun _ _ h => h))
  clear hk HB9 HF9 HO9
  go_wp2_with fail
  refine (tells_any (m + 1) (tell_any (m + 1)) (some ⟨mb, 0, none⟩) 9 mb (fun j => List.getD _ j .nilIface) (fun _ k => k < mb) [nullOb, nullOb, nullOb, nullOb, nullOb, nullOb, nullOb, o, nullOb] (fun k => k < v8.heap.size) v8 (by simp) (fun _ => ⟨rfl, by omega⟩) (fun j k hk => by omega) (fun j hj => ⟨nine HO10.out j hj, ?_⟩) (fun k hk => hk) (fun o' ho' => ?_)).mono ?_
  · have hj9 : j < 9 := hj
    have hc : j = 0 ∨ j = 1 ∨ j = 2 ∨ j = 3 ∨ j = 4 ∨ j = 5 ∨ j = 6 ∨ j = 7 ∨ j = 8 := by omega
    have hp : PRep (m + 1) v8 (fun k => k < mb) (.iface 61 (.map (some xb))) o := (HU.out.below (HB10.out.mono (by omega)) (fun k hk => hk)).mono (fun k hk => by omega)
    rcases hc with rfl | rfl | rfl | rfl | rfl | rfl | rfl | rfl | rfl <;> first | exact nullOb_prep m _ _ | exact hp
  · simp only [List.mem_cons, List.not_mem_nil, or_false] at ho'
    rcases ho' with h | h | h | h | h | h | h | h | h <;> rw [h] <;> first | exact nullOb_valid m | exact ho
  rintro e w9 ⟨⟨ra, rc, us, os', rfl, hl9, hrow, heq⟩, hb9⟩
  have HROW := Lib.hid hrow
  have HEQ := Lib.hid heq
  have HBZ := Lib.hid ((HBA.out.trans (HB10.out.mono (by omega))).trans (hb9.mono (by omega)))
  clear hrow heq hb9 HBA HB10
  go_wp2_with fail
  go_ret
  exact ⟨⟨ra, rc, us, os', _, rfl, hl9, HROW.out, HEQ.out⟩, HBZ.out⟩

set_option maxRecDepth 100000 in
set_option maxHeartbeats 4000000 in
theorem entries_ref (m : Nat) (c0 c1 c2 c3 c4 c5 c6 : Value) (o : Ob) (ho : Valid (m + 1) o) (key : ByteArray) (w : World) (h : Opened w (.agg #[c0, c1, c2, c3, c4, c5, c6]) key (fun w1 u ok => (∃ (x g : Int), u = .iface 86 (.agg #[.int .i64 x, .int .i64 g])) ∧ ok = true ∧ PRep (m + 1) w1 (fun k => k < w1.heap.size) u o)) :
    Calls Tryz.prog 12 #[.agg #[c0, c1, c2, c3, c4, c5, c6], .string key] w fun e w' => Got (m + 1) w' [nullOb, nullOb, nullOb, nullOb, nullOb, nullOb, nullOb, nullOb, o] e ∧ Below w.heap.size w w' := by
  have H := Lib.hid h
  clear h
  have hq1 := neq61_nil
  have hq2 := neq61_some
  go_enter Tryz.func12, Tryz.ntmps12
  go_wp2_with fail
  refine (H.out _ ((Below.refl _ _).alloc (Nat.le_refl _) _) (by simp)).mono ?_
  rintro e w1 ⟨⟨b, u, ok, rfl, hf, ⟨⟨x, g, rfl⟩, rfl, hu⟩⟩, hb1⟩
  have hs1 := hb1.size
  simp at hs1
  have hu63 : Tryz.prog.underlying 63 = some (.slice 51) := by kernel_rfl
  obtain ⟨i51, hi, hz0, hz1, hz2⟩ := info_parts Tryz.info51
  obtain ⟨wm, hrun, hown, hgr⟩ := run_make_full (P := Tryz.prog) w1 w1.heap.size 63 51 i51 .nilIface 1 hu63 hi hz0 hz1 .i64 .i64 9 (by rw [hz2]; omega) (by unfold maxLen; omega) (Nat.le_refl _)
  have hmc : (madeCells Value.nilIface.cells (9 * 1)).toList = [.nilIface, .nilIface, .nilIface, .nilIface, .nilIface, .nilIface, .nilIface, .nilIface, .nilIface] := by kernel_rfl
  rw [hmc] at hown
  have hrun' : (Instr.makeSlice 63 (.int .i64 9) (.int .i64 9)).run Tryz.prog w1 = .ok (.slice (some ⟨w1.heap.size, 0, none⟩) 9 9) wm := hrun
  have hsm := (kept_of_grown_none hgr).size
  have HF0 := Lib.hid (hf.later ((kept_of_grown_none hgr).below (fun _ h => h.elim) (Nat.le_refl _)))
  have HB0 := Lib.hid ((kept_of_grown_none hgr).below (B := w1.heap.size) (fun _ h => h.elim) (Nat.le_refl _))
  have HO0 := Lib.hid hown
  have HBA := Lib.hid ((((Below.refl w.heap.size w).alloc (Nat.le_refl _) (.cells #[c0, c1, c2, c3, c4, c5, c6] 26))).trans (hb1.mono (by simp)))
  have HU := Lib.hid hu
  clear hu
  obtain ⟨mb, hmb⟩ : ∃ x, x = w1.heap.size := ⟨_, rfl⟩
  rw [← hmb] at hrun' HF0 HB0 HO0
  have hmb1 : mb ≤ w1.heap.size := by omega
  have hmb2 : w1.heap.size ≤ mb := by omega
  have hlt0 : mb < wm.heap.size := (HO0.out.lt mb rfl).2
  clear hmb hf hrun hown hgr hi hz0 hz1 hz2 hu63 hb1
  go_wp2_with fail
  refine (ent25_not wm mb b key _ _ (HF0.out) (.inr (.inr ⟨86, _, rfl, rfl, by decide⟩))).mono ?_
  rintro e v0 ⟨rfl, hk⟩
  have hl1 : mb < v0.heap.size := by have := hk.size; omega
  have HB1 := Lib.hid (HB0.out.trans (hk.below (fun _ h => h.elim) (by omega)))
  have HF1 := Lib.hid (HF0.out.later (hk.below (fun _ h => h.elim) (by omega)))
  have HO1 := Lib.hid (hk.own HO0.out (fun _ _ h => h))
  clear hk HB0 HF0 HO0
  go_wp2_with fail
  refine (ent26_not v0 mb b key _ _ (HF1.out) (.inr (.inr ⟨86, _, rfl, rfl, by decide⟩))).mono ?_
  rintro e v1 ⟨rfl, hk⟩
  have hl2 : mb < v1.heap.size := by have := hk.size; omega
  have HB2 := Lib.hid (HB1.out.trans (hk.below (fun _ h => h.elim) (by omega)))
  have HF2 := Lib.hid (HF1.out.later (hk.below (fun _ h => h.elim) (by omega)))
  have HO2 := Lib.hid (hk.own HO1.out (fun _ _ h => h))
  clear hk HB1 HF1 HO1
  go_wp2_with fail
  refine (ent27_not v1 mb b key _ _ (HF2.out) (.inr (.inr ⟨86, _, rfl, rfl, by decide⟩))).mono ?_
  rintro e v2 ⟨rfl, hk⟩
  have hl3 : mb < v2.heap.size := by have := hk.size; omega
  have HB3 := Lib.hid (HB2.out.trans (hk.below (fun _ h => h.elim) (by omega)))
  have HF3 := Lib.hid (HF2.out.later (hk.below (fun _ h => h.elim) (by omega)))
  have HO3 := Lib.hid (hk.own HO2.out (fun _ _ h => h))
  clear hk HB2 HF2 HO2
  go_wp2_with fail
  refine (ent28_not v2 mb b key _ _ (HF3.out) (.inr (.inr ⟨86, _, rfl, rfl, by decide⟩))).mono ?_
  rintro e v3 ⟨rfl, hk⟩
  have hl4 : mb < v3.heap.size := by have := hk.size; omega
  have HB4 := Lib.hid (HB3.out.trans (hk.below (fun _ h => h.elim) (by omega)))
  have HF4 := Lib.hid (HF3.out.later (hk.below (fun _ h => h.elim) (by omega)))
  have HO4 := Lib.hid (hk.own HO3.out (fun _ _ h => h))
  clear hk HB3 HF3 HO3
  go_wp2_with fail
  refine (ent29_not v3 mb b key _ _ (HF4.out) (.inr (.inr ⟨86, _, rfl, rfl, by decide⟩))).mono ?_
  rintro e v4 ⟨rfl, hk⟩
  have hl5 : mb < v4.heap.size := by have := hk.size; omega
  have HB5 := Lib.hid (HB4.out.trans (hk.below (fun _ h => h.elim) (by omega)))
  have HF5 := Lib.hid (HF4.out.later (hk.below (fun _ h => h.elim) (by omega)))
  have HO5 := Lib.hid (hk.own HO4.out (fun _ _ h => h))
  clear hk HB4 HF4 HO4
  go_wp2_with fail
  refine (ent30_not v4 mb b key _ _ (HF5.out) (.inr (.inr ⟨86, _, rfl, rfl, by decide⟩))).mono ?_
  rintro e v5 ⟨rfl, hk⟩
  have hl6 : mb < v5.heap.size := by have := hk.size; omega
  have HB6 := Lib.hid (HB5.out.trans (hk.below (fun _ h => h.elim) (by omega)))
  have HF6 := Lib.hid (HF5.out.later (hk.below (fun _ h => h.elim) (by omega)))
  have HO6 := Lib.hid (hk.own HO5.out (fun _ _ h => h))
  clear hk HB5 HF5 HO5
  go_wp2_with fail
  refine (ent31_not v5 mb b key _ _ (HF6.out) (.inr (.inr ⟨86, _, rfl, rfl, by decide⟩))).mono ?_
  rintro e v6 ⟨rfl, hk⟩
  have hl7 : mb < v6.heap.size := by have := hk.size; omega
  have HB7 := Lib.hid (HB6.out.trans (hk.below (fun _ h => h.elim) (by omega)))
  have HF7 := Lib.hid (HF6.out.later (hk.below (fun _ h => h.elim) (by omega)))
  have HO7 := Lib.hid (hk.own HO6.out (fun _ _ h => h))
  clear hk HB6 HF6 HO6
  go_wp2_with fail
  refine (ent32_not v6 mb b key _ _ (HF7.out) (.inr (.inr ⟨86, _, rfl, rfl, by decide⟩))).mono ?_
  rintro e v7 ⟨rfl, hk⟩
  have hl8 : mb < v7.heap.size := by have := hk.size; omega
  have HB8 := Lib.hid (HB7.out.trans (hk.below (fun _ h => h.elim) (by omega)))
  have HF8 := Lib.hid (HF7.out.later (hk.below (fun _ h => h.elim) (by omega)))
  have HO8 := Lib.hid (hk.own HO7.out (fun _ _ h => h))
  clear hk HB7 HF7 HO7
  go_wp2_with fail
  refine (ent33_is v7 mb b key x g (HF8.out)).mono ?_
  rintro e v8 ⟨p, rfl, hk, hc, hd⟩
  have hl9 : mb < v8.heap.size := by have := hk.size; omega
  have HB9 := Lib.hid (HB8.out.trans (hk.below (fun _ h => h.elim) (by omega)))
  have HF9 := Lib.hid (HF8.out.later (hk.below (fun _ h => h.elim) (by omega)))
  have HO9 := Lib.hid (hk.own HO8.out (fun _ _ h => h))
  have hm1 := nine HO9.out 8 (by omega)
  have hm2 := HO9.out.frozenAt 8
  clear hk HB8 HF8 HO8
  go_wp2_with fail
  have hst := HO9.out.stored 8 (.iface 86 (.agg #[.int .i64 x, .int .i64 g]))
  have hks : Kept (· = mb) v8 (v8.setCell ⟨mb, 8, none⟩ (.iface 86 (.agg #[.int .i64 x, .int .i64 g]))) := (Kept.refl _ v8).setCell _ _ (fun _ => rfl)
  generalize v8.setCell ⟨mb, 8, none⟩ (.iface 86 (.agg #[.int .i64 x, .int .i64 g])) = s8 at hst hks ⊢
  have hl10 : mb < s8.heap.size := by have := hks.size; omega
  have HB10 := Lib.hid (HB9.out.trans (hks.below (fun k e => by have e' : k = mb := e; omega) (by omega)))
  have HF10 := Lib.hid (HF9.out.later (hks.below (fun k e => by have e' : k = mb := e; omega) (by omega)))
  have HO10 := Lib.hid hst.1
  clear hst hks HB9 HF9 HO9 hm1 hm2 hc hd
  refine (tells_any (m + 1) (tell_any (m + 1)) (some ⟨mb, 0, none⟩) 9 mb (fun j => List.getD _ j .nilIface) (fun _ k => k < mb) [nullOb, nullOb, nullOb, nullOb, nullOb, nullOb, nullOb, nullOb, o] (fun k => k < s8.heap.size) s8 (by simp) (fun _ => ⟨rfl, by omega⟩) (fun j k hk => by omega) (fun j hj => ⟨nine HO10.out j hj, ?_⟩) (fun k hk => hk) (fun o' ho' => ?_)).mono ?_
  · have hj9 : j < 9 := hj
    have hc : j = 0 ∨ j = 1 ∨ j = 2 ∨ j = 3 ∨ j = 4 ∨ j = 5 ∨ j = 6 ∨ j = 7 ∨ j = 8 := by omega
    have hp : PRep (m + 1) s8 (fun k => k < mb) (.iface 86 (.agg #[.int .i64 x, .int .i64 g])) o := (HU.out.below (HB10.out.mono (by omega)) (fun k hk => hk)).mono (fun k hk => by omega)
    rcases hc with rfl | rfl | rfl | rfl | rfl | rfl | rfl | rfl | rfl <;> first | exact nullOb_prep m _ _ | exact hp
  · simp only [List.mem_cons, List.not_mem_nil, or_false] at ho'
    rcases ho' with h | h | h | h | h | h | h | h | h <;> rw [h] <;> first | exact nullOb_valid m | exact ho
  rintro e w9 ⟨⟨ra, rc, us, os', rfl, hl9, hrow, heq⟩, hb9⟩
  have HROW := Lib.hid hrow
  have HEQ := Lib.hid heq
  have HBZ := Lib.hid ((HBA.out.trans (HB10.out.mono (by omega))).trans (hb9.mono (by omega)))
  clear hrow heq hb9 HBA HB10
  go_wp2_with fail
  go_ret
  exact ⟨⟨ra, rc, us, os', _, rfl, hl9, HROW.out, HEQ.out⟩, HBZ.out⟩

end Go.Proofs.YtcpijmbdibgdmaaGreatDoor
