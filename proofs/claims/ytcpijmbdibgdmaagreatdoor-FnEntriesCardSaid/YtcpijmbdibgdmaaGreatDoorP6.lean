/-
  internal/strconv's decimal in memory, and its small functions.
-/
import Derived.Test.YtcpijmbdibgdmaaGreatDoorP2
import Derived.Test.YtcpijmbdibgdmaaGreatDoorO4
namespace Go.Proofs.YtcpijmbdibgdmaaGreatDoor
open Go Go.RowKit

/-- A decimal lies in block `b`: its 800 places, how many are in use, where the point is, its two marks. -/
structure Dec (w : World) (b : Nat) (nd : Nat) (dp : Int) (ng tr : Bool) (ds : Nat → Nat) : Prop where
  dig : ∀ j, j < 800 → w.cell? ⟨b, j, none⟩ = some (.int .u8 (ds j))
  cnd : w.cell? ⟨b, 800, none⟩ = some (.int .i64 nd)
  cdp : w.cell? ⟨b, 801, none⟩ = some (.int .i64 dp)
  cng : w.cell? ⟨b, 802, none⟩ = some (.bool ng)
  ctr : w.cell? ⟨b, 803, none⟩ = some (.bool tr)
  fr : ∀ j, j < 804 → w.frozen? ⟨b, j, none⟩ = false

/-- Places in use hold digits. -/
def DOk (nd : Nat) (ds : Nat → Nat) : Prop := ∀ j, j < nd → 48 ≤ ds j ∧ ds j ≤ 57

def upd (ds : Nat → Nat) (i c : Nat) : Nat → Nat := fun j => if j = i then c else ds j

theorem upd_same (ds : Nat → Nat) (i c : Nat) : upd ds i c i = c := by simp [upd]
theorem upd_other (ds : Nat → Nat) {i j : Nat} (c : Nat) (h : j ≠ i) : upd ds i c j = ds j := by simp [upd, h]

variable {w w' : World} {b nd : Nat} {dp : Int} {ng tr : Bool} {ds : Nat → Nat}

theorem Dec.kept {S : Nat → Prop} (h : Dec w b nd dp ng tr ds) (hk : Kept S w w') (hn : ¬ S b) : Dec w' b nd dp ng tr ds := by
  have hlt : b < w.heap.size := World.block_lt_of_cell? _ _ h.cnd
  have hb := hk.block b hlt hn
  have hc : ∀ o, w'.cell? ⟨b, o, none⟩ = w.cell? ⟨b, o, none⟩ := fun o => World.cell?_of_block (w := w) (a := ⟨b, o, none⟩) hb
  have hf : ∀ o, w'.frozen? ⟨b, o, none⟩ = w.frozen? ⟨b, o, none⟩ := fun o => World.frozen?_of_block (w := w) (a := ⟨b, o, none⟩) hb
  exact ⟨fun j hj => (hc j).trans (h.dig j hj), (hc _).trans h.cnd, (hc _).trans h.cdp, (hc _).trans h.cng, (hc _).trans h.ctr, fun j hj => (hf j).trans (h.fr j hj)⟩

theorem Dec.lt (h : Dec w b nd dp ng tr ds) : b < w.heap.size := World.block_lt_of_cell? _ _ h.cnd

theorem Dec.drewN (h : Dec w b nd dp ng tr ds) (n : Nat) : Dec (w.drewN n) b nd dp ng tr ds := h.kept ((Kept.refl (fun _ => False) w).drewN n) (fun h => h)
theorem Dec.drew (h : Dec w b nd dp ng tr ds) : Dec w.drew b nd dp ng tr ds := h.kept ((Kept.refl (fun _ => False) w).drew) (fun h => h)
theorem Dec.alloc (h : Dec w b nd dp ng tr ds) (o : Obj) : Dec (w.alloc o) b nd dp ng tr ds := h.kept ((Kept.refl (fun _ => False) w).alloc o) (fun h => h)

theorem cell_set_ne (w : World) (b i j : Nat) (v : Value) (h : j ≠ i) : (w.setCell ⟨b, i, none⟩ v).cell? ⟨b, j, none⟩ = w.cell? ⟨b, j, none⟩ :=
  World.cell?_setCell_other _ _ _ _ (by intro e; injection e with _ e; exact h e.symm)

theorem Dec.setDig (h : Dec w b nd dp ng tr ds) (i c : Nat) (hi : i < 800) : Dec (w.setCell ⟨b, i, none⟩ (.int .u8 c)) b nd dp ng tr (upd ds i c) := by
  refine ⟨fun j hj => ?_, ?_, ?_, ?_, ?_, fun j hj => by rw [World.frozen?_setCell]; exact h.fr j hj⟩
  · by_cases e : j = i
    · subst e
      rw [upd_same, World.cell?_setCell_same _ _ _ (h.dig j hj)]
    · rw [upd_other ds c e, cell_set_ne _ _ _ _ _ e]
      exact h.dig j hj
  · rw [cell_set_ne _ _ _ _ _ (by omega)]; exact h.cnd
  · rw [cell_set_ne _ _ _ _ _ (by omega)]; exact h.cdp
  · rw [cell_set_ne _ _ _ _ _ (by omega)]; exact h.cng
  · rw [cell_set_ne _ _ _ _ _ (by omega)]; exact h.ctr

theorem Dec.setNd (h : Dec w b nd dp ng tr ds) (n : Nat) : Dec (w.setCell ⟨b, 800, none⟩ (.int .i64 n)) b n dp ng tr ds := by
  refine ⟨fun j hj => ?_, World.cell?_setCell_same _ _ _ h.cnd, ?_, ?_, ?_, fun j hj => by rw [World.frozen?_setCell]; exact h.fr j hj⟩
  · rw [cell_set_ne _ _ _ _ _ (by omega)]; exact h.dig j hj
  · rw [cell_set_ne _ _ _ _ _ (by omega)]; exact h.cdp
  · rw [cell_set_ne _ _ _ _ _ (by omega)]; exact h.cng
  · rw [cell_set_ne _ _ _ _ _ (by omega)]; exact h.ctr

theorem Dec.setDp (h : Dec w b nd dp ng tr ds) (n : Int) : Dec (w.setCell ⟨b, 801, none⟩ (.int .i64 n)) b nd n ng tr ds := by
  refine ⟨fun j hj => ?_, ?_, World.cell?_setCell_same _ _ _ h.cdp, ?_, ?_, fun j hj => by rw [World.frozen?_setCell]; exact h.fr j hj⟩
  · rw [cell_set_ne _ _ _ _ _ (by omega)]; exact h.dig j hj
  · rw [cell_set_ne _ _ _ _ _ (by omega)]; exact h.cnd
  · rw [cell_set_ne _ _ _ _ _ (by omega)]; exact h.cng
  · rw [cell_set_ne _ _ _ _ _ (by omega)]; exact h.ctr

theorem Dec.setNg (h : Dec w b nd dp ng tr ds) (n : Bool) : Dec (w.setCell ⟨b, 802, none⟩ (.bool n)) b nd dp n tr ds := by
  refine ⟨fun j hj => ?_, ?_, ?_, World.cell?_setCell_same _ _ _ h.cng, ?_, fun j hj => by rw [World.frozen?_setCell]; exact h.fr j hj⟩
  · rw [cell_set_ne _ _ _ _ _ (by omega)]; exact h.dig j hj
  · rw [cell_set_ne _ _ _ _ _ (by omega)]; exact h.cnd
  · rw [cell_set_ne _ _ _ _ _ (by omega)]; exact h.cdp
  · rw [cell_set_ne _ _ _ _ _ (by omega)]; exact h.ctr

theorem Dec.setTr (h : Dec w b nd dp ng tr ds) (n : Bool) : Dec (w.setCell ⟨b, 803, none⟩ (.bool n)) b nd dp ng n ds := by
  refine ⟨fun j hj => ?_, ?_, ?_, ?_, World.cell?_setCell_same _ _ _ h.ctr, fun j hj => by rw [World.frozen?_setCell]; exact h.fr j hj⟩
  · rw [cell_set_ne _ _ _ _ _ (by omega)]; exact h.dig j hj
  · rw [cell_set_ne _ _ _ _ _ (by omega)]; exact h.cnd
  · rw [cell_set_ne _ _ _ _ _ (by omega)]; exact h.cdp
  · rw [cell_set_ne _ _ _ _ _ (by omega)]; exact h.cng

/-- What stays of a decimal's block, where the decimal alone has turned. -/
theorem kept_cell (h : Kept (· = b) w w') (i : Nat) (v : Value) : Kept (· = b) w (w'.setCell ⟨b, i, none⟩ v) := h.setCell _ _ (fun _ => rfl)

set_option maxHeartbeats 1000000 in
/-- trim: zeros at the end are dropped. -/
theorem trim_any (w : World) (b nd : Nat) (dp : Int) (ng tr : Bool) (ds : Nat → Nat) (h : Dec w b nd dp ng tr ds) (hn : nd ≤ 800) :
    Calls Tryz.prog 146 #[.pointer (some ⟨b, 0, none⟩)] w fun e w' => e = .returned (.tuple #[]) ∧
      (∃ n : Nat, n ≤ nd ∧ Dec w' b n (if n = 0 then 0 else dp) ng tr ds ∧ (∀ j, n ≤ j → j < nd → ds j = 48) ∧ (0 < n → ds (n - 1) ≠ 48)) ∧ Kept (· = b) w w' := by
  go_enter Tryz.func146, Tryz.ntmps146
  have HD := Lib.hid h
  clear h
  go_wp2_with fail
  go_loopg [2] nd (fun gk _ wr => gk ≤ nd ∧ Dec wr b gk dp ng tr ds ∧ (∀ j, gk ≤ j → j < nd → ds j = 48) ∧ Kept (· = b) w wr)
  case atStart => exact ⟨Nat.le_refl _, HD.out, fun j h1 h2 => by omega, Kept.refl _ _⟩
  case round =>
    obtain ⟨hg, hd, h48, hk⟩ := hrel
    have c0 := hd.cnd
    have c1 := hd.cdp
    have f0 := hd.fr 800 (by omega)
    have f1 := hd.fr 801 (by omega)
    have HD1 := Lib.hid hd
    have HK := Lib.hid hk
    have H48 := Lib.hid h48
    clear hd hk h48
    cases gk with
    | zero =>
      go_wp2_with fail
      go_quiet (fail)
      go_wp2_with fail
      refine ⟨rfl, .tuple #[], by simp [results, Tryz.results146, go_sem], rfl, ⟨0, by omega, ?_, H48.out, by omega⟩, ?_⟩
      · simpa using (HD1.out.drewN _).setDp 0
      · exact (HK.out.drewN _).setCell ⟨b, 801, none⟩ _ (fun _ => rfl)
    | succ m =>
      have hc := HD1.out.dig m (by omega)
      rcases Bool.eq_false_or_eq_true ((ds m : Int) == 48) with e48 | e48
      · go_wp2_with fail
        go_quiet (fail)
        go_wp2_with fail
        go_roundg m
        case measure => omega
        case rel => exact ⟨by omega, (HD1.out.drewN _).setNd m, fun j h1 h2 => by
          by_cases e : j = m
          · subst e; have h48 : (ds j : Int) = 48 := by simpa using e48
            omega
          · exact H48.out j (by omega) h2, (HK.out.drewN _).setCell ⟨b, 800, none⟩ _ (fun _ => rfl)⟩
      · go_wp2_with fail
        go_quiet (fail)
        go_wp2_with fail
        refine ⟨rfl, .tuple #[], by simp [results, Tryz.results146, go_sem], rfl, ⟨m + 1, by omega, ?_, H48.out, fun _ => ?_⟩, HK.out.drewN _⟩
        · simpa using HD1.out.drewN _
        · have h48 : (ds m : Int) ≠ 48 := by simpa using e48
          show ds m ≠ 48
          omega

set_option maxHeartbeats 1000000 in
theorem shouldRoundUp_any (w : World) (b nd : Nat) (n dp : Int) (ng tr : Bool) (ds : Nat → Nat) (h : Dec w b nd dp ng tr ds) (hn : nd ≤ 800) :
    Calls Tryz.prog 149 #[.pointer (some ⟨b, 0, none⟩), .int .i64 n] w fun e w' => RetBool e ∧ w = w' := by
  have c0 := h.cnd
  have c3 := h.ctr
  have HD := Lib.hid h
  clear h
  go_enter Tryz.func149, Tryz.ntmps149
  rcases Bool.eq_false_or_eq_true (decide (n < 0)) with n0 | n0
  · go_wp2_with fail
    go_ret
    exact ⟨RetBool.mk _, rfl⟩
  · rcases Bool.eq_false_or_eq_true (decide ((nd : Int) ≤ n)) with n1 | n1
    · go_wp2_with fail
      go_ret
      exact ⟨RetBool.mk _, rfl⟩
    · have m0 : 0 ≤ n := by simpa using n0
      have m1 : n < nd := by simpa using n1
      obtain ⟨k, rfl⟩ : ∃ k : Nat, n = k := ⟨n.toNat, by omega⟩
      have hc := HD.out.dig k (by omega)
      rcases Bool.eq_false_or_eq_true ((ds k : Int) == 53) with e5 | e5
      · rcases Bool.eq_false_or_eq_true ((k : Int) + 1 == (nd : Int)) with e6 | e6
        · cases tr
          · cases k with
            | zero =>
              go_wp2_with fail
              go_ret
              exact ⟨RetBool.mk _, rfl⟩
            | succ k =>
              have hc' := HD.out.dig k (by omega)
              go_wp2_with fail
              go_ret
              exact ⟨RetBool.mk _, rfl⟩
          · go_wp2_with fail
            go_ret
            exact ⟨RetBool.mk _, rfl⟩
        · go_wp2_with fail
          go_ret
          exact ⟨RetBool.mk _, rfl⟩
      · go_wp2_with fail
        go_ret
        exact ⟨RetBool.mk _, rfl⟩

set_option maxHeartbeats 1000000 in
theorem roundDown_any (w : World) (b nd n : Nat) (dp : Int) (ng tr : Bool) (ds : Nat → Nat) (h : Dec w b nd dp ng tr ds) (hn : nd ≤ 800) (hlt : n < nd) :
    Calls Tryz.prog 151 #[.pointer (some ⟨b, 0, none⟩), .int .i64 n] w fun e w' => e = .returned (.tuple #[]) ∧
      (∃ m : Nat, m ≤ n ∧ Dec w' b m (if m = 0 then 0 else dp) ng tr ds) ∧ Kept (· = b) w w' := by
  have c0 := h.cnd
  have f0 := h.fr 800 (by omega)
  have HD := Lib.hid h
  clear h
  go_enter Tryz.func151, Tryz.ntmps151
  go_wp2_with fail
  refine (trim_any _ b n dp ng tr ds (HD.out.setNd n) (by omega)).mono ?_
  rintro e w1 ⟨rfl, ⟨m, hm, hd, h48, hne⟩, hk⟩
  go_wp2_with fail
  exact ⟨rfl, .tuple #[], by simp [results, Tryz.results151, go_sem], rfl, ⟨m, hm, hd⟩, ((Kept.refl (· = b) w).setCell ⟨b, 800, none⟩ _ (fun _ => rfl)).trans hk (fun _ _ h => h)⟩

set_option maxHeartbeats 1000000 in
theorem roundUp_any (w : World) (b nd n : Nat) (dp : Int) (ng tr : Bool) (ds : Nat → Nat) (h : Dec w b nd dp ng tr ds) (hok : DOk nd ds) (hn : nd ≤ 800) (hlt : n < nd) (hdp : -100000 ≤ dp ∧ dp ≤ 100000) :
    Calls Tryz.prog 150 #[.pointer (some ⟨b, 0, none⟩), .int .i64 n] w fun e w' => e = .returned (.tuple #[]) ∧
      (∃ (m : Nat) (dp' : Int) (ds' : Nat → Nat), m ≤ nd ∧ (dp' = dp ∨ dp' = dp + 1) ∧ Dec w' b m dp' ng tr ds' ∧ DOk m ds') ∧ Kept (· = b) w w' := by
  have c0 := h.cnd
  have c1 := h.cdp
  have d0 := h.dig 0 (by omega)
  have g0 := h.fr 0 (by omega)
  have f0 := h.fr 800 (by omega)
  have f1 := h.fr 801 (by omega)
  have HD := Lib.hid h
  have HOK := Lib.hid hok
  clear h hok
  go_enter Tryz.func150, Tryz.ntmps150
  go_wp2_with fail
  go_loopw [4] (fun i wr => ∃ m : Nat, m ≤ n ∧ i = .int .i64 ((m : Int) - 1) ∧ w = wr) (fun i _ => (intOf i + 1).toNat)
  case atStart => exact ⟨n, by omega, rfl, rfl⟩
  case round =>
    obtain ⟨m, hm, rfl, rfl⟩ := hrel
    cases m with
    | zero =>
      go_wp2_with fail
      refine ⟨rfl, .tuple #[], by simp [results, Tryz.results150, go_sem], rfl, ?_, ?_⟩
      · refine ⟨1, dp + 1, upd ds 0 49, by omega, .inr rfl, ?_, fun j hj => ?_⟩
        · simpa using ((HD.out.setDig 0 49 (by omega)).setNd 1).setDp (dp + 1)
        · obtain rfl : j = 0 := by omega
          rw [upd_same]
          omega
      · exact kept_cell (kept_cell (kept_cell (Kept.refl _ w) _ _) _ _) _ _
    | succ m =>
      have hc := HD.out.dig m (by omega)
      have hf := HD.out.fr m (by omega)
      have hok := HOK.out m (by omega)
      rcases Bool.eq_false_or_eq_true (decide ((ds m : Int) < 57)) with e57 | e57
      · go_wp2_with fail
        go_region
        go_wp2_with fail
        refine ⟨rfl, .tuple #[], by simp [results, Tryz.results150, go_sem], rfl, ?_, ?_⟩
        · refine ⟨m + 1, dp, upd ds m (ds m + 1), by omega, .inl rfl, ?_, fun j hj => ?_⟩
          · simpa using (((HD.out.setDig m (ds m + 1) (by omega)).setNd (m + 1))).drew
          · have h57 : (ds m : Int) < 57 := by simpa using e57
            by_cases e : j = m
            · subst e
              rw [upd_same]
              omega
            · rw [upd_other ds _ e]
              exact HOK.out j (by omega)
        · exact (kept_cell (kept_cell (Kept.refl _ w) _ _) _ _).drew
      · go_wp2_with fail
        go_roundw
        case rel => exact ⟨m, by omega, by go_num, by first | rfl | trivial⟩
        case measure => simp [intOf]

set_option maxHeartbeats 1000000 in
/-- Round: to `n` places. -/
theorem round_any (w : World) (b nd : Nat) (n dp : Int) (ng tr : Bool) (ds : Nat → Nat) (h : Dec w b nd dp ng tr ds) (hok : DOk nd ds) (hn : nd ≤ 800) (hdp : -100000 ≤ dp ∧ dp ≤ 100000) :
    Calls Tryz.prog 104 #[.pointer (some ⟨b, 0, none⟩), .int .i64 n] w fun e w' => e = .returned (.tuple #[]) ∧
      (∃ (m : Nat) (dp' : Int) (ds' : Nat → Nat), m ≤ nd ∧ (dp' = dp ∨ dp' = dp + 1 ∨ dp' = 0) ∧ Dec w' b m dp' ng tr ds' ∧ DOk m ds') ∧ Kept (· = b) w w' := by
  have c0 := h.cnd
  have HD := Lib.hid h
  have HOK := Lib.hid hok
  clear h hok
  go_enter Tryz.func104, Tryz.ntmps104
  rcases Bool.eq_false_or_eq_true (decide (n < 0)) with n0 | n0
  · go_wp2_with fail
    refine ⟨rfl, .tuple #[], by simp [results, Tryz.results104, go_sem], rfl, ⟨nd, dp, ds, Nat.le_refl _, .inl rfl, HD.out, HOK.out⟩, Kept.refl _ _⟩
  · rcases Bool.eq_false_or_eq_true (decide ((nd : Int) ≤ n)) with n1 | n1
    · go_wp2_with fail
      refine ⟨rfl, .tuple #[], by simp [results, Tryz.results104, go_sem], rfl, ⟨nd, dp, ds, Nat.le_refl _, .inl rfl, HD.out, HOK.out⟩, Kept.refl _ _⟩
    · have m0 : 0 ≤ n := by simpa using n0
      have m1 : n < nd := by simpa using n1
      obtain ⟨k, rfl⟩ : ∃ k : Nat, n = k := ⟨n.toNat, by omega⟩
      go_wp2_with fail
      refine (shouldRoundUp_any _ b nd k dp ng tr ds HD.out hn).mono ?_
      rintro e w1 ⟨⟨x, rfl⟩, rfl⟩
      cases x
      · go_wp2_with fail
        refine (roundDown_any _ b nd k dp ng tr ds HD.out hn (by omega)).mono ?_
        rintro e w2 ⟨rfl, ⟨m, hm, hd⟩, hk⟩
        go_wp2_with fail
        refine ⟨rfl, .tuple #[], by simp [results, Tryz.results104, go_sem], rfl, ⟨m, _, ds, by omega, ?_, hd, fun j hj => HOK.out j (by omega)⟩, hk⟩
        split
        · exact .inr (.inr rfl)
        · exact .inl rfl
      · go_wp2_with fail
        refine (roundUp_any _ b nd k dp ng tr ds HD.out HOK.out hn (by omega) hdp).mono ?_
        rintro e w2 ⟨rfl, ⟨m, dp', ds', hm, hdp', hd, hok'⟩, hk⟩
        go_wp2_with fail
        refine ⟨rfl, .tuple #[], by simp [results, Tryz.results104, go_sem], rfl, ⟨m, dp', ds', hm, ?_, hd, hok'⟩, hk⟩
        rcases hdp' with h | h
        · exact .inl h
        · exact .inr (.inl h)

end Go.Proofs.YtcpijmbdibgdmaaGreatDoor

/-
  internal/strconv's decimal: Assign.
-/
namespace Go.Proofs.YtcpijmbdibgdmaaGreatDoor
open Go Go.RowKit

/-- A buffer of 24 bytes. -/
structure Buf (w : World) (b : Nat) (bs : Nat → Nat) : Prop where
  cell : ∀ j, j < 24 → w.cell? ⟨b, j, none⟩ = some (.int .u8 (bs j))
  fr : ∀ j, j < 24 → w.frozen? ⟨b, j, none⟩ = false

theorem Buf.set {w : World} {b : Nat} {bs : Nat → Nat} (h : Buf w b bs) (i c : Nat) (_hi : i < 24) : Buf (w.setCell ⟨b, i, none⟩ (.int .u8 c)) b (upd bs i c) := by
  refine ⟨fun j hj => ?_, fun j hj => by rw [World.frozen?_setCell]; exact h.fr j hj⟩
  by_cases e : j = i
  · subst e
    rw [upd_same, World.cell?_setCell_same _ _ _ (h.cell j hj)]
  · rw [upd_other bs c e, cell_set_ne _ _ _ _ _ e]
    exact h.cell j hj

theorem Buf.kept {w w' : World} {b : Nat} {bs : Nat → Nat} {S : Nat → Prop} (h : Buf w b bs) (hk : Kept S w w') (hn : ¬ S b) : Buf w' b bs := by
  have hlt : b < w.heap.size := World.block_lt_of_cell? _ _ (h.cell 0 (by omega))
  have hb := hk.block b hlt hn
  exact ⟨fun j hj => (World.cell?_of_block (w := w) (a := ⟨b, j, none⟩) hb).trans (h.cell j hj), fun j hj => (World.frozen?_of_block (w := w) (a := ⟨b, j, none⟩) hb).trans (h.fr j hj)⟩

theorem Buf.new (w : World) (T : TypeId) : Buf (w.alloc (.cells (Array.replicate 24 (.int .u8 0)) T)) w.heap.size (fun _ => 0) := by
  have hb : Blk (w.alloc (.cells (Array.replicate 24 (.int .u8 0)) T)) w.heap.size (Array.replicate 24 (.int .u8 0)) T := Blk.new w _ T
  refine ⟨fun j hj => ?_, fun j hj => hb.frozen j⟩
  rw [hb.cell j, Array.getElem?_replicate, if_pos hj]
  rfl

set_option maxHeartbeats 2000000 in
theorem assign_any (w : World) (b v : Nat) (dp : Int) (ng tr : Bool) (ds : Nat → Nat) (nd : Nat) (h : Dec w b nd dp ng tr ds) (h1 : 1 ≤ v) (h2 : v < 10000000000000000) :
    Calls Tryz.prog 102 #[.pointer (some ⟨b, 0, none⟩), .int .u64 v] w fun e w' => e = .returned (.tuple #[]) ∧
      (∃ (m n : Nat) (ds' : Nat → Nat), 1 ≤ m ∧ m ≤ n ∧ n ≤ 16 ∧ Dec w' b m n ng tr ds' ∧ DOk m ds' ∧ 49 ≤ ds' 0) ∧ Kept (· = b) w w' := by
  have f0 := h.fr 800 (by omega)
  have f1 := h.fr 801 (by omega)
  have hlt := h.lt
  have HD := Lib.hid h
  clear h
  go_enter Tryz.func102, Tryz.ntmps102
  go_wp2_with fail
  go_loopw [1, 5, 6] (fun v' n' _ wr => ∃ (x t : Nat) (bs : Nat → Nat), v' = .int .u64 x ∧ n' = .int .i64 t ∧ x = v / 10 ^ t ∧ t ≤ 16 ∧ (1 ≤ x ∨ 1 ≤ t) ∧ (x = 0 → 49 ≤ bs (t - 1)) ∧ (∀ j, j < t → 48 ≤ bs j ∧ bs j ≤ 57) ∧ Buf wr w.heap.size bs ∧ Kept (fun _ => False) w wr) (fun v' _ _ _ => (intOf v').toNat)
  case atStart => exact ⟨v, 0, fun _ => 0, rfl, rfl, by simp, by omega, by omega, by omega, fun j hj => by omega, Buf.new w 181, (Kept.refl _ w).alloc _⟩
  case round =>
    obtain ⟨x, t, bs, rfl, rfl, hx, ht, hxt, hlast, hd, hb, hk⟩ := hrel
    have HX := Lib.hid hx
    have HDG := Lib.hid hd
    have HB := Lib.hid hb
    have HK := Lib.hid hk
    have HLS := Lib.hid hlast
    have hs := hk.size
    have HD1 := Lib.hid (HD.out.kept hk (fun h => h))
    clear hx hd hb hk hlast
    have c0' := HD1.out.cnd
    have c1' := HD1.out.cdp
    have f0' := HD1.out.fr 800 (by omega)
    have f1' := HD1.out.fr 801 (by omega)
    by_cases hpos : 0 < x
    · have ht' : t < 16 := by
        rcases Nat.lt_or_ge t 16 with h | h
        · exact h
        · exfalso
          have e : t = 16 := by omega
          have := HX.out
          rw [e, Nat.div_eq_of_lt (by simpa using h2)] at this
          omega
      have hx16 : x < 10000000000000000 := by
        have := HX.out
        have := Nat.div_le_self v (10 ^ t)
        omega
      have hc := HB.out.cell t (by omega)
      have hf := HB.out.fr t (by omega)
      go_wp2_with fail
      go_roundw
      case rel =>
        have hcst : ((x % 10 + 48 : Nat) : Int) = (x : Int) - 10 * ((x : Int) / 10) + 48 := by omega
        refine ⟨x / 10, t + 1, upd bs t (x % 10 + 48), by go_num, by go_num, ?_, by omega, by omega, ?_, ?_, ?_, ?_⟩
        · have := HX.out
          rw [Nat.pow_succ, ← Nat.div_div_eq_div_mul, ← this]
        · intro h0
          rw [Nat.add_sub_cancel, upd_same]
          omega
        · intro j hj
          by_cases e : j = t
          · subst e
            rw [upd_same]
            omega
          · rw [upd_other bs _ e]
            exact HDG.out j (by omega)
        · have := HB.out.set t (x % 10 + 48) (by omega)
          first | exact this | (rw [hcst] at this; exact this)
        · exact HK.out.setCell _ _ (fun h => by simp at h)
      case measure => simp [intOf]; omega
    · have hx0 : x = 0 := by omega
      have h49 := HLS.out hx0
      go_wp2_with fail
      go_loopw [5] (fun i wr2 => ∃ (q : Nat) (ds2 : Nat → Nat), q ≤ t ∧ i = .int .i64 ((t : Int) - 1 - q) ∧ Dec wr2 b q dp ng tr ds2 ∧ (∀ j, j < q → ds2 j = bs (t - 1 - j)) ∧ Buf wr2 w.heap.size bs ∧ Kept (· = b) w wr2) (fun i _ => (intOf i + 1).toNat)
      case atStart =>
        refine ⟨0, ds, by omega, by go_num, ?_, fun j hj => by omega, ?_, ?_⟩
        · exact HD1.out.setNd 0
        · exact HB.out.kept ((Kept.refl (· = b) wr).setCell ⟨b, 800, none⟩ _ (fun _ => rfl)) (by omega)
        · exact (HK.out.mono (fun _ _ h => h.elim)).setCell ⟨b, 800, none⟩ _ (fun _ => rfl)
      case round =>
        obtain ⟨q, ds2, hq, rfl, hd2, heq, hb2, hk2⟩ := hrel
        have HD2 := Lib.hid hd2
        have HB2 := Lib.hid hb2
        have HK2 := Lib.hid hk2
        have HEQ := Lib.hid heq
        have e0 := hd2.cnd
        have e1 := hd2.cdp
        have g0 := hd2.fr 800 (by omega)
        have g1 := hd2.fr 801 (by omega)
        clear hd2 hb2 hk2 heq
        by_cases hlt2 : q < t
        · have hcq := HD2.out.dig q (by omega)
          have hfq := HD2.out.fr q (by omega)
          have hbq := HB2.out.cell (t - 1 - q) (by omega)
          have hi1 : ((t : Int) - 1 - (q : Int)).toNat = t - 1 - q := by omega
          have hi0 : 0 ≤ (t : Int) - 1 - (q : Int) := by omega
          have hi2 : (t : Int) - 1 - (q : Int) < 24 := by omega
          go_wp2_with fail
          go_region
          go_wp2_with fail
          go_roundw
          case rel =>
            refine ⟨q + 1, upd ds2 q (bs (t - 1 - q)), by omega, by go_num, ?_, ?_, ?_, ?_⟩
            · exact (((HD2.out.setDig q (bs (t - 1 - q)) (by omega)).setNd (q + 1))).drew
            · intro j hj
              by_cases e : j = q
              · subst e
                rw [upd_same]
              · rw [upd_other ds2 _ e]
                exact HEQ.out j (by omega)
            · exact HB2.out.kept ((kept_cell (kept_cell (Kept.refl (· = b) wr) _ _) _ _).drew) (by omega)
            · exact (kept_cell (kept_cell HK2.out _ _) _ _).drew
          case measure => simp only [intOf]; omega
        · have hqt : q = t := by omega
          have HQT := Lib.hid hqt
          clear hqt
          go_wp2_with fail
          refine (trim_any _ b q q ng tr ds2 (HD2.out.setDp q) (by omega)).mono ?_
          rintro e w5 ⟨rfl, ⟨m, hm, hd5, h48, hne⟩, hk5⟩
          have hqt := HQT.out
          have hdq : ∀ j, j < q → 48 ≤ ds2 j ∧ ds2 j ≤ 57 := fun j hj => by rw [HEQ.out j hj]; exact HDG.out _ (by omega)
          have h0 : 49 ≤ ds2 0 := by
            rw [HEQ.out 0 (by omega)]
            exact h49
          have hm1 : 1 ≤ m := by
            rcases Nat.eq_zero_or_pos m with h | h
            · have := h48 0 (by omega) (by omega)
              omega
            · exact h
          go_wp2_with fail
          refine ⟨rfl, .tuple #[], by simp [results, Tryz.results102, go_sem], rfl, ⟨m, q, ds2, hm1, hm, by omega, ?_, fun j hj => hdq j (by omega), h0⟩, (kept_cell HK2.out _ _).trans hk5 (fun _ _ h => h)⟩
          rw [if_neg (by omega)] at hd5
          exact hd5

end Go.Proofs.YtcpijmbdibgdmaaGreatDoor
