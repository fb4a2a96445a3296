/-
  impl.calm round the closure that clones.
-/
import Derived.Test.YtcpijmbdibgdmaaGreatDoorD14
import Derived.Defers
import Derived.Recover
namespace Go.Proofs.YtcpijmbdibgdmaaGreatDoor
open Go Go.RowKit

theorem closure21 (n : Nat) (T : TypeId) (v : Value) (o : Ob) (S : Nat → Prop) (p q : Nat) (w : World) (h : PRep n w S (.iface T v) o) (hS : ∀ k, S k → k < w.heap.size) (hv : Valid n o)
    (hp : w.cell? ⟨p, 0, none⟩ = some (.iface T v)) (_hpw : p < w.heap.size) (hqw : q < w.heap.size) (hq : w.cell? ⟨q, 0, none⟩ = some .nilIface) (hqf : w.frozen? ⟨q, 0, none⟩ = false) :
    Calls Tryz.prog 21 #[.pointer (some ⟨p, 0, none⟩), .pointer (some ⟨q, 0, none⟩)] w fun e w' => e = .returned (.tuple #[]) ∧ Kept (· = q) w w' ∧ ∃ u, PRep n w' (fun k => w.heap.size ≤ k ∧ k < w'.heap.size) u o ∧ w'.cell? ⟨q, 0, none⟩ = some u := by
  have H := Lib.hid h
  have HS := Lib.hid hS
  have HV := Lib.hid hv
  have hdis := fun w => dispatch h.kind v w
  have hent := fun w => enter h.kind v w
  clear h hS hv
  go_enter Tryz.func21, Tryz.ntmps21
  go_wp2_with fail
  refine (clone_any n T v o S w H.out HS.out HV.out).mono ?_
  rintro e w1 ⟨⟨u, rfl, hu⟩, hb⟩
  have hs := hb.size
  have HU := Lib.hid hu
  have hq1 := (hb.cell (p := ⟨q, 0, none⟩) hqw).trans hq
  have hf1 : w1.frozen? ⟨q, 0, none⟩ = false := (World.frozen?_of_block (w := w) (a := ⟨q, 0, none⟩) (hb.block q hqw)).trans hqf
  have HB := Lib.hid (Kept.ofBelow (S := (· = q)) hb (fun k hk hle => by omega))
  have hif := hu.iface
  clear hu hb hdis hent
  rcases hif with rfl | ⟨T', x', rfl⟩
  all_goals
    go_wp2_with fail
    go_end0
    refine ⟨rfl, HB.out.setCell _ _ (fun _ => rfl), _, ?_, World.cell?_setCell_same _ _ _ hq1⟩
    exact (HU.out.kept ((Kept.refl (· = q) w1).setCell _ _ (fun _ => rfl)) (fun k hk => ⟨hk.2, fun e => by have e' : k = q := e; omega⟩)).mono (fun k hk => ⟨hk.1, by have := hk.2; simpa [World.setCell] using this⟩)

theorem calm_idle (p : Addr) (w : World) :
    CallsD Tryz.prog 49 #[.pointer (some p)] .returning w fun e u' w' => e = .returned (.tuple #[]) ∧ u' = .returning ∧ w' = w := by
  refine callsD_of_wpS Tryz.func49 rfl fun c₀ cs hu => ?_
  apply wpS_seq
  apply wpS_region
  simp [wpOpsS, go_sem, recoverD, hu, Tryz.ntmps49, Exit.thenS]
  refine wpS_cond (t := false) (by simp [Act.eval, Array.replicate]) ?_
  simp only [Bool.false_eq_true, if_false]
  refine wpS_of_wp (wp_skip ?_)
  cases c₀
  simp_all [bodyPostS, results, Tryz.results49]

theorem calm_any (n : Nat) (T : TypeId) (v : Value) (o : Ob) (S : Nat → Prop) (p q : Nat) (w : World) (h : PRep n w S (.iface T v) o) (hS : ∀ k, S k → k < w.heap.size) (hv : Valid n o)
    (hp : w.cell? ⟨p, 0, none⟩ = some (.iface T v)) (hpw : p < w.heap.size) (hqw : q < w.heap.size) (hq : w.cell? ⟨q, 0, none⟩ = some .nilIface) (hqf : w.frozen? ⟨q, 0, none⟩ = false) :
    Calls Tryz.prog 20 #[.func (.func 21) #[] #[.pointer (some ⟨p, 0, none⟩), .pointer (some ⟨q, 0, none⟩)]] w fun e w' => e = .returned (.bool true) ∧ Kept (· = q) w w' ∧ ∃ u, PRep n w' (fun k => w.heap.size ≤ k ∧ k < w'.heap.size) u o ∧ w'.cell? ⟨q, 0, none⟩ = some u := by
  have H := Lib.hid h
  have HS := Lib.hid hS
  have HV := Lib.hid hv
  clear h hS hv
  have hmf : ∀ (fn : Fn) (first cap : Array Value) (w : World), (Instr.makeFunc fn first cap).run Tryz.prog w = .ok (.func fn first cap) w := fun _ _ _ _ => rfl
  go_enter_defers Tryz.func20, Tryz.ntmps20
  go_wp2_with fail
  have hka : Kept (fun _ => False) w (w.alloc (.cells #[.bool false] 4)) := (Kept.refl _ w).alloc _
  have hsa : (w.alloc (.cells #[.bool false] 4)).heap.size = w.heap.size + 1 := by simp
  have hra : (w.alloc (.cells #[.bool false] 4)).cell? ⟨w.heap.size, 0, none⟩ = some (.bool false) := by go_simp
  have hrf : (w.alloc (.cells #[.bool false] 4)).frozen? ⟨w.heap.size, 0, none⟩ = false := by go_simp
  refine (closure21 n T v o S p q _ (H.out.kept hka (fun k hk => ⟨HS.out k hk, fun h => h⟩)) (fun k hk => by have := HS.out k hk; omega) HV.out ((hka.cell (p := ⟨p, 0, none⟩) hpw (fun h => h)).trans hp) (by omega) (by omega)
    ((hka.cell (p := ⟨q, 0, none⟩) hqw (fun h => h)).trans hq) ((hka.frozen (p := ⟨q, 0, none⟩) hqw (fun h => h)).trans hqf)).mono ?_
  rintro e w1 ⟨rfl, hk1, u, hu, hcu⟩
  have hs1 := hk1.size
  have hr1 : w1.cell? ⟨w.heap.size, 0, none⟩ = some (.bool false) := (hk1.cell (p := ⟨w.heap.size, 0, none⟩) (show w.heap.size < _ by omega) (fun e => by have e' : w.heap.size = q := e; omega)).trans hra
  have hr2 : w1.frozen? ⟨w.heap.size, 0, none⟩ = false := (hk1.frozen (p := ⟨w.heap.size, 0, none⟩) (show w.heap.size < _ by omega) (fun e => by have e' : w.heap.size = q := e; omega)).trans hrf
  rw [hsa] at hu hs1
  have HKA := Lib.hid (hka.mono (S' := (· = q)) (fun _ _ h => h.elim))
  have HK1 := Lib.hid hk1
  have HU := Lib.hid hu
  have HC := Lib.hid hcu
  clear hk1 hu hcu hka hsa hra hrf
  go_wp2_with fail
  refine leaves_cons (f := 49) (args := #[.pointer (some ⟨w.heap.size, 0, none⟩)]) (by simp) (by simp [go_sem]) ?_
  refine (calm_idle ⟨w.heap.size, 0, none⟩ _).mono ?_
  rintro e u' w'' ⟨rfl, rfl, rfl⟩
  have hk2 : Kept (· = w.heap.size) w1 (w1.setCell ⟨w.heap.size, 0, none⟩ (.bool true)) := (Kept.refl _ w1).setCell _ _ (fun _ => rfl)
  have hfin := World.cell?_setCell_same w1 ⟨w.heap.size, 0, none⟩ (.bool true) hr1
  simp [Leaves, settle, results, Tryz.results20, go_sem, hfin]
  refine ⟨(HKA.out.trans HK1.out (fun _ _ h => h)).trans hk2 (fun k hk e => by have e' : k = w.heap.size := e; omega), u, ?_, ?_⟩
  · exact (HU.out.kept hk2 (fun k hk => ⟨hk.2, fun e => by have e' : k = w.heap.size := e; omega⟩)).mono (fun k hk => ⟨by omega, by have := hk2.size; omega⟩)
  · exact HC.out

end Go.Proofs.YtcpijmbdibgdmaaGreatDoor

/-
  impl.Clone.
-/
namespace Go.Proofs.YtcpijmbdibgdmaaGreatDoor
open Go Go.RowKit

def kindOf : Ob → Int
  | .mk k _ _ _ _ _ _ => k

theorem PRep.some {n : Nat} {w : World} {S : Nat → Prop} {v : Value} {o : Ob} (h : PRep n w S v o) (hk : kindOf o ≠ 0) : ∃ T x, v = .iface T x := by
  rcases h.iface with rfl | h'
  · exfalso
    cases n with
    | zero => exact h.elim
    | succ n =>
      obtain ⟨k, i, g, r, t, ks, os⟩ := o
      rcases h.2 with h | ⟨_, a, cap, b, us, F, hv, _⟩ | ⟨_, b, nb, us, F, hv, _⟩
      · rcases h with ⟨h, _⟩ | ⟨_, x, h, _⟩ | ⟨_, h⟩ | ⟨_, h⟩ | ⟨_, h⟩ | ⟨_, h⟩ | ⟨_, h⟩ | ⟨_, h⟩
        · exact hk h
        all_goals cases h
      · cases hv
      · cases hv
  · exact h'

/-- A variable that holds an object: its block. -/
def Box7 (w : World) (b : Nat) (c0 c1 c2 c3 c4 c5 c6 : Value) : Prop := w.heap[b]? = some (.cells #[c0, c1, c2, c3, c4, c5, c6] 26)

theorem Box7.kept {w w' : World} {b : Nat} {c0 c1 c2 c3 c4 c5 c6 : Value} {T : Nat → Prop} (h : Box7 w b c0 c1 c2 c3 c4 c5 c6) (hk : Kept T w w') (hT : ¬ T b) : Box7 w' b c0 c1 c2 c3 c4 c5 c6 :=
  (hk.block b (Array.getElem?_eq_some_iff.1 h).1 hT).trans h

theorem Box7.cells {w : World} {b : Nat} {c0 c1 c2 c3 c4 c5 c6 : Value} (h : Box7 w b c0 c1 c2 c3 c4 c5 c6) : Cells7 w b 0 c0 c1 c2 c3 c4 c5 c6 := by
  unfold Box7 at h
  refine ⟨?_, ?_, ?_, ?_, ?_, ?_, ?_⟩ <;> simp [World.cell?, h]

theorem Box7.at {w : World} {b : Nat} {c0 c1 c2 c3 c4 c5 c6 : Value} (h : Box7 w b c0 c1 c2 c3 c4 c5 c6) : w.cell? ⟨b, 0, none⟩ = some c0 ∧ w.cell? ⟨b, 1, none⟩ = some c1 ∧ w.cell? ⟨b, 2, none⟩ = some c2 ∧ w.cell? ⟨b, 3, none⟩ = some c3 ∧ w.cell? ⟨b, 4, none⟩ = some c4 ∧ w.cell? ⟨b, 5, none⟩ = some c5 ∧ w.cell? ⟨b, 6, none⟩ = some c6 := by
  have := h.cells
  simpa [Cells7] using this

theorem box_step {w : World} {b : Nat} {cs : Array Value} (h : w.heap[b]? = some (.cells cs 26)) (i : Nat) (v : Value) : (w.setCell ⟨b, i, none⟩ v).heap[b]? = some (.cells (cs.setIfInBounds i v) 26) :=
  heap_setCell_same w b i cs 26 v h

/-- All seven cells stored. -/
def put7 (w : World) (b : Nat) (c0 c1 c2 c3 c4 c5 c6 : Value) : World :=
  ((((((w.setCell ⟨b, 0, none⟩ c0).setCell ⟨b, 1, none⟩ c1).setCell ⟨b, 2, none⟩ c2).setCell ⟨b, 3, none⟩ c3).setCell ⟨b, 4, none⟩ c4).setCell ⟨b, 5, none⟩ c5).setCell ⟨b, 6, none⟩ c6

theorem Box7.stored {w : World} {b : Nat} {c0 c1 c2 c3 c4 c5 c6 : Value} (h : Box7 w b c0 c1 c2 c3 c4 c5 c6) (d0 d1 d2 d3 d4 d5 d6 : Value) : Box7 (put7 w b d0 d1 d2 d3 d4 d5 d6) b d0 d1 d2 d3 d4 d5 d6 ∧ Kept (· = b) w (put7 w b d0 d1 d2 d3 d4 d5 d6) := by
  have h' := box_step (box_step (box_step (box_step (box_step (box_step (box_step h 0 d0) 1 d1) 2 d2) 3 d3) 4 d4) 5 d5) 6 d6
  refine ⟨?_, ?_⟩
  · unfold Box7 put7
    simpa using h'
  · unfold put7
    have hst : ∀ (w : World) (i : Nat) (v : Value), Kept (· = b) w (w.setCell ⟨b, i, none⟩ v) := fun w i v => (Kept.refl (· = b) w).setCell ⟨b, i, none⟩ v (fun _ => rfl)
    have htr : ∀ {x y z : World}, Kept (· = b) x y → Kept (· = b) y z → Kept (· = b) x z := fun h1 h2 => h1.trans h2 (fun _ _ h => h)
    exact htr (htr (htr (htr (htr (htr (hst _ _ _) (hst _ _ _)) (hst _ _ _)) (hst _ _ _)) (hst _ _ _)) (hst _ _ _)) (hst _ _ _)

theorem Box7.frozen {w : World} {b : Nat} {c0 c1 c2 c3 c4 c5 c6 : Value} (h : Box7 w b c0 c1 c2 c3 c4 c5 c6) (o : Nat) : w.frozen? ⟨b, o, none⟩ = false := by
  unfold Box7 at h
  simp [World.frozen?, h]

theorem Box7.drew {w : World} {b : Nat} {c0 c1 c2 c3 c4 c5 c6 : Value} (h : Box7 w b c0 c1 c2 c3 c4 c5 c6) : Box7 w.drew b c0 c1 c2 c3 c4 c5 c6 := h

theorem Box7.lt {w : World} {b : Nat} {c0 c1 c2 c3 c4 c5 c6 : Value} (h : Box7 w b c0 c1 c2 c3 c4 c5 c6) : b < w.heap.size := (Array.getElem?_eq_some_iff.1 h).1

theorem Box7.made (w : World) (c0 c1 c2 c3 c4 c5 c6 : Value) : Box7 (w.alloc (.cells #[c0, c1, c2, c3, c4, c5, c6] 26)) w.heap.size c0 c1 c2 c3 c4 c5 c6 := by
  show (w.heap.push _)[w.heap.size]? = _
  simp

/-- Three variables more, of which two hold nothing yet. -/
theorem three (w : World) (o : Obj) (c0 c1 c2 c3 c4 c5 c6 : Value) : Kept (fun _ => False) w (((w.alloc o).alloc (.cells #[c0, c1, c2, c3, c4, c5, c6] 26)).alloc (.cells #[c0, c1, c2, c3, c4, c5, c6] 26)) ∧
    (((w.alloc o).alloc (.cells #[c0, c1, c2, c3, c4, c5, c6] 26)).alloc (.cells #[c0, c1, c2, c3, c4, c5, c6] 26)).heap.size = w.heap.size + 3 ∧
    Box7 (((w.alloc o).alloc (.cells #[c0, c1, c2, c3, c4, c5, c6] 26)).alloc (.cells #[c0, c1, c2, c3, c4, c5, c6] 26)) (w.heap.size + 1) c0 c1 c2 c3 c4 c5 c6 ∧
    Box7 (((w.alloc o).alloc (.cells #[c0, c1, c2, c3, c4, c5, c6] 26)).alloc (.cells #[c0, c1, c2, c3, c4, c5, c6] 26)) (w.heap.size + 1 + 1) c0 c1 c2 c3 c4 c5 c6 := by
  have e1 : (w.alloc o).heap.size = w.heap.size + 1 := by simp
  have h1 := Box7.made (w.alloc o) c0 c1 c2 c3 c4 c5 c6
  have e2 : ((w.alloc o).alloc (.cells #[c0, c1, c2, c3, c4, c5, c6] 26)).heap.size = w.heap.size + 1 + 1 := by simp
  have h2 := Box7.made ((w.alloc o).alloc (.cells #[c0, c1, c2, c3, c4, c5, c6] 26)) c0 c1 c2 c3 c4 c5 c6
  rw [e1] at h1
  rw [e2] at h2
  exact ⟨(((Kept.refl _ w).alloc _).alloc _).alloc _, by simp, h1.kept ((Kept.refl (fun _ => False) _).alloc _) (fun h => h), h2⟩

/-- Two variables more. -/
theorem two51 (w : World) (u v : Value) : Kept (fun _ => False) w ((w.alloc (.cells #[u] 51)).alloc (.cells #[v] 51)) ∧ ((w.alloc (.cells #[u] 51)).alloc (.cells #[v] 51)).heap.size = w.heap.size + 2 ∧
    ((w.alloc (.cells #[u] 51)).alloc (.cells #[v] 51)).cell? ⟨w.heap.size, 0, none⟩ = some u ∧ ((w.alloc (.cells #[u] 51)).alloc (.cells #[v] 51)).cell? ⟨w.heap.size + 1, 0, none⟩ = some v ∧
    ((w.alloc (.cells #[u] 51)).alloc (.cells #[v] 51)).frozen? ⟨w.heap.size + 1, 0, none⟩ = false :=
  ⟨((Kept.refl _ w).alloc _).alloc _, by simp, by go_simp, by go_simp, by go_simp⟩

set_option maxRecDepth 100000 in
set_option maxHeartbeats 4000000 in
theorem clone8_any (n : Nat) (v : Value) (o : Ob) (S : Nat → Prop) (w : World) (h : Rep n w S v o) (hS : ∀ k, S k → k < w.heap.size) (hv : Valid n o) (hk : kindOf o ≠ 0) :
    Calls Tryz.prog 8 #[v] w fun e w' => (∃ u1 u2 o1 o2, e = .returned (.tuple #[u1, u2, .bool true]) ∧ Rep n w' (fun k => w.heap.size ≤ k ∧ k < w'.heap.size) u1 o1 ∧ Rep n w' (fun k => w.heap.size ≤ k ∧ k < w'.heap.size) u2 o2 ∧ EqN n o1 o ∧ EqN n o2 o) ∧ Below w.heap.size w w' := by
  have HS := Lib.hid hS
  have HV := Lib.hid hv
  have HKK := Lib.hid hk
  obtain ⟨k0, k1, k2, k3, k4, ka, ca, kl, kc, cl, cc, rfl⟩ := h.form
  have H := Lib.hid h
  clear h hS hv hk
  have hsf := @store_float Tryz.prog
  go_enter Tryz.func8, Tryz.ntmps8
  go_wp2_with fail
  obtain ⟨hk3, hs3, hx1, hx2⟩ := three w (.cells #[.int .i64 k0, .int .i64 k1, .int .i64 k2, .float .f64 k3, .string k4, .slice ka kl kc, .slice ca cl cc] 26) (.int .i64 0) (.int .i64 0) (.int .i64 0) (.float .f64 0) (.string { data := #[] }) (.slice none 0 0) (.slice none 0 0)
  generalize ((w.alloc (.cells #[.int .i64 k0, .int .i64 k1, .int .i64 k2, .float .f64 k3, .string k4, .slice ka kl kc, .slice ca cl cc] 26)).alloc (.cells #[.int .i64 0, .int .i64 0, .int .i64 0, .float .f64 0, .string { data := #[] }, .slice none 0 0, .slice none 0 0] 26)).alloc (.cells #[.int .i64 0, .int .i64 0, .int .i64 0, .float .f64 0, .string { data := #[] }, .slice none 0 0, .slice none 0 0] 26) = w3 at *
  obtain ⟨b1, hb1⟩ : ∃ x, x = w.heap.size + 1 := ⟨_, rfl⟩
  rw [← hb1] at hx1 hx2 ⊢
  obtain ⟨b2, hb2⟩ : ∃ x, x = b1 + 1 := ⟨_, rfl⟩
  rw [← hb2] at hx2 ⊢
  refine (object_any n _ o S _ (H.out.same (fun k hk => ⟨hk3.block k (HS.out k hk) (fun h => h), hk⟩)) (fun k hk => by have := HS.out k hk; omega) HV.out).mono ?_
  rintro e w4 ⟨⟨u, rfl, hu⟩, hb4⟩
  have hs4 := hb4.size
  obtain ⟨T, x, rfl⟩ := hu.some HKK.out
  have HU := Lib.hid hu
  have HK4 := Lib.hid (hk3.trans (Kept.ofBelow (S := fun _ => False) hb4 (fun k hk hle => by omega)) (fun _ _ h => h))
  have hk34 : Kept (fun _ => False) w3 w4 := Kept.ofBelow (S := fun _ => False) hb4 (fun k hk hle => by omega)
  have HX1 := Lib.hid (hx1.kept hk34 (fun h => h))
  have HX2 := Lib.hid (hx2.kept hk34 (fun h => h))
  have hz1 : w.heap.size + 1 ≤ b1 := by omega
  have hz2 : b1 ≤ w.heap.size + 1 := by omega
  have hz3 : b1 + 1 ≤ b2 := by omega
  have hz4 : b2 ≤ b1 + 1 := by omega
  have hz5 : w.heap.size + 3 ≤ w4.heap.size := by omega
  have hz6 : w.heap.size + 3 ≤ w3.heap.size := by omega
  clear hk3 hx1 hx2 hu hb4 hk34 hb1 hb2 hs3
  go_wp2_with fail
  obtain ⟨hk5, hs5, hp5, hq5, hf5⟩ := two51 w4 (.iface T x) .nilIface
  generalize (w4.alloc (.cells #[.iface T x] 51)).alloc (.cells #[.nilIface] 51) = w5 at *
  obtain ⟨q, hq⟩ : ∃ q, q = w4.heap.size + 1 := ⟨_, rfl⟩
  rw [← hq] at hq5 hf5 ⊢
  obtain ⟨p, hp⟩ : ∃ p, p = w4.heap.size := ⟨_, rfl⟩
  rw [← hp] at hp5 ⊢
  refine (calm_any n T x o _ p q _ (HU.out.same (S' := fun k => w3.heap.size ≤ k ∧ k < w4.heap.size) (fun k hk => ⟨hk5.block k (by omega) (fun h => h), hk⟩)) (fun k hk => by omega) HV.out hp5 (by omega) (by omega) hq5 hf5).mono ?_
  rintro e w6 ⟨rfl, hk6, c, hc, hcq⟩
  have hs6 := hk6.size
  have hp6 := (hk6.cell (p := ⟨p, 0, none⟩) (show p < _ by omega) (fun e => by have e' : p = q := e; omega)).trans hp5
  have HC := Lib.hid hc
  have HU6 := Lib.hid ((HU.out.same (w' := w5) (S' := fun k => w3.heap.size ≤ k ∧ k < w4.heap.size) (fun k hk => ⟨hk5.block k (by omega) (fun h => h), hk⟩)).kept hk6 (fun k hk => ⟨by omega, fun e => by have e' : k = q := e; omega⟩))
  have HX1' := Lib.hid ((HX1.out.kept hk5 (fun h => h)).kept hk6 (fun e => by omega))
  have HX2' := Lib.hid ((HX2.out.kept hk5 (fun h => h)).kept hk6 (fun e => by omega))
  have HK6 := Lib.hid ((HK4.out.trans hk5 (fun _ _ h => h)).trans (hk6.mono (S' := fun k => w.heap.size ≤ k) (fun k _ e => by omega)) (fun k hk h => by have h' : w.heap.size ≤ k := h; omega))
  have hy1 : w4.heap.size ≤ p := by omega
  have hy2 : p + 1 ≤ q := by omega
  have hy3 : q ≤ p + 1 := by omega
  have hy4 : q < w5.heap.size := by omega
  have hy5 : p ≤ w4.heap.size := by omega
  clear HX1 HX2 HU HK4 hk5 hk6 hc hp hq hp5 hq5 hf5 hs5
  go_wp2_with fail
  refine (tell_any n c o _ w6 HC.out (fun k hk => hk.2) HV.out).mono ?_
  rintro e w7 ⟨⟨u1, o1, rfl, hr1, he1⟩, hb7⟩
  have hs7 := hb7.size
  have hk7 : Kept (fun _ => False) w6 w7 := Kept.ofBelow (S := fun _ => False) hb7 (fun k hk hle => by omega)
  obtain ⟨a0, a1, a2, a3, a4, aka, aca, akl, akc, acl, acc, rfl⟩ := hr1.form
  have HR1 := Lib.hid hr1
  have HE1 := Lib.hid he1
  have HC7 := Lib.hid (HC.out.kept hk7 (fun k hk => ⟨hk.2, fun h => h⟩))
  have HU7 := Lib.hid (HU6.out.kept hk7 (fun k hk => ⟨by omega, fun h => h⟩))
  have HX7 := Lib.hid (HX1'.out.kept hk7 (fun h => h))
  have HY7 := Lib.hid (HX2'.out.kept hk7 (fun h => h))
  have HK7 := Lib.hid (HK6.out.trans hk7 (fun _ _ h => h.elim))
  have hcq7 := (hk7.cell (p := ⟨q, 0, none⟩) (show q < _ by omega) (fun h => h)).trans hcq
  have hp7 := (hk7.cell (p := ⟨p, 0, none⟩) (show p < _ by omega) (fun h => h)).trans hp6
  have hc0 := HX7.out.at
  have hf0 := HX7.out.frozen
  clear HC HU6 HX1' HX2' HK6 hr1 he1 hb7 hk7 hcq hp6
  obtain ⟨g0, g1, g2, g3, g4, g5, g6⟩ := hc0
  go_wp2_with fail
  obtain ⟨hx8, hk8⟩ := HX7.out.stored (.int .i64 a0) (.int .i64 a1) (.int .i64 a2) (.float .f64 a3) (.string a4) (.slice aka akl akc) (.slice aca acl acc)
  unfold put7 at hx8 hk8
  generalize ((((((w7.setCell ⟨b1, 0, none⟩ (.int .i64 a0)).setCell ⟨b1, 1, none⟩ (.int .i64 a1)).setCell ⟨b1, 2, none⟩ (.int .i64 a2)).setCell ⟨b1, 3, none⟩ (.float .f64 a3)).setCell ⟨b1, 4, none⟩ (.string a4)).setCell ⟨b1, 5, none⟩ (.slice aka akl akc)).setCell ⟨b1, 6, none⟩ (.slice aca acl acc) = w8 at hx8 hk8 ⊢
  have hs8 := hk8.size
  refine (wreck_any n (.iface T x) o _ w8 (HU7.out.kept hk8 (fun k hk => ⟨by omega, fun e => by have e' : k = b1 := e; omega⟩)) (fun k hk => by omega)).mono ?_
  rintro e w9 ⟨rfl, hk9⟩
  have hs9 := hk9.size
  have hk79 : Kept (fun k => k = b1 ∨ (w3.heap.size ≤ k ∧ k < w4.heap.size)) w7 w9 := (hk8.mono (fun k _ e => .inl e)).trans hk9 (fun k _ h => .inr h)
  have HX9 := Lib.hid (hx8.kept hk9 (fun h => by omega))
  have HY9 := Lib.hid (HY7.out.kept hk79 (fun h => by omega))
  have HC9 := Lib.hid (HC7.out.kept hk79 (fun k hk => ⟨by omega, fun h => by omega⟩))
  have HR9 := Lib.hid (HR1.out.same (w' := w9) (S' := fun k => w6.heap.size ≤ k ∧ k < w7.heap.size) (fun k hk => ⟨hk79.block k hk.2 (fun h => by omega), hk⟩))
  have HK9 := Lib.hid (HK7.out.trans hk79 (fun k hk h => by have h' : k = b1 ∨ (w3.heap.size ≤ k ∧ k < w4.heap.size) := h; exact (show False by omega)))
  have hcq9 := (hk79.cell (p := ⟨q, 0, none⟩) (show q < _ by omega) (fun h => by have h' : q = b1 ∨ (w3.heap.size ≤ q ∧ q < w4.heap.size) := h; omega)).trans hcq7
  clear HX7 HY7 HC7 HR1 HK7 HU7 hcq7 hp7 hx8 hk8 hk9 hk79 hf0 g0 g1 g2 g3 g4 g5 g6
  go_wp2_with fail
  refine (tell_any n c o _ w9 HC9.out (fun k hk => by omega) HV.out).mono ?_
  rintro e w10 ⟨⟨u2, o2, rfl, hr2, he2⟩, hb10⟩
  have hs10 := hb10.size
  have hk10 : Kept (fun _ => False) w9 w10 := Kept.ofBelow (S := fun _ => False) hb10 (fun k hk hle => by omega)
  obtain ⟨d0, d1, d2, d3, d4, dka, dca, dkl, dkc, dcl, dcc, rfl⟩ := hr2.form
  have HR2 := Lib.hid hr2
  have HE2 := Lib.hid he2
  have HR10 := Lib.hid (HR9.out.same (w' := w10) (S' := fun k => w6.heap.size ≤ k ∧ k < w7.heap.size) (fun k hk => ⟨hk10.block k (by omega) (fun h => h), hk⟩))
  have HX10 := Lib.hid (HX9.out.kept hk10 (fun h => h))
  have HY10 := Lib.hid (HY9.out.kept hk10 (fun h => h))
  have HK10 := Lib.hid (HK9.out.trans hk10 (fun _ _ h => h.elim))
  have hc0 := HY10.out.at
  have hf0 := HY10.out.frozen
  clear HX9 HY9 HC9 HR9 HK9 hcq9 hr2 he2 hb10 hk10
  obtain ⟨g0, g1, g2, g3, g4, g5, g6⟩ := hc0
  go_wp2_with fail
  obtain ⟨hy11, hk11⟩ := HY10.out.stored (.int .i64 d0) (.int .i64 d1) (.int .i64 d2) (.float .f64 d3) (.string d4) (.slice dka dkl dkc) (.slice dca dcl dcc)
  unfold put7 at hy11 hk11
  generalize ((((((w10.setCell ⟨b2, 0, none⟩ (.int .i64 d0)).setCell ⟨b2, 1, none⟩ (.int .i64 d1)).setCell ⟨b2, 2, none⟩ (.int .i64 d2)).setCell ⟨b2, 3, none⟩ (.float .f64 d3)).setCell ⟨b2, 4, none⟩ (.string d4)).setCell ⟨b2, 5, none⟩ (.slice dka dkl dkc)).setCell ⟨b2, 6, none⟩ (.slice dca dcl dcc) = w11 at hy11 hk11 ⊢
  have hs11 := hk11.size
  have hx11 := HX10.out.kept hk11 (fun e => by omega)
  have HR11 := Lib.hid (HR10.out.same (w' := w11) (S' := fun k => w6.heap.size ≤ k ∧ k < w7.heap.size) (fun k hk => ⟨hk11.block k (by omega) (fun e => by have e' : k = b2 := e; omega), hk⟩))
  have HR2' := Lib.hid (HR2.out.same (w' := w11) (S' := fun k => w9.heap.size ≤ k ∧ k < w10.heap.size) (fun k hk => ⟨hk11.block k (by omega) (fun e => by have e' : k = b2 := e; omega), hk⟩))
  have HK11 := Lib.hid (HK10.out.trans hk11 (fun k hk e => by have e' : k = b2 := e; exact (show False by omega)))
  have HX11 := Lib.hid hx11
  have HY11 := Lib.hid hy11
  have hcx := hx11.at
  have hfx := hx11.frozen
  have hcy := hy11.at
  have hfy := hy11.frozen
  clear g0 g1 g2 g3 g4 g5 g6 hf0 HX10 HY10 HR10 HR2 HK10 hx11 hy11 hk11
  obtain ⟨g0, g1, g2, g3, g4, g5, g6⟩ := hcx
  obtain ⟨i0, i1, i2, i3, i4, i5, i6⟩ := hcy
  have hne : ∀ i j, (⟨b1, i, none⟩ : Addr) ≠ ⟨b2, j, none⟩ := fun i j e => by injection e; omega
  go_region
  obtain ⟨hx12, hk12⟩ := HX11.out.stored (.int .i64 a0) (.int .i64 a1) (.int .i64 a2) (.float .f64 a3) (.string a4) (.slice aka akl akc) (.slice aca acl acc)
  obtain ⟨hy13, hk13⟩ := (HY11.out.kept hk12 (fun e => by omega)).stored (.int .i64 d0) (.int .i64 d1) (.int .i64 d2) (.float .f64 d3) (.string d4) (.slice dka dkl dkc) (.slice dca dcl dcc)
  have hx13 := hx12.kept hk13 (fun e => by omega)
  have hk14 := ((hk12.mono (S' := fun k => k = b1 ∨ k = b2) (fun k _ e => .inl e)).trans hk13 (fun k _ e => .inr e)).drew
  have hx14 := hx13.drew
  have hy14 := hy13.drew
  unfold put7 at hx14 hy14 hk14
  generalize (((((((((((((((w11.setCell ⟨b1, 0, none⟩ (.int .i64 a0)).setCell ⟨b1, 1, none⟩ (.int .i64 a1)).setCell ⟨b1, 2, none⟩ (.int .i64 a2)).setCell ⟨b1, 3, none⟩ (.float .f64 a3)).setCell ⟨b1, 4, none⟩ (.string a4)).setCell ⟨b1, 5, none⟩ (.slice aka akl akc)).setCell ⟨b1, 6, none⟩ (.slice aca acl acc)).setCell ⟨b2, 0, none⟩ (.int .i64 d0)).setCell ⟨b2, 1, none⟩ (.int .i64 d1)).setCell ⟨b2, 2, none⟩ (.int .i64 d2)).setCell ⟨b2, 3, none⟩ (.float .f64 d3)).setCell ⟨b2, 4, none⟩ (.string d4)).setCell ⟨b2, 5, none⟩ (.slice dka dkl dkc)).setCell ⟨b2, 6, none⟩ (.slice dca dcl dcc)).drew) = w14 at hx14 hy14 hk14 ⊢
  have hs14 := hk14.size
  have hcx := hx14.at
  have hcy := hy14.at
  clear hx12 hk12 hy13 hk13 hx13 g0 g1 g2 g3 g4 g5 g6 i0 i1 i2 i3 i4 i5 i6
  obtain ⟨g0, g1, g2, g3, g4, g5, g6⟩ := hcx
  obtain ⟨i0, i1, i2, i3, i4, i5, i6⟩ := hcy
  go_wp2_with fail
  try simp only [Exit.inBlock, Exit.then]
  refine bodyPost_ret (by simp [results, Tryz.results8, go_sem, g0, g1, g2, g3, g4, g5, g6, i0, i1, i2, i3, i4, i5, i6]; try rfl) rfl ?_
  refine ⟨⟨_, _, o1, o2, rfl, ?_, ?_, HE1.out, HE2.out⟩, ?_⟩
  · exact HR11.out.same (fun k hk => ⟨hk14.block k (by omega) (fun e => by omega), by omega, by omega⟩)
  · exact HR2'.out.same (fun k hk => ⟨hk14.block k (by omega) (fun e => by omega), by omega, by omega⟩)
  · exact (HK11.out.trans hk14 (fun k hk e => by have e' : k = b1 ∨ k = b2 := e; exact (show False by omega))).below (fun _ h => h.elim) (Nat.le_refl _)

end Go.Proofs.YtcpijmbdibgdmaaGreatDoor
