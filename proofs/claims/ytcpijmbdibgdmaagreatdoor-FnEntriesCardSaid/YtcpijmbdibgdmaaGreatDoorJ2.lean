/-
  What the listed variables read as, as facts on their cells.
-/
import Derived.Test.YtcpijmbdibgdmaaGreatDoorJ1
import Derived.Test.YtcpijmbdibgdmaaGreatDoorRows
import Derived.MakeChecks
import Derived.Lib.LaidTab
namespace Go.Proofs.YtcpijmbdibgdmaaGreatDoor
open Go Go.RowKit

theorem laid_at {P : Program} {w : World} : ∀ {laid : List (String × DataW Unit)} {ps : List MemPlace}, DataW.LaidVars P w laid ps → ∀ {name : String} {d : DataW Unit}, (name, d) ∈ laid →
    ∃ g t cs fuel p, P.globalNamed name = some g ∧ (P.globals[g]?).map (·.type) = some t ∧ w.var? P name = some cs ∧ DataW.trod (fun _ => ()) P w 0 (fun _ => true) false fuel t cs.toList = some (d, p)
  | [], _, _, _, _, h => by simp at h
  | (n, d) :: r, ps, hl, name, d', h => by
    obtain ⟨g, t, cs, fuel, p, q, h1, h2, h3, h4, h5, _⟩ := hl
    rcases List.mem_cons.1 h with e | h
    · injection e with e1 e2
      subst e1 e2
      exact ⟨g, t, cs, fuel, p, h1, h2, h3, h4⟩
    · exact laid_at h5 h

/-- A listed variable whose number and type are known. -/
theorem laid_var {w : World} {laid : List (String × DataW Unit)} (h : laidMet Tryz.prog laid w) {name : String} {d : DataW Unit} (hm : (name, d) ∈ laid) {g : Nat} {t : TypeId} (hg : Tryz.prog.globalNamed name = some g) (ht : (Tryz.prog.globals[g]?).map (·.type) = some t) :
    ∃ (cs : List Value) (fuel : Nat) (p : List MemPlace), (∀ i, w.cell? ⟨g, i, none⟩ = cs[i]?) ∧ w.var? Tryz.prog name = some cs.toArray ∧ DataW.trod (fun _ => ()) Tryz.prog w 0 (fun _ => true) false fuel t cs = some (d, p) := by
  obtain ⟨ps, hl, _⟩ := h
  obtain ⟨g', t', cs, fuel, p, h1, h2, h3, h4⟩ := laid_at hl hm
  obtain rfl := Option.some.inj (hg.symm.trans h1)
  obtain rfl := Option.some.inj (ht.symm.trans h2)
  refine ⟨cs.toList, fuel, p, fun i => ?_, by simpa using h3, h4⟩
  have := World.var?_cell hg h3 i
  simpa using this

/-- The cells of a slice that is read. -/
theorem slice_cells {H : Type} {enc : TypeId × Value → H} {P : Program} {W : World} {sp : Nat → Bool} {held : Bool} {m : Nat} {t e : TypeId} {cs : List Value} {ds rs : List (DataW H)} {p : List MemPlace} {c : Nat} (ht : P.underlying t = some (.slice e)) (hc : P.cellsOf e = c) (h0 : 0 < c)
    (hne : 0 < ds.length) (h : DataW.trod enc P W 0 sp held m t cs = some (.slice ds rs, p)) : ∃ (b o cap : Nat), cs = [.slice (some ⟨b, o, none⟩) ds.length cap] ∧
      ∀ i (hi : i < ds.length), ∃ (cs' : List Value) (n : Nat) (q : List MemPlace), cs'.length = c ∧ (∀ z, z < c → W.cell? ⟨b, o + i * c + z, none⟩ = cs'[z]?) ∧ DataW.trod enc P W 0 sp held n e cs' = some (ds[i], q) := by
  rcases DataW.trod_slice ht h with ⟨_, hx⟩ | ⟨a, len, cap, elems, rest, n, rfl, rfl, hx, _, _, _, hlen, hel, _, _⟩
  · injection hx with h1 _
    cases h1
  · rw [hc] at hel
    injection hx with hx1 hx2
    injection hx1 with hd hr
    have hdl : ds.length = len := by rw [hd]; simpa using hlen
    have hcell : ∀ i (hi : i < ds.length), ∃ (cs' : List Value) (q : List MemPlace), cs'.length = c ∧ (∀ z, z < c → W.cell? ((a.add (i * c)).add z) = cs'[z]?) ∧ DataW.trod enc P W 0 sp held n e cs' = some (ds[i], q) := by
      intro i hi
      have h1 := hel i (by omega)
      have hi2 : i < elems.length := by omega
      rw [List.getElem?_eq_getElem hi2] at h1
      obtain ⟨cs', h2, h3⟩ := Option.bind_eq_some_iff.1 h1
      obtain ⟨_, h4, h5⟩ := World.cells?_some h2
      refine ⟨cs', elems[i].2, h4, h5, ?_⟩
      rw [h3]
      simp [hd]
    have hsp : a.spot = none := by
      obtain ⟨cs', q, h4, h5, _⟩ := hcell 0 hne
      have h6 := h5 0 h0
      rw [List.getElem?_eq_getElem (by omega)] at h6
      have := cell_spot h6
      simpa [Addr.add] using this
    have hadd : ∀ j z, (a.add (j * c)).add z = ⟨a.block, a.off + j * c + z, none⟩ := by
      intro j z
      cases a
      simp at hsp
      subst hsp
      simp only [Addr.add]
      split <;> split <;> simp_all
    refine ⟨a.block, a.off, cap, ?_, fun i hi => ?_⟩
    · rw [hdl]
      cases a
      simp at hsp
      rw [hsp]
    · obtain ⟨cs', q, h4, h5, h6⟩ := hcell i hi
      exact ⟨cs', n, q, h4, fun z hz => by rw [← hadd i z]; exact h5 z hz, h6⟩

theorem g2 : Tryz.prog.globalNamed "internal/strconv.optimize" = some 2 := by kernel_rfl
theorem g5 : Tryz.prog.globalNamed "internal/strconv.float64info" = some 5 := by kernel_rfl
theorem g8 : Tryz.prog.globalNamed "internal/strconv.powtab" = some 8 := by kernel_rfl
theorem g9 : Tryz.prog.globalNamed "internal/strconv.float64pow10" = some 9 := by kernel_rfl
theorem g10 : Tryz.prog.globalNamed "internal/strconv.pow10Tab" = some 10 := by kernel_rfl
theorem g11 : Tryz.prog.globalNamed "internal/strconv.leftcheats" = some 11 := by kernel_rfl
theorem t2 : (Tryz.prog.globals[2]?).map (·.type) = some 4 := by kernel_rfl
theorem t5 : (Tryz.prog.globals[5]?).map (·.type) = some 209 := by kernel_rfl
theorem t6 : (Tryz.prog.globals[6]?).map (·.type) = some 236 := by kernel_rfl
theorem t8 : (Tryz.prog.globals[8]?).map (·.type) = some 38 := by kernel_rfl
theorem t9 : (Tryz.prog.globals[9]?).map (·.type) = some 250 := by kernel_rfl
theorem t10 : (Tryz.prog.globals[10]?).map (·.type) = some 257 := by kernel_rfl
theorem t11 : (Tryz.prog.globals[11]?).map (·.type) = some 263 := by kernel_rfl
theorem cells209 : Tryz.prog.cellsOf 209 = 3 := by kernel_rfl
theorem cells154 : Tryz.prog.cellsOf 154 = 1 := by kernel_rfl
theorem cells168 : Tryz.prog.cellsOf 168 = 1 := by kernel_rfl
theorem cells236 : Tryz.prog.cellsOf 236 = 20 := by kernel_rfl
theorem cells256 : Tryz.prog.cellsOf 256 = 2 := by kernel_rfl
theorem cells257 : Tryz.prog.cellsOf 257 = 1392 := by kernel_rfl
theorem cells262 : Tryz.prog.cellsOf 262 = 2 := by kernel_rfl

theorem laid_opt {w : World} {laid : List (String × DataW Unit)} (h : laidMet Tryz.prog laid w) (hm : ("internal/strconv.optimize", Rows.laid_internal_strconv_optimize) ∈ laid) : w.cell? ⟨2, 0, none⟩ = some (.bool true) := by
  obtain ⟨cs, f, p, hc, _, ht⟩ := laid_var h hm g2 t2
  obtain ⟨b, rfl, hx⟩ := DataW.trod_bool Tryz.underlying4 ht
  have : b = true := by
    injection hx with h1 _
    unfold Rows.laid_internal_strconv_optimize at h1
    cases h1
    rfl
  rw [hc 0, this]
  rfl

set_option maxRecDepth 100000 in
theorem laid_info {w : World} {laid : List (String × DataW Unit)} (h : laidMet Tryz.prog laid w) (hm : ("internal/strconv.float64info", Rows.laid_internal_strconv_float64info) ∈ laid) :
    w.cell? ⟨5, 0, none⟩ = some (.int .u64 52) ∧ w.cell? ⟨5, 1, none⟩ = some (.int .u64 11) ∧ w.cell? ⟨5, 2, none⟩ = some (.int .i64 (-1023)) := by
  obtain ⟨cs, f, p, hc, _, ht⟩ := laid_var h hm g5 t5
  obtain ⟨xs, q, rfl, hx, hl, hxl, hf⟩ := DataW.trod_struct Tryz.underlying209 ht
  rw [cells209] at hl
  rw [hc 0, hc 1, hc 2]
  match cs, hl with
  | [c0, c1, c2], _ =>
    match xs, hxl with
    | [x0, x1, x2], _ =>
      have h0 := hf 0 _ rfl
      have h1 := hf 1 _ rfl
      have h2 := hf 2 _ rfl
      simp [cells154, cells3] at h0 h1 h2
      obtain ⟨k0, e0, d0, _⟩ := DataW.trod_int Tryz.underlying154 h0
      obtain ⟨k1, e1, d1, _⟩ := DataW.trod_int Tryz.underlying154 h1
      obtain ⟨k2, e2, d2, _⟩ := DataW.trod_int Tryz.underlying3 h2
      simp [Rows.laid_internal_strconv_float64info, d0, d1, d2] at hx
      simp at e0 e1 e2
      obtain ⟨⟨rfl, rfl, rfl⟩, _⟩ := hx
      simp [e0, e1, e2]

theorem laid_p10 {w : World} {laid : List (String × DataW Unit)} (h : laidMet Tryz.prog laid w) (hm : ("internal/strconv.uint64pow10", Rows.laid_internal_strconv_uint64pow10) ∈ laid) : Lib.TabIs Tryz.prog w "internal/strconv.uint64pow10" .u64 Lib.pow10Tab := by
  obtain ⟨cs, f, p, hc, hv, ht⟩ := laid_var h hm global6 t6
  have hd : (Rows.laid_internal_strconv_uint64pow10 : DataW Unit) = Lib.tabData .u64 Lib.pow10Tab := by
    unfold Rows.laid_internal_strconv_uint64pow10 Lib.tabData
    rfl
  rw [hd] at ht
  unfold Lib.TabIs
  rw [hv, Lib.cells_of_tab Tryz.underlying236 Tryz.underlying168 cells168 cells236 ht]

theorem laid_ptab {w : World} {laid : List (String × DataW Unit)} (h : laidMet Tryz.prog laid w) (hm : ("internal/strconv.powtab", Rows.laid_internal_strconv_powtab) ∈ laid) :
    ∃ b o c, w.cell? ⟨8, 0, none⟩ = some (.slice (some ⟨b, o, none⟩) 9 c) ∧ ∀ j, j < 9 → w.cell? ⟨b, o + j, none⟩ = some (.int .i64 (powtabL.getD j 0)) := by
  obtain ⟨cs, f, p, hc, _, ht⟩ := laid_var h hm g8 t8
  unfold Rows.laid_internal_strconv_powtab at ht
  obtain ⟨b, o, cap, rfl, hs⟩ := slice_cells Tryz.underlying38 cells3 (by omega) (by simp) ht
  refine ⟨b, o, cap, by rw [hc 0]; rfl, fun j hj => ?_⟩
  obtain ⟨cs', n, q, hl, hz, hd⟩ := hs j (by simpa using hj)
  obtain ⟨k, rfl, hk, _⟩ := DataW.trod_int Tryz.underlying3 hd
  have h1 := hz 0 (by omega)
  rw [Nat.mul_one, Nat.add_zero] at h1
  rw [h1]
  injection hk with hk _
  have hcases : j = 0 ∨ j = 1 ∨ j = 2 ∨ j = 3 ∨ j = 4 ∨ j = 5 ∨ j = 6 ∨ j = 7 ∨ j = 8 := by omega
  rcases hcases with rfl | rfl | rfl | rfl | rfl | rfl | rfl | rfl | rfl <;> (simp at hk; subst hk; rfl)

theorem laid_f10 {w : World} {laid : List (String × DataW Unit)} (h : laidMet Tryz.prog laid w) (hm : ("internal/strconv.float64pow10", Rows.laid_internal_strconv_float64pow10) ∈ laid) :
    ∃ b o c, w.cell? ⟨9, 0, none⟩ = some (.slice (some ⟨b, o, none⟩) 23 c) ∧ ∀ j, j < 23 → ∃ r : Nat, w.cell? ⟨b, o + j, none⟩ = some (.float .f64 r) := by
  obtain ⟨cs, f, p, hc, _, ht⟩ := laid_var h hm g9 t9
  unfold Rows.laid_internal_strconv_float64pow10 at ht
  obtain ⟨b, o, cap, rfl, hs⟩ := slice_cells Tryz.underlying250 cells22 (by omega) (by simp) ht
  refine ⟨b, o, cap, by rw [hc 0]; rfl, fun j hj => ?_⟩
  obtain ⟨cs', n, q, hl, hz, hd⟩ := hs j (by simpa using hj)
  obtain ⟨k, rfl, hk, _⟩ := trod_float Tryz.underlying22 hd
  have h1 := hz 0 (by omega)
  rw [Nat.mul_one, Nat.add_zero] at h1
  exact ⟨k, h1⟩

theorem laid_tab {w : World} {laid : List (String × DataW Unit)} (h : laidMet Tryz.prog laid w) {d : DataW Unit} (hm : ("internal/strconv.pow10Tab", d) ∈ laid) :
    ∀ j, j < 1392 → ∃ n : Int, w.cell? ⟨10, j, none⟩ = some (.int .u64 n) ∧ 0 ≤ n ∧ n < 18446744073709551616 := by
  obtain ⟨cs, f, p, hc, _, ht⟩ := laid_var h hm g10 t10
  obtain ⟨xs, q, rfl, hx, hl, hxl, hf⟩ := DataW.trod_array Tryz.underlying257 ht
  rw [cells257] at hl
  intro j hj
  have h1 := hf (j / 2) (by omega)
  rw [cells256, List.getElem?_eq_getElem (by omega)] at h1
  obtain ⟨ys, q2, rfl, hy, hl2, hyl, hf2⟩ := DataW.trod_struct Tryz.underlying256 h1
  have h2 := hf2 0 _ rfl
  have h3 := hf2 1 _ rfl
  simp [cells168] at h2 h3
  rw [List.getElem?_eq_getElem (by rw [hyl]; decide)] at h2 h3
  obtain ⟨k2, e2, _, w2⟩ := DataW.trod_int Tryz.underlying168 h2
  obtain ⟨k3, e3, _, w3⟩ := DataW.trod_int Tryz.underlying168 h3
  have wf64 : ∀ k : Int, (Lit.int .u64 k).wf = true → 0 ≤ k ∧ k < 18446744073709551616 := fun k hk => by
    have h1 := (Bool.and_eq_true _ _).mp (show (decide (IntKind.u64.min ≤ k) && decide (k ≤ IntKind.u64.max)) = true from hk)
    have h2 := of_decide_eq_true h1.1
    have h3 := of_decide_eq_true h1.2
    have e1 : IntKind.u64.min = 0 := by kernel_rfl
    have e2 : IntKind.u64.max = 18446744073709551615 := by kernel_rfl
    rw [e1] at h2
    rw [e2] at h3
    omega
  have w2' := wf64 _ w2
  have w3' := wf64 _ w3
  rw [hc j]
  rcases Nat.mod_two_eq_zero_or_one j with hm2 | hm2
  · refine ⟨k2, ?_, by omega, by omega⟩
    have := congrArg (·[0]?) e2
    simp [List.getElem?_drop] at this
    rw [show j = j / 2 * 2 by omega]
    exact this
  · refine ⟨k3, ?_, by omega, by omega⟩
    have := congrArg (·[0]?) e3
    simp [List.getElem?_drop] at this
    rw [show j = j / 2 * 2 + 1 by omega]
    exact this

theorem cheat_len : Go.Pinned.cheatRows.length = 61 := by kernel_rfl
theorem cheat_1 : Go.Pinned.cheatRows[1]? = some (1, [53]) := by kernel_rfl
theorem cheat_53 : Go.Pinned.cheatRows[53]? = some (16, cut53) := by kernel_rfl

set_option maxRecDepth 100000 in
theorem cheat_read {w : World} {n : Nat} {cs : List Value} {q : List MemPlace} {x : Nat × List UInt8} (h : DataW.trod (fun _ => ()) Tryz.prog w 0 (fun _ => true) false n 262 cs = some (.agg [.lit (.int .i64 x.1), .lit (.string x.2)], q)) :
    cs = [.int .i64 x.1, .string ⟨x.2.toArray⟩] := by
  obtain ⟨xs, q, rfl, hx, hl, hxl, hf⟩ := DataW.trod_struct Tryz.underlying262 h
  rw [cells262] at hl
  match cs, hl with
  | [c0, c1], _ =>
    match xs, hxl with
    | [x0, x1], _ =>
      have h0 := hf 0 _ rfl
      have h1 := hf 1 _ rfl
      simp [cells9, cells3] at h0 h1
      obtain ⟨k0, e0, d0, _⟩ := DataW.trod_int Tryz.underlying3 h0
      obtain ⟨s, e1, d1, _⟩ := DataW.trod_string Tryz.underlying9 h1
      simp [d0, d1] at hx
      simp at e0 e1
      obtain ⟨⟨rfl, hs⟩, _⟩ := hx
      have : s = ⟨x.2.toArray⟩ := by
        cases s
        simp at hs
        simp [hs]
      simp [e0, e1, this]

theorem laid_lc {w : World} {laid : List (String × DataW Unit)} (h : laidMet Tryz.prog laid w) (hm : ("internal/strconv.leftcheats", Go.Pinned.leftcheats) ∈ laid) :
    ∃ b o c, w.cell? ⟨11, 0, none⟩ = some (.slice (some ⟨b, o, none⟩) 61 c) ∧ w.cell? ⟨b, o + 2, none⟩ = some (.int .i64 1) ∧ w.cell? ⟨b, o + 3, none⟩ = some (.string ⟨#[53]⟩) ∧
      w.cell? ⟨b, o + 106, none⟩ = some (.int .i64 16) ∧ w.cell? ⟨b, o + 107, none⟩ = some (.string ⟨cut53.toArray⟩) := by
  obtain ⟨cs, f, p, hc, _, ht⟩ := laid_var h hm g11 t11
  unfold Go.Pinned.leftcheats at ht
  generalize hrows : Go.Pinned.cheatRows = rows at ht
  have hlen := cheat_len
  have h1 := cheat_1
  have h53 := cheat_53
  rw [hrows] at hlen h1 h53
  obtain ⟨b, o, cap, rfl, hs⟩ := slice_cells Tryz.underlying263 cells262 (by omega) (by rw [List.length_map, hlen]; omega) ht
  have hat : ∀ i (hi : i < 61) (x : Nat × List UInt8), rows[i]? = some x → w.cell? ⟨b, o + i * 2, none⟩ = some (.int .i64 x.1) ∧ w.cell? ⟨b, o + i * 2 + 1, none⟩ = some (.string ⟨x.2.toArray⟩) := by
    intro i hi x hx
    obtain ⟨cs', n, q, hl, hz, hd⟩ := hs i (by rw [List.length_map, hlen]; exact hi)
    rw [List.getElem_map] at hd
    have hx2 : rows[i] = x := by
      rw [List.getElem?_eq_getElem (by omega)] at hx
      exact Option.some.inj hx
    rw [hx2] at hd
    have e := cheat_read hd
    have z0 := hz 0 (by omega)
    have z1 := hz 1 (by omega)
    rw [e] at z0 z1
    exact ⟨z0, z1⟩
  refine ⟨b, o, cap, ?_, ?_⟩
  · rw [hc 0, List.length_map, hlen]
    rfl
  · obtain ⟨a1, a2⟩ := hat 1 (by omega) _ h1
    obtain ⟨a3, a4⟩ := hat 53 (by omega) _ h53
    exact ⟨a1, a2, a3, a4⟩

/-- All that the walks ask of the listed variables. -/
theorem gl_of_laid {w : World} {laid : List (String × DataW Unit)} (h : laidMet Tryz.prog laid w) (h1 : ("internal/strconv.optimize", Rows.laid_internal_strconv_optimize) ∈ laid) (h2 : ("internal/strconv.float64info", Rows.laid_internal_strconv_float64info) ∈ laid)
    (h3 : ("internal/strconv.uint64pow10", Rows.laid_internal_strconv_uint64pow10) ∈ laid) (h4 : ("internal/strconv.powtab", Rows.laid_internal_strconv_powtab) ∈ laid) (h5 : ("internal/strconv.float64pow10", Rows.laid_internal_strconv_float64pow10) ∈ laid)
    (h6 : ("internal/strconv.pow10Tab", Rows.laid_internal_strconv_pow10Tab) ∈ laid) (h7 : ("internal/strconv.leftcheats", Go.Pinned.leftcheats) ∈ laid) : Gl w := by
  obtain ⟨i0, i1, i2⟩ := laid_info h h2
  exact ⟨laid_opt h h1, i0, i1, i2, laid_p10 h h3, laid_ptab h h4, laid_f10 h h5, laid_tab h h6, laid_lc h h7⟩

end Go.Proofs.YtcpijmbdibgdmaaGreatDoor
