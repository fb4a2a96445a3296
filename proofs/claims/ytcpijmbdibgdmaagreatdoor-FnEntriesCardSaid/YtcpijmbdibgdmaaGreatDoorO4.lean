/-
  Rows of structs of seven cells that a call owns.
-/
import Derived.Test.YtcpijmbdibgdmaaGreatDoorO2
import Derived.Laws.OwnMore
namespace Go.Proofs.YtcpijmbdibgdmaaGreatDoor
open Go Go.RowKit

/-- A struct of seven cells. -/
def Seven (u : Value) : Prop := ∃ c0 c1 c2 c3 c4 c5 c6, u = .agg #[c0, c1, c2, c3, c4, c5, c6]

def flat7 (us : List Value) : List Value := us.flatMap (fun u => u.cells.toList)

theorem flat7_nil : flat7 [] = [] := rfl
theorem flat7_snoc (us : List Value) (c0 c1 c2 c3 c4 c5 c6 : Value) : flat7 (us ++ [.agg #[c0, c1, c2, c3, c4, c5, c6]]) = flat7 us ++ [c0, c1, c2, c3, c4, c5, c6] := by
  simp [flat7, Value.cells]

theorem flat7_length : ∀ (us : List Value), (∀ u ∈ us, Seven u) → (flat7 us).length = us.length * 7
  | [], _ => rfl
  | u :: us, h => by
    have ih := flat7_length us (fun x hx => h x (by simp [hx]))
    obtain ⟨c0, c1, c2, c3, c4, c5, c6, rfl⟩ := h u (by simp)
    simp only [flat7, List.flatMap_cons, List.length_append, Value.cells, List.length_cons] at ih ⊢
    simp
    simp at ih
    omega

theorem flat7_at : ∀ (us : List Value), (∀ u ∈ us, Seven u) → ∀ j (hj : j < us.length) i, i < 7 → (flat7 us)[j * 7 + i]? = us[j].cells[i]?
  | [], _, j, hj, _, _ => by simp at hj
  | u :: us, h, j, hj, i, hi => by
    have hu := h u (by simp)
    cases j with
    | zero =>
      obtain ⟨c0, c1, c2, c3, c4, c5, c6, rfl⟩ := hu
      simp only [flat7, List.flatMap_cons, Nat.zero_mul, Nat.zero_add, List.getElem_cons_zero, Value.cells]
      rw [List.getElem?_append_left (by simpa using hi)]
      simp
    | succ j =>
      have ih := flat7_at us (fun x hx => h x (by simp [hx])) j (by simpa using hj) i hi
      obtain ⟨c0, c1, c2, c3, c4, c5, c6, rfl⟩ := hu
      simp only [flat7, List.flatMap_cons, List.getElem_cons_succ] at ih ⊢
      rw [List.getElem?_append_right (by simp [Value.cells]; omega), ← ih]
      congr 1
      simp [Value.cells]
      omega

theorem row7 {w : World} {base : Nat} {e : TypeId} {sv : Value} {us : List Value} (h : w.ownsRow base e 7 sv us.length (flat7 us)) (h7 : ∀ u ∈ us, Seven u) :
    ∃ (ca : Option Addr) (cc b : Nat), sv = .slice ca us.length cc ∧ (0 < us.length → ca = some ⟨b, 0, none⟩ ∧ sv.ownBlock = some b ∧ base ≤ b ∧ b < w.heap.size) ∧ ∀ j (hj : j < us.length), At7 w b (0 + j * 7) us[j] := by
  rcases h.2 with ⟨rfl, hn⟩ | ⟨g, cap, cur, rfl, hb, hg, _⟩
  · refine ⟨none, 0, 0, by rw [hn], fun h => by omega, fun j hj => by omega⟩
  · refine ⟨_, cap, g, rfl, fun _ => ⟨rfl, rfl, hb, (Array.getElem?_eq_some_iff.1 hg).1⟩, fun j hj => ?_⟩
    have hc : ∀ i, i < 7 → w.cell? ⟨g, 0 + j * 7 + i, none⟩ = us[j].cells[i]? := by
      intro i hi
      rw [h.cellAt (0 + j * 7 + i) (by omega), show 0 + j * 7 + i = j * 7 + i by omega]
      exact flat7_at us h7 j hj i hi
    obtain ⟨c0, c1, c2, c3, c4, c5, c6, e⟩ := h7 us[j] (List.getElem_mem hj)
    rw [e] at hc ⊢
    refine ⟨c0, c1, c2, c3, c4, c5, c6, rfl, ?_, ?_, ?_, ?_, ?_, ?_, ?_⟩
    · exact (hc 0 (by omega)).trans rfl
    · exact (hc 1 (by omega)).trans rfl
    · exact (hc 2 (by omega)).trans rfl
    · exact (hc 3 (by omega)).trans rfl
    · exact (hc 4 (by omega)).trans rfl
    · exact (hc 5 (by omega)).trans rfl
    · exact (hc 6 (by omega)).trans rfl

theorem Tree.seven {n : Nat} {w : World} {S : Nat → Prop} {v : Value} (h : Tree n w S v) : Seven v := by
  obtain ⟨k, i, g, r, t, ka, ca, kl, kc, cl, cc, rfl⟩ := h.form
  exact ⟨_, _, _, _, _, _, _, rfl⟩

theorem Rep.seven {n : Nat} {w : World} {S : Nat → Prop} {v : Value} {o : Ob} (h : Rep n w S v o) : Seven v := by
  obtain ⟨k, i, g, r, t, ka, ca, kl, kc, cl, cc, rfl⟩ := h.form
  exact ⟨_, _, _, _, _, _, _, rfl⟩

/-- The parts of a value that is being built: a row that the call owns, and their own parts elsewhere. -/
def ValRow (w : World) (base n : Nat) (sv : Value) (us : List Value) : Prop :=
  w.ownsRow base 30 7 sv us.length (flat7 us) ∧ ∀ u ∈ us, Tree n w (fun k => base ≤ k ∧ k < w.heap.size ∧ sv.ownBlock ≠ some k) u

theorem ValRow.nil (w : World) (base n : Nat) : ValRow w base n (.slice none 0 0) [] := ⟨World.ownsRow_nil _ _ _ _, fun u hu => by simp at hu⟩

theorem ValRow.kept {w w' : World} {base n : Nat} {sv : Value} {us : List Value} {T : Nat → Prop} (h : ValRow w base n sv us) (hk : Kept T w w') (hT : ∀ k, base ≤ k → k < w.heap.size → ¬ T k) : ValRow w' base n sv us := by
  refine ⟨hk.own h.1 (fun k hk' => hT k (h.1.lt k hk').1 (h.1.lt k hk').2), fun u hu => (h.2 u hu).same fun k hk' => ⟨hk.block k hk'.2.1 (hT k hk'.1 hk'.2.1), hk'.1, by have := hk.size; omega, hk'.2.2⟩⟩

theorem ValRow.snoc {w w' : World} {base n : Nat} {sv sv' : Value} {us : List Value} {c0 c1 c2 c3 c4 c5 c6 : Value} (h : ValRow w base n sv us)
    (hu : Tree n w (fun k => base ≤ k ∧ k < w.heap.size ∧ sv.ownBlock ≠ some k) (.agg #[c0, c1, c2, c3, c4, c5, c6]))
    (ho : w'.ownsRow base 30 7 sv' (us.length + 1) (flat7 us ++ [c0, c1, c2, c3, c4, c5, c6])) (hk : Kept (fun k => sv.ownBlock = some k) w w')
    (hp : sv'.ownBlock = sv.ownBlock ∨ ∃ k, sv'.ownBlock = some k ∧ w.heap.size ≤ k) : ValRow w' base n sv' (us ++ [.agg #[c0, c1, c2, c3, c4, c5, c6]]) := by
  refine ⟨by rw [flat7_snoc]; simpa using ho, fun u hx => ?_⟩
  have ht : Tree n w (fun k => base ≤ k ∧ k < w.heap.size ∧ sv.ownBlock ≠ some k) u := by
    rcases List.mem_append.1 hx with hx | hx
    · exact h.2 u hx
    · rw [List.mem_singleton.1 hx]; exact hu
  refine ht.same fun k hk' => ⟨hk.block k hk'.2.1 (fun e => hk'.2.2 e), hk'.1, by have := hk.size; omega, fun e => ?_⟩
  rcases hp with hp | ⟨k', hp, hge⟩
  · exact hk'.2.2 (hp ▸ e)
  · rw [hp] at e
    injection e with e
    have := hk'.2.1
    omega

end Go.Proofs.YtcpijmbdibgdmaaGreatDoor

/-
  Results that are a struct in a box and a bool; loading and storing a whole struct.
-/
namespace Go.Proofs.YtcpijmbdibgdmaaGreatDoor
open Go Go.RowKit

theorem Tryz.size30 : (Tryz.prog.info? 30).map (·.size) = some 7 := by kernel_rfl
theorem Tryz.size26 : (Tryz.prog.info? 26).map (·.size) = some 7 := by kernel_rfl

/-- A struct that lies in a box, and a slot. -/
theorem results_box {fn : Func} {p q : Tmp} {ty : TypeId} (h : fn.results = #[.cell p ty, .tmp q]) (tmps : Array Value) (w : World) (g : Nat) (t : TypeId) (cs : Array Value) (d : TypeDesc)
    (hp : tmps.getD p undef = .pointer (some ⟨g, 0, none⟩)) (hg : Blk w g cs t)
    (hd : (match d with | .struct _ | .array _ _ => true | _ => false) = true) (hu : Tryz.prog.underlying ty = some d) (hi : (Tryz.prog.info? ty).map (·.size) = some cs.size) :
    (results fn tmps).run Tryz.prog w = .ok (.tuple #[.agg cs, tmps.getD q undef]) w := by
  have hp' : tmps[p]?.getD undef = .pointer (some ⟨g, 0, none⟩) := by simpa using hp
  have hl : (loadVar ty ⟨g, 0, none⟩).run Tryz.prog w = .ok (.agg cs) w := run_loadVar_row w g t ty cs (0, 0) d hg hu (by cases d <;> first | rfl | exact hd) hi
  simp [results, h, hp', asAddr, hl]

theorem setRow_blk {w : World} {g : Nat} {old cs : Array Value} {T : TypeId} (h : Blk w g old T) : Blk (w.setRow g cs) g cs T := setRow_heap w g old cs T _ h

theorem setRow_kept (w : World) (g : Nat) (cs : Array Value) : Kept (· = g) w (w.setRow g cs) :=
  ⟨rfl, rfl, rfl, by simp, fun k _ hn => setRow_other w g k cs hn⟩

theorem own_form {w : World} {base : Nat} {e : TypeId} {size : Nat} {v : Value} {n : Nat} {xs : List Value} (h : w.ownsRow base e size v n xs) : ∃ a c, v = .slice a n c := by
  rcases h.2 with ⟨rfl, hn⟩ | ⟨g, cap, cur, rfl, _⟩
  · exact ⟨none, 0, by rw [hn]⟩
  · exact ⟨_, _, rfl⟩

/-- A whole struct is stored into its box. -/
theorem wpx_store {ops : Array Oper} {rest : List Oper} {o : Oper} {a : Act} {w : World} {Q : Exit → Act → World → Prop} (g : Nat) (old : Array Value) (T : TypeId) (hb : Blk w g old T)
    (ty : TypeId) (x y : Operand) (cells : Array Value) (hgd : o.guard = none) (ho : o.op = .store ty x y) (hd : o.dst = none)
    (hx : a.eval x = .pointer (some ⟨g, 0, none⟩)) (hy : a.eval y = .agg cells) (hi : (Tryz.prog.info? ty).map (·.size) = some cells.size)
    (hold : old.size = cells.size) (h1 : cells.all (·.oneCell') = true)
    (h : ∀ w', Blk w' g cells T → Kept (· = g) w w' → w'.heap.size = w.heap.size → wpList Tryz.prog ops Q rest a w') : wpList Tryz.prog ops Q (o :: rest) a w :=
  wpList_store_row hgd ty x y ho g cells hx hy T old hb hi hold h1 (by rw [hd]; exact h _ (setRow_blk hb) (setRow_kept w g cells) (by simp))

/-- A whole struct is loaded from its box. -/
theorem wpx_load {ops : Array Oper} {rest : List Oper} {o : Oper} {a : Act} {w : World} {Q : Exit → Act → World → Prop} (g : Nat) (cs : Array Value) (T : TypeId) (hb : Blk w g cs T)
    (ty : TypeId) (x : Operand) (d : TypeDesc) (hgd : o.guard = none) (ho : o.op = .load ty x)
    (hx : a.eval x = .pointer (some ⟨g, 0, none⟩)) (hd : (match d with | .struct _ | .array _ _ => true | _ => false) = true) (hu : Tryz.prog.underlying ty = some d) (hi : (Tryz.prog.info? ty).map (·.size) = some cs.size)
    (h : wpList Tryz.prog ops Q rest (a.put o.dst (.agg cs)) w) : wpList Tryz.prog ops Q (o :: rest) a w :=
  wpList_load_row hgd ty x ho g hx T cs (0, 0) d hb hu (by cases d <;> first | rfl | exact hd) hi h

/-- Seven cells are stored one by one. -/
theorem Blk.set7 {w : World} {b : Nat} {d0 d1 d2 d3 d4 d5 d6 : Value} {T : TypeId} (h : Blk w b #[d0, d1, d2, d3, d4, d5, d6] T) (c0 c1 c2 c3 c4 c5 c6 : Value) :
    Blk (((((((w.setCell ⟨b, 0, none⟩ c0).setCell ⟨b, 1, none⟩ c1).setCell ⟨b, 2, none⟩ c2).setCell ⟨b, 3, none⟩ c3).setCell ⟨b, 4, none⟩ c4).setCell ⟨b, 5, none⟩ c5).setCell ⟨b, 6, none⟩ c6) b #[c0, c1, c2, c3, c4, c5, c6] T := by
  have h0 := h.set 0 c0
  have h1 := h0.set 1 c1
  have h2 := h1.set 2 c2
  have h3 := h2.set 3 c3
  have h4 := h3.set 4 c4
  have h5 := h4.set 5 c5
  have h6 := h5.set 6 c6
  simpa using h6

theorem kept_set7 (w : World) (b : Nat) (c0 c1 c2 c3 c4 c5 c6 : Value) :
    Kept (· = b) w (((((((w.setCell ⟨b, 0, none⟩ c0).setCell ⟨b, 1, none⟩ c1).setCell ⟨b, 2, none⟩ c2).setCell ⟨b, 3, none⟩ c3).setCell ⟨b, 4, none⟩ c4).setCell ⟨b, 5, none⟩ c5).setCell ⟨b, 6, none⟩ c6) := by
  have h0 : Kept (· = b) w (w.setCell ⟨b, 0, none⟩ c0) := (Kept.refl (· = b) w).setCell _ _ (fun _ => rfl)
  have h1 := h0.setCell ⟨b, 1, none⟩ c1 (fun _ => rfl)
  have h2 := h1.setCell ⟨b, 2, none⟩ c2 (fun _ => rfl)
  have h3 := h2.setCell ⟨b, 3, none⟩ c3 (fun _ => rfl)
  have h4 := h3.setCell ⟨b, 4, none⟩ c4 (fun _ => rfl)
  have h5 := h4.setCell ⟨b, 5, none⟩ c5 (fun _ => rfl)
  have h6 := h5.setCell ⟨b, 6, none⟩ c6 (fun _ => rfl)
  exact h6

theorem Blk.drew {w : World} {b : Nat} {cs : Array Value} {T : TypeId} (h : Blk w b cs T) : Blk w.drew b cs T := h

theorem Blk.set7d {w : World} {b : Nat} {d0 d1 d2 d3 d4 d5 d6 : Value} {T : TypeId} (h : Blk w b #[d0, d1, d2, d3, d4, d5, d6] T) (c0 c1 c2 c3 c4 c5 c6 : Value) :
    Blk (((((((w.setCell ⟨b, 0, none⟩ c0).setCell ⟨b, 1, none⟩ c1).setCell ⟨b, 2, none⟩ c2).setCell ⟨b, 3, none⟩ c3).setCell ⟨b, 4, none⟩ c4).setCell ⟨b, 5, none⟩ c5).setCell ⟨b, 6, none⟩ c6).drew b #[c0, c1, c2, c3, c4, c5, c6] T := (h.set7 c0 c1 c2 c3 c4 c5 c6).drew

theorem kept_set7d (w : World) (b : Nat) (c0 c1 c2 c3 c4 c5 c6 : Value) :
    Kept (· = b) w (((((((w.setCell ⟨b, 0, none⟩ c0).setCell ⟨b, 1, none⟩ c1).setCell ⟨b, 2, none⟩ c2).setCell ⟨b, 3, none⟩ c3).setCell ⟨b, 4, none⟩ c4).setCell ⟨b, 5, none⟩ c5).setCell ⟨b, 6, none⟩ c6).drew := (kept_set7 w b c0 c1 c2 c3 c4 c5 c6).drew

end Go.Proofs.YtcpijmbdibgdmaaGreatDoor
