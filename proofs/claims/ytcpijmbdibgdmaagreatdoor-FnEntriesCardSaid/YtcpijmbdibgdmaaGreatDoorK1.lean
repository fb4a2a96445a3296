/-
  Plain notions: the tree that an object (impl.Object) or a value (spec.Value) is, how it lies in memory, and what stays of it where memory below a block is kept.
-/
import Derived.WalkKit
import Derived.Below
import Derived.Lib.Hide
import Derived.WideLaws
import Derived.Deep.Draws
import Derived.Laws.AppendOwn
namespace Go.Proofs.YtcpijmbdibgdmaaGreatDoor
open Go Go.RowKit

theorem store_float {P : Program} (w : World) (a : Addr) (m : Mode) (k : FloatKind) (n : Nat) : (store a (.float k n) m).run P w = stored P w a (.float k n) m := run_store P w a _ m rfl

/-- It returns some bool. -/
def RetBool (e : Ending) : Prop := ∃ x, e = .returned (.bool x)
theorem RetBool.mk (x : Bool) : RetBool (.returned (.bool x)) := ⟨x, rfl⟩
/-- It returns some number. -/
def RetInt (k : IntKind) (e : Ending) : Prop := ∃ n, e = .returned (.int k n)
theorem RetInt.mk (k : IntKind) (n : Int) : RetInt k (.returned (.int k n)) := ⟨n, rfl⟩

/-- Of the blocks that were there, those of `S` alone may have turned. -/
structure Kept (S : Nat → Prop) (w w' : World) : Prop where
  os : w'.os = w.os
  tape : w'.tape = w.tape
  output : w'.output = w.output
  size : w.heap.size ≤ w'.heap.size
  block : ∀ k, k < w.heap.size → ¬ S k → w'.heap[k]? = w.heap[k]?

theorem Kept.refl (S : Nat → Prop) (w : World) : Kept S w w := ⟨rfl, rfl, rfl, Nat.le_refl _, fun _ _ _ => rfl⟩

theorem Kept.trans {S S' : Nat → Prop} {a b c : World} (h : Kept S a b) (h' : Kept S' b c) (hS : ∀ k, k < a.heap.size → S' k → S k) : Kept S a c :=
  ⟨h'.os.trans h.os, h'.tape.trans h.tape, h'.output.trans h.output, Nat.le_trans h.size h'.size,
    fun k hk hn => (h'.block k (Nat.lt_of_lt_of_le hk h.size) (fun hs => hn (hS k hk hs))).trans (h.block k hk hn)⟩

theorem Kept.mono {S S' : Nat → Prop} {a b : World} (h : Kept S a b) (hS : ∀ k, k < a.heap.size → S k → S' k) : Kept S' a b :=
  ⟨h.os, h.tape, h.output, h.size, fun k hk hn => h.block k hk (fun hs => hn (hS k hk hs))⟩

theorem Kept.drew {S : Nat → Prop} {a b : World} (h : Kept S a b) : Kept S a b.drew := ⟨h.os, h.tape, h.output, h.size, h.block⟩

theorem Kept.drewN {S : Nat → Prop} {a b : World} (h : Kept S a b) (n : Nat) : Kept S a (b.drewN n) := ⟨h.os, h.tape, h.output, h.size, h.block⟩

theorem Kept.alloc {S : Nat → Prop} {a b : World} (h : Kept S a b) (o : Obj) : Kept S a (b.alloc o) :=
  ⟨h.os, h.tape, h.output, by have := h.size; simp; omega, fun k hk hn => (Below.heap_alloc _ _ _ (by have := h.size; omega)).trans (h.block k hk hn)⟩

theorem Kept.setCell {S : Nat → Prop} {a b : World} (h : Kept S a b) (p : Addr) (u : Value) (hp : p.block < a.heap.size → S p.block) : Kept S a (b.setCell p u) :=
  ⟨h.os, h.tape, h.output, by have := h.size; simpa [World.setCell] using this, fun k hk hn => (Below.heap_setCell _ _ _ _ (fun e => by subst e; exact hn (hp hk))).trans (h.block k hk hn)⟩

theorem Kept.ofBelow {S : Nat → Prop} {B : Nat} {a b : World} (h : Below B a b) (hB : ∀ k, k < a.heap.size → B ≤ k → S k) : Kept S a b :=
  ⟨h.os, h.tape, h.output, h.size, fun k hk hn => h.block k (Nat.lt_of_not_le fun hb => hn (hB k hk hb))⟩

theorem Kept.below {S : Nat → Prop} {B : Nat} {a b : World} (h : Kept S a b) (hB : ∀ k, S k → B ≤ k) (hs : B ≤ a.heap.size) : Below B a b :=
  ⟨h.os, h.tape, h.output, h.size, fun k hk => h.block k (by omega) (fun hs => absurd (hB k hs) (by omega))⟩

theorem Kept.cell {S : Nat → Prop} {a b : World} (h : Kept S a b) {p : Addr} (hp : p.block < a.heap.size) (hn : ¬ S p.block) : b.cell? p = a.cell? p := World.cell?_of_block (w := a) (h.block p.block hp hn)

theorem Kept.frozen {S : Nat → Prop} {a b : World} (h : Kept S a b) {p : Addr} (hp : p.block < a.heap.size) (hn : ¬ S p.block) : b.frozen? p = a.frozen? p := World.frozen?_of_block (w := a) (h.block p.block hp hn)

/-- An object as a tree. -/
inductive Ob where
  | mk (k i g : Int) (r : Nat) (t : ByteArray) (ks : List ByteArray) (os : List Ob)

/-- Seven cells of a struct lie from `o` on in block `b`, and make up the value `v`. -/
def At7 (w : World) (b o : Nat) (v : Value) : Prop :=
  ∃ c0 c1 c2 c3 c4 c5 c6, v = .agg #[c0, c1, c2, c3, c4, c5, c6] ∧ w.cell? ⟨b, o, none⟩ = some c0 ∧ w.cell? ⟨b, o + 1, none⟩ = some c1 ∧
    w.cell? ⟨b, o + 2, none⟩ = some c2 ∧ w.cell? ⟨b, o + 3, none⟩ = some c3 ∧ w.cell? ⟨b, o + 4, none⟩ = some c4 ∧
    w.cell? ⟨b, o + 5, none⟩ = some c5 ∧ w.cell? ⟨b, o + 6, none⟩ = some c6

/-- The seven cells by what they hold. -/
def Cells7 (w : World) (b o : Nat) (c0 c1 c2 c3 c4 c5 c6 : Value) : Prop :=
  w.cell? ⟨b, o, none⟩ = some c0 ∧ w.cell? ⟨b, o + 1, none⟩ = some c1 ∧
    w.cell? ⟨b, o + 2, none⟩ = some c2 ∧ w.cell? ⟨b, o + 3, none⟩ = some c3 ∧ w.cell? ⟨b, o + 4, none⟩ = some c4 ∧
    w.cell? ⟨b, o + 5, none⟩ = some c5 ∧ w.cell? ⟨b, o + 6, none⟩ = some c6

theorem At7.cells {w : World} {b o : Nat} {c0 c1 c2 c3 c4 c5 c6 : Value} (h : At7 w b o (.agg #[c0, c1, c2, c3, c4, c5, c6])) : Cells7 w b o c0 c1 c2 c3 c4 c5 c6 := by
  obtain ⟨d0, d1, d2, d3, d4, d5, d6, e, h0, h1, h2, h3, h4, h5, h6⟩ := h
  simp only [Value.agg.injEq, Array.mk.injEq, List.cons.injEq, and_true] at e
  obtain ⟨rfl, rfl, rfl, rfl, rfl, rfl, rfl⟩ := e
  exact ⟨h0, h1, h2, h3, h4, h5, h6⟩

theorem At7.below {w w' : World} {B b o : Nat} {v : Value} (h : At7 w b o v) (hb : Below B w w') (hB : b < B) : At7 w' b o v := by
  obtain ⟨c0, c1, c2, c3, c4, c5, c6, rfl, h0, h1, h2, h3, h4, h5, h6⟩ := h
  exact ⟨c0, c1, c2, c3, c4, c5, c6, rfl, by rw [hb.cell hB, h0], by rw [hb.cell hB, h1], by rw [hb.cell hB, h2], by rw [hb.cell hB, h3], by rw [hb.cell hB, h4], by rw [hb.cell hB, h5], by rw [hb.cell hB, h6]⟩

/-- A value (spec.Value) whose parts go fewer than `n` levels deep, the parts' cells in blocks of `S`. -/
def Tree : Nat → World → (Nat → Prop) → Value → Prop
  | 0, _, _, _ => False
  | n + 1, w, S, v => ∃ (k i g : Int) (r : Nat) (t : ByteArray) (ka ca : Option Addr) (kl kc cl cc : Nat),
      v = .agg #[.int .i64 k, .int .i64 i, .int .i64 g, .float .f64 r, .string t, .slice ka kl kc, .slice ca cl cc] ∧ cl * 96 ≤ 140737488355328 ∧
      ∃ b off, (0 < cl → ca = some ⟨b, off, none⟩ ∧ S b) ∧ ∀ j, j < cl → ∃ u, At7 w b (off + j * 7) u ∧ Tree n w S u

theorem At7.same {w w' : World} {b o : Nat} {v : Value} (h : At7 w b o v) (hb : w'.heap[b]? = w.heap[b]?) : At7 w' b o v := by
  have hc : ∀ o, w'.cell? ⟨b, o, none⟩ = w.cell? ⟨b, o, none⟩ := fun o => World.cell?_of_block (w := w) (a := ⟨b, o, none⟩) hb
  obtain ⟨c0, c1, c2, c3, c4, c5, c6, rfl, h⟩ := h
  refine ⟨c0, c1, c2, c3, c4, c5, c6, rfl, ?_⟩
  simp only [hc]
  exact h

theorem Tree.same {n : Nat} : ∀ {w w' : World} {S S' : Nat → Prop} {v : Value}, Tree n w S v → (∀ k, S k → w'.heap[k]? = w.heap[k]? ∧ S' k) → Tree n w' S' v := by
  induction n with
  | zero => intro w w' S S' v h; exact h.elim
  | succ n ih =>
    intro w w' S S' v h hS
    obtain ⟨k, i, g, r, t, ka, ca, kl, kc, cl, cc, rfl, hcl, b, off, hca, hk⟩ := h
    refine ⟨k, i, g, r, t, ka, ca, kl, kc, cl, cc, rfl, hcl, b, off, fun h => ⟨(hca h).1, (hS b (hca h).2).2⟩, fun j hj => ?_⟩
    obtain ⟨u, hu, ht⟩ := hk j hj
    exact ⟨u, hu.same (hS b (hca (by omega)).2).1, ih ht hS⟩

theorem Tree.below {n : Nat} {w w' : World} {S : Nat → Prop} {B : Nat} {v : Value} (h : Tree n w S v) (hb : Below B w w') (hS : ∀ k, S k → k < B) : Tree n w' S v :=
  h.same fun k hk => ⟨hb.block k (hS k hk), hk⟩

theorem Tree.kept {n : Nat} {w w' : World} {S T : Nat → Prop} {v : Value} (h : Tree n w S v) (hb : Kept T w w') (hS : ∀ k, S k → k < w.heap.size ∧ ¬ T k) : Tree n w' S v :=
  h.same fun k hk => ⟨hb.block k (hS k hk).1 (hS k hk).2, hk⟩

theorem Tree.mono {n : Nat} {w : World} {S S' : Nat → Prop} {v : Value} (h : Tree n w S v) (hS : ∀ k, S k → S' k) : Tree n w S' v :=
  h.same fun k hk => ⟨rfl, hS k hk⟩

/-- One level deeper is no harm. -/
theorem Tree.up {n : Nat} : ∀ {w : World} {S : Nat → Prop} {v : Value}, Tree n w S v → Tree (n + 1) w S v := by
  induction n with
  | zero => intro w S v h; exact h.elim
  | succ n ih =>
    intro w S v h
    obtain ⟨k, i, g, r, t, ka, ca, kl, kc, cl, cc, rfl, hcl, b, off, hca, hk⟩ := h
    refine ⟨k, i, g, r, t, ka, ca, kl, kc, cl, cc, rfl, hcl, b, off, hca, fun j hj => ?_⟩
    obtain ⟨u, hu, ht⟩ := hk j hj
    exact ⟨u, hu, ih ht⟩

theorem Tree.form {n : Nat} {w : World} {S : Nat → Prop} {v : Value} (h : Tree n w S v) : ∃ (k i g : Int) (r : Nat) (t : ByteArray) (ka ca : Option Addr) (kl kc cl cc : Nat),
      v = .agg #[.int .i64 k, .int .i64 i, .int .i64 g, .float .f64 r, .string t, .slice ka kl kc, .slice ca cl cc] := by
  cases n with
  | zero => exact h.elim
  | succ n =>
    obtain ⟨k, i, g, r, t, ka, ca, kl, kc, cl, cc, rfl, _⟩ := h
    exact ⟨k, i, g, r, t, ka, ca, kl, kc, cl, cc, rfl⟩

/-- A row of strings in a block of `S`. -/
def StrRow (w : World) (S : Nat → Prop) (ka : Option Addr) (ks : List ByteArray) : Prop :=
  ks.length * 16 ≤ 140737488355328 ∧ ∃ b off, (0 < ks.length → ka = some ⟨b, off, none⟩ ∧ S b) ∧
    ∀ j (h : j < ks.length), w.cell? ⟨b, off + j, none⟩ = some (.string ks[j]) ∧ ks[j].size ≤ 140737488355328

theorem StrRow.same {w w' : World} {S S' : Nat → Prop} {ka : Option Addr} {ks : List ByteArray} (h : StrRow w S ka ks) (hS : ∀ k, S k → w'.heap[k]? = w.heap[k]? ∧ S' k) : StrRow w' S' ka ks := by
  obtain ⟨hl, b, off, ha, hk⟩ := h
  refine ⟨hl, b, off, fun h => ⟨(ha h).1, (hS b (ha h).2).2⟩, fun j hj => ⟨?_, (hk j hj).2⟩⟩
  rw [World.cell?_of_block (w := w) (a := ⟨b, off + j, none⟩) (hS b (ha (by omega)).2).1]
  exact (hk j hj).1

theorem StrRow.below {w w' : World} {S : Nat → Prop} {B : Nat} {ka : Option Addr} {ks : List ByteArray} (h : StrRow w S ka ks) (hb : Below B w w') (hS : ∀ k, S k → k < B) : StrRow w' S ka ks :=
  h.same fun k hk => ⟨hb.block k (hS k hk), hk⟩

/-- The value `v` is the object `o` (impl.Object), of fewer than `n` levels, its parts' cells in blocks of `S`. -/
def Rep : Nat → World → (Nat → Prop) → Value → Ob → Prop
  | 0, _, _, _, _ => False
  | n + 1, w, S, v, .mk k i g r t ks os => ∃ (ka ca : Option Addr) (kc cc : Nat),
      v = .agg #[.int .i64 k, .int .i64 i, .int .i64 g, .float .f64 r, .string t, .slice ka ks.length kc, .slice ca os.length cc] ∧
      t.size ≤ 140737488351232 ∧ r < 18446744073709551616 ∧ StrRow w S ka ks ∧ os.length * 96 ≤ 140737488355328 ∧
      ∃ b off, (0 < os.length → ca = some ⟨b, off, none⟩ ∧ S b) ∧ ∀ j (h : j < os.length), ∃ u, At7 w b (off + j * 7) u ∧ Rep n w S u os[j]

theorem Rep.same {n : Nat} : ∀ {w w' : World} {S S' : Nat → Prop} {v : Value} {o : Ob}, Rep n w S v o → (∀ k, S k → w'.heap[k]? = w.heap[k]? ∧ S' k) → Rep n w' S' v o := by
  induction n with
  | zero => intro w w' S S' v o h; exact h.elim
  | succ n ih =>
    intro w w' S S' v o h hS
    obtain ⟨k, i, g, r, t, ks, os⟩ := o
    obtain ⟨ka, ca, kc, cc, rfl, ht, hr, hs, hl, b, off, hca, hk⟩ := h
    refine ⟨ka, ca, kc, cc, rfl, ht, hr, hs.same hS, hl, b, off, fun h => ⟨(hca h).1, (hS b (hca h).2).2⟩, fun j hj => ?_⟩
    obtain ⟨u, hu, ht⟩ := hk j hj
    exact ⟨u, hu.same (hS b (hca (by omega)).2).1, ih ht hS⟩

theorem Rep.below {n : Nat} {w w' : World} {S : Nat → Prop} {B : Nat} {v : Value} {o : Ob} (h : Rep n w S v o) (hb : Below B w w') (hS : ∀ k, S k → k < B) : Rep n w' S v o :=
  h.same fun k hk => ⟨hb.block k (hS k hk), hk⟩

theorem Rep.kept {n : Nat} {w w' : World} {S T : Nat → Prop} {v : Value} {o : Ob} (h : Rep n w S v o) (hb : Kept T w w') (hS : ∀ k, S k → k < w.heap.size ∧ ¬ T k) : Rep n w' S v o :=
  h.same fun k hk => ⟨hb.block k (hS k hk).1 (hS k hk).2, hk⟩

theorem Rep.mono {n : Nat} {w : World} {S S' : Nat → Prop} {v : Value} {o : Ob} (h : Rep n w S v o) (hS : ∀ k, S k → S' k) : Rep n w S' v o :=
  h.same fun k hk => ⟨rfl, hS k hk⟩

theorem Rep.form {n : Nat} {w : World} {S : Nat → Prop} {v : Value} {o : Ob} (h : Rep n w S v o) : ∃ (k i g : Int) (r : Nat) (t : ByteArray) (ka ca : Option Addr) (kl kc cl cc : Nat),
      v = .agg #[.int .i64 k, .int .i64 i, .int .i64 g, .float .f64 r, .string t, .slice ka kl kc, .slice ca cl cc] := by
  cases n with
  | zero => exact h.elim
  | succ n =>
    obtain ⟨k, i, g, r, t, ks, os⟩ := o
    obtain ⟨ka, ca, kc, cc, rfl, _⟩ := h
    exact ⟨k, i, g, r, t, ka, ca, _, kc, _, cc, rfl⟩

/-- A boxed struct keeps its seven cells where memory below the next block is kept. -/
theorem box7 {w w1 : World} {c0 c1 c2 c3 c4 c5 c6 : Value} {T : TypeId} (h : Below (w.alloc (.cells #[c0, c1, c2, c3, c4, c5, c6] T)).heap.size (w.alloc (.cells #[c0, c1, c2, c3, c4, c5, c6] T)) w1) :
    w1.cell? ⟨w.heap.size, 0, none⟩ = some c0 ∧ w1.cell? ⟨w.heap.size, 1, none⟩ = some c1 ∧ w1.cell? ⟨w.heap.size, 2, none⟩ = some c2 ∧ w1.cell? ⟨w.heap.size, 3, none⟩ = some c3 ∧
      w1.cell? ⟨w.heap.size, 4, none⟩ = some c4 ∧ w1.cell? ⟨w.heap.size, 5, none⟩ = some c5 ∧ w1.cell? ⟨w.heap.size, 6, none⟩ = some c6 := by
  refine ⟨?_, ?_, ?_, ?_, ?_, ?_, ?_⟩ <;> (rw [h.cell (by simp)]; go_simp)

/-- Block `b` is a row of cells, none of which is frozen. -/
def Blk (w : World) (b : Nat) (cs : Array Value) (T : TypeId) : Prop := w.heap[b]? = some (.cells cs T (0, 0))

theorem Blk.lt {w : World} {b : Nat} {cs : Array Value} {T : TypeId} (h : Blk w b cs T) : b < w.heap.size := (Array.getElem?_eq_some_iff.1 h).1
theorem Blk.cell {w : World} {b : Nat} {cs : Array Value} {T : TypeId} (h : Blk w b cs T) (j : Nat) : w.cell? ⟨b, j, none⟩ = cs[j]? := cell_of_row w b j cs T (0, 0) h
theorem Blk.frozen {w : World} {b : Nat} {cs : Array Value} {T : TypeId} (h : Blk w b cs T) (j : Nat) : w.frozen? ⟨b, j, none⟩ = false := by
  unfold World.frozen?
  rw [show w.heap[b]? = _ from h]
  simp
theorem Blk.same {w w' : World} {b : Nat} {cs : Array Value} {T : TypeId} (h : Blk w b cs T) (e : w'.heap[b]? = w.heap[b]?) : Blk w' b cs T := e.trans h
theorem Blk.below {w w' : World} {b B : Nat} {cs : Array Value} {T : TypeId} (h : Blk w b cs T) (hb : Below B w w') (hB : b < B) : Blk w' b cs T := h.same (hb.block b hB)
theorem Blk.kept {w w' : World} {b : Nat} {cs : Array Value} {T : TypeId} {S : Nat → Prop} (h : Blk w b cs T) (hk : Kept S w w') (hn : ¬ S b) : Blk w' b cs T := h.same (hk.block b h.lt hn)
theorem Blk.new (w : World) (cs : Array Value) (T : TypeId) : Blk (w.alloc (.cells cs T)) w.heap.size cs T := heap_alloc_new w _
theorem Blk.alloc {w : World} {b : Nat} {cs : Array Value} {T : TypeId} (h : Blk w b cs T) (o : Obj) : Blk (w.alloc o) b cs T := h.same (Below.heap_alloc _ _ _ h.lt)
theorem Blk.drewN {w : World} {b : Nat} {cs : Array Value} {T : TypeId} (h : Blk w b cs T) (n : Nat) : Blk (w.drewN n) b cs T := h
theorem Blk.set {w : World} {b : Nat} {cs : Array Value} {T : TypeId} (h : Blk w b cs T) (j : Nat) (v : Value) : Blk (w.setCell ⟨b, j, none⟩ v) b (cs.setIfInBounds j v) T := by
  unfold Blk World.setCell
  simp only [Array.getElem?_modify, if_true]
  rw [show w.heap[b]? = _ from h]
  simp
theorem Blk.setOther {w : World} {b : Nat} {cs : Array Value} {T : TypeId} (h : Blk w b cs T) (a : Addr) (v : Value) (hn : a.block ≠ b) : Blk (w.setCell a v) b cs T := h.same (Below.heap_setCell _ _ _ _ (Ne.symm hn))

/-- Whatever cells below a block hold stays. -/
theorem bcell {B : Nat} {W w1 : World} (hb : Below B W w1) : (∀ b o, b < B → w1.cell? ⟨b, o, none⟩ = W.cell? ⟨b, o, none⟩) ∧ (∀ b o, b < B → w1.frozen? ⟨b, o, none⟩ = W.frozen? ⟨b, o, none⟩) :=
  ⟨fun b o h => hb.cell (p := ⟨b, o, none⟩) h, fun b o h => hb.frozen (p := ⟨b, o, none⟩) h⟩

end Go.Proofs.YtcpijmbdibgdmaaGreatDoor
