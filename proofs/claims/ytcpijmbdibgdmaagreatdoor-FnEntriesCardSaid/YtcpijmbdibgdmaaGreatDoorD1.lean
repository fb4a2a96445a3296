/-
  How an object of the package lies in memory: plain notions.
-/
import Derived.Test.YtcpijmbdibgdmaaGreatDoorF1
import Derived.Maps.Views
import Derived.Maps.OwnSet
import Derived.Sort.Walk0
namespace Go.Proofs.YtcpijmbdibgdmaaGreatDoor
open Go Go.RowKit

/-- An element of a map reads as itself. -/
def RV (v : Value) : Option (DataW Value × List MemPlace) := some (.held v, [])

/-- A key. -/
def kl (s : ByteArray) : Lit := .string s.data.toList

theorem kl_key (s : ByteArray) : WideAt.IsKeyLit (kl s) := by
  unfold kl WideAt.IsKeyLit
  trivial

theorem kl_inj {s t : ByteArray} (h : kl s = kl t) : s = t := by
  unfold kl at h
  injection h with h
  have h2 : s.data = t.data := Array.ext' h
  cases s
  cases t
  simp at h2
  rw [h2]

theorem key9 : Go.Maps.Keyed Tryz.prog 9 := Go.Maps.string_keyed Tryz.underlying9

theorem keyOf9 (s : ByteArray) (h : s.size ≤ 140737488355328) : keyOf Tryz.prog 9 (.string s) = some (kl s) :=
  Go.WideMaps.keyOf_string_mk Tryz.underlying9 (by unfold maxLen; omega)

theorem keyOf9_inv {v : Value} {l : Lit} (h : keyOf Tryz.prog 9 v = some l) : ∃ s : ByteArray, v = .string s ∧ l = kl s := by
  have hu := Tryz.underlying9
  cases v <;> simp [keyOf, hu, mapKey] at h
  obtain ⟨_, rfl⟩ := h
  exact ⟨_, rfl, rfl⟩

/-- The map in block `b` has the entries `ks[j]`, `us j` of those `j` that are done, and no others. -/
structure DMap (nb : Nat) (D : DataW Value) (ks : List ByteArray) (us : Nat → Value) (done : Nat → Prop) : Prop where
  isMap : Maps.IsMap D
  size : Maps.size D ≤ nb
  at_ : ∀ j (h : j < ks.length), done j → ∀ z, D.atKey (kl ks[j]) z = .held (us j)
  has : ∀ l, Maps.has D l = true → ∃ (j : Nat) (h : j < ks.length), done j ∧ l = kl ks[j]

def DM (w : World) (b nb : Nat) (ks : List ByteArray) (us : Nat → Value) (done : Nat → Prop) : Prop :=
  ∃ D, w.ownsMap Tryz.prog 9 RV b nb D ∧ DMap nb D ks us done

theorem ownsMap_size {w : World} {b nb : Nat} {D : DataW Value} (h : w.ownsMap Tryz.prog 9 RV b nb D) : Maps.IsMap D ∧ Maps.size D ≤ nb := by
  obtain ⟨es, clock, hb, F, hs, rfl⟩ := h
  refine ⟨⟨_, rfl⟩, ?_⟩
  rw [Maps.size_eq, length_sorted]
  simpa using hs

theorem DM.same {w w' : World} {b nb : Nat} {ks : List ByteArray} {us : Nat → Value} {done : Nat → Prop} (h : DM w b nb ks us done) (e : w'.heap[b]? = w.heap[b]?) : DM w' b nb ks us done := by
  obtain ⟨D, ⟨es, clock, hb, rest⟩, hd⟩ := h
  exact ⟨D, ⟨es, clock, e.trans hb, rest⟩, hd⟩

theorem DM.lt {w : World} {b nb : Nat} {ks : List ByteArray} {us : Nat → Value} {done : Nat → Prop} (h : DM w b nb ks us done) : b < w.heap.size := by
  obtain ⟨D, h, _⟩ := h
  exact h.lt

theorem DM.ofMade (w : World) (ks : List ByteArray) (us : Nat → Value) : DM (w.alloc (.map #[] 0)) w.heap.size 0 ks us (fun _ => False) :=
  ⟨_, World.ownsMap_made w _ _ _, ⟨⟨_, rfl⟩, by simp [Maps.size], fun _ _ h => h.elim, fun l h => by simp [Maps.has] at h⟩⟩

/-- Keys that differ. -/
def Distinct (ks : List ByteArray) : Prop := ∀ i j (hi : i < ks.length) (hj : j < ks.length), ks[i] = ks[j] → i = j

/-- One entry more. -/
theorem DMap.put {nb : Nat} {D : DataW Value} {ks : List ByteArray} {us : Nat → Value} {done : Nat → Prop} (h : DMap nb D ks us done) (hd : Distinct ks) (j : Nat) (hj : j < ks.length) (v : Value) (nb' : Nat) (hnb : Maps.size (D.put (kl ks[j]) (.held v)) ≤ nb') :
    DMap nb' (D.put (kl ks[j]) (.held v)) ks (fun i => if i = j then v else us i) (fun i => i = j ∨ done i) := by
  refine ⟨h.isMap.put _ _, hnb, fun i hi hdone z => ?_, fun l hl => ?_⟩
  · by_cases e : i = j
    · subst e
      rw [if_pos rfl]
      exact Maps.atKey_put_same h.isMap (kl_key _) _ _
    · rw [if_neg e, Maps.atKey_put_other (fun e2 => e (hd i j hi hj (kl_inj e2)))]
      rcases hdone with e2 | h2
      · exact absurd e2 e
      · exact h.at_ i hi h2 z
  · by_cases e : l = kl ks[j]
    · exact ⟨j, hj, .inl rfl, e⟩
    · rw [Maps.has_put_other e] at hl
      obtain ⟨i, hi, h1, h2⟩ := h.has l hl
      exact ⟨i, hi, .inr h1, h2⟩

theorem DMap.congr {nb : Nat} {D : DataW Value} {ks : List ByteArray} {us us' : Nat → Value} {done done' : Nat → Prop} (h : DMap nb D ks us done) (h1 : ∀ j, j < ks.length → (done' j ↔ done j)) (h2 : ∀ j, j < ks.length → done' j → us' j = us j) : DMap nb D ks us' done' :=
  ⟨h.isMap, h.size, fun j hj hd z => by rw [h2 j hj hd]; exact h.at_ j hj ((h1 j hj).1 hd) z, fun l hl => by
    obtain ⟨j, hj, hd, e⟩ := h.has l hl
    exact ⟨j, hj, (h1 j hj).2 hd, e⟩⟩

theorem DMap.has_true {nb : Nat} {D : DataW Value} {ks : List ByteArray} {us : Nat → Value} {done : Nat → Prop} (h : DMap nb D ks us done) (j : Nat) (hj : j < ks.length) (hd : done j) : Maps.has D (kl ks[j]) = true :=
  Maps.has_true_of_atKey (h.at_ j hj hd)

/-- A part that is an object without parts. -/
def Leaf (k i g : Int) (r : Nat) (t : ByteArray) (v : Value) : Prop :=
  (k = 0 ∧ v = .nilIface) ∨ (k = 1 ∧ ∃ x : Bool, v = .iface 66 (.bool x) ∧ i = if x then 1 else 0) ∨ (k = 2 ∧ v = .iface 68 (.int .i64 i)) ∨ (k = 3 ∧ v = .iface 97 (.float .f64 r)) ∨
    (k = 4 ∧ v = .iface 76 (.string t)) ∨ (k = 5 ∧ v = .iface 79 (.string t)) ∨ (k = 6 ∧ v = .iface 73 (.string t)) ∨ (k = 9 ∧ v = .iface 86 (.agg #[.int .i64 i, .int .i64 g]))

/-- The sizes that an object that was read has. -/
structure Fits (r : Nat) (t : ByteArray) (ks : List ByteArray) (cl : Nat) : Prop where
  t : t.size ≤ 140737488351232
  r : r < 18446744073709551616
  kl : ks.length * 16 ≤ 140737488355328
  ks : ∀ j (h : j < ks.length), ks[j].size ≤ 140737488355328
  cl : cl * 96 ≤ 140737488355328

/-- The blocks of an object's parts: apart from its own, and from one another. -/
def Foot (S : Nat → Prop) (b : Nat) (F : Nat → Nat → Prop) : Prop := (∀ j k, F j k → S k ∧ k ≠ b) ∧ ∀ i j k, F i k → F j k → i = j

/-- The value `v` is the package's object of `o`; it lies in blocks of `S`. -/
def PRep : Nat → World → (Nat → Prop) → Value → Ob → Prop
  | 0, _, _, _, _ => False
  | n + 1, w, S, v, .mk k i g r t ks os => Fits r t ks os.length ∧ (Leaf k i g r t v ∨
      (k = 7 ∧ ∃ (a : Option Addr) (cap b : Nat) (us : Nat → Value) (F : Nat → Nat → Prop), v = .iface 80 (.slice a os.length cap) ∧ a ≠ none ∧ (0 < os.length → a = some ⟨b, 0, none⟩ ∧ S b) ∧ Foot S b F ∧
        ∀ j (h : j < os.length), w.cell? ⟨b, j, none⟩ = some (us j) ∧ w.frozen? ⟨b, j, none⟩ = false ∧ PRep n w (F j) (us j) os[j]) ∨
      (k = 8 ∧ ∃ (b nb : Nat) (us : Nat → Value) (F : Nat → Nat → Prop), v = .iface 61 (.map (some b)) ∧ S b ∧ Foot S b F ∧ nb ≤ 140737488355328 ∧ DM w b nb ks us (fun _ => True) ∧ ks.length = os.length ∧ Distinct ks ∧
        ∀ j (h : j < os.length), PRep n w (F j) (us j) os[j]))

theorem PRep.same {n : Nat} : ∀ {w w' : World} {S S' : Nat → Prop} {v : Value} {o : Ob}, PRep n w S v o → (∀ k, S k → w'.heap[k]? = w.heap[k]? ∧ S' k) → PRep n w' S' v o := by
  induction n with
  | zero => intro w w' S S' v o h; exact h.elim
  | succ n ih =>
    intro w w' S S' v o h hS
    obtain ⟨k, i, g, r, t, ks, os⟩ := o
    obtain ⟨hf, h⟩ := h
    refine ⟨hf, ?_⟩
    rcases h with h | ⟨hk, a, cap, b, us, F, hv, hna, ha, hF, hc⟩ | ⟨hk, b, nb, us, F, hv, hb, hF, hnb, hd, hl, hdis, hc⟩
    · exact .inl h
    · refine .inr (.inl ⟨hk, a, cap, b, us, F, hv, hna, fun h => ⟨(ha h).1, (hS b (ha h).2).2⟩, ⟨fun j k hj => ⟨(hS k (hF.1 j k hj).1).2, (hF.1 j k hj).2⟩, hF.2⟩, fun j hj => ?_⟩)
      obtain ⟨h1, h2, h3⟩ := hc j hj
      have hb := (hS b (ha (by omega)).2).1
      exact ⟨(World.cell?_of_block (w := w) (a := ⟨b, j, none⟩) hb).trans h1, (World.frozen?_of_block (w := w) (a := ⟨b, j, none⟩) hb).trans h2, ih h3 (fun k hk => ⟨(hS k (hF.1 j k hk).1).1, hk⟩)⟩
    · refine .inr (.inr ⟨hk, b, nb, us, F, hv, (hS b hb).2, ⟨fun j k hj => ⟨(hS k (hF.1 j k hj).1).2, (hF.1 j k hj).2⟩, hF.2⟩, hnb, hd.same (hS b hb).1, hl, hdis, fun j hj => ih (hc j hj) (fun k hk => ⟨(hS k (hF.1 j k hk).1).1, hk⟩)⟩)

theorem PRep.below {n : Nat} {w w' : World} {S : Nat → Prop} {B : Nat} {v : Value} {o : Ob} (h : PRep n w S v o) (hb : Below B w w') (hS : ∀ k, S k → k < B) : PRep n w' S v o :=
  h.same fun k hk => ⟨hb.block k (hS k hk), hk⟩

theorem PRep.kept {n : Nat} {w w' : World} {S T : Nat → Prop} {v : Value} {o : Ob} (h : PRep n w S v o) (hb : Kept T w w') (hS : ∀ k, S k → k < w.heap.size ∧ ¬ T k) : PRep n w' S v o :=
  h.same fun k hk => ⟨hb.block k (hS k hk).1 (hS k hk).2, hk⟩

theorem PRep.mono {n : Nat} {w : World} {S S' : Nat → Prop} {v : Value} {o : Ob} (h : PRep n w S v o) (hS : ∀ k, S k → S' k) : PRep n w S' v o :=
  h.same fun k hk => ⟨rfl, hS k hk⟩

/-- Two objects whose parts are equal. -/
def EqN : Nat → Ob → Ob → Prop
  | 0, _, _ => False
  | n + 1, .mk k i g r t ks os, .mk k' i' g' r' t' ks' os' => k = k' ∧ i = i' ∧ g = g' ∧ FloatKind.f64.format.order r r' = some Ordering.eq ∧ t = t' ∧ ks = ks' ∧ os.length = os'.length ∧
      ∀ j (h : j < os.length) (h' : j < os'.length), EqN n os[j] os'[j]

end Go.Proofs.YtcpijmbdibgdmaaGreatDoor
