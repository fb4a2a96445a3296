/-
  Slices that a call grows by append, one element at a time: laws for the walks.
-/
import Derived.Test.YtcpijmbdibgdmaaGreatDoorProg
import Derived.Test.YtcpijmbdibgdmaaGreatDoorK1
import Derived.Laws.AppendOwn
import Derived.Laws.BytesArg
import Derived.OwnWalk
import Derived.KernelRfl
namespace Go.Proofs.YtcpijmbdibgdmaaGreatDoor
open Go Go.RowKit

theorem Tryz.info5 : (Tryz.prog.info? 5).map (fun i => (i.zero, i.size, i.bytes)) = some (some (.int .u8 0), 1, 1) := by kernel_rfl
theorem Tryz.info9 : (Tryz.prog.info? 9).map (fun i => (i.zero, i.size, i.bytes)) = some (some (.string ByteArray.empty), 1, 16) := by kernel_rfl
theorem Tryz.info51 : (Tryz.prog.info? 51).map (fun i => (i.zero, i.size, i.bytes)) = some (some .nilIface, 1, 16) := by kernel_rfl
theorem Tryz.info26 : (Tryz.prog.info? 26).map (fun i => (i.zero, i.size, i.bytes)) = some (some (.agg #[.int .i64 0, .int .i64 0, .int .i64 0, .float .f64 0, .string ByteArray.empty, .slice none 0 0, .slice none 0 0]), 7, 96) := by kernel_rfl
theorem Tryz.info30 : (Tryz.prog.info? 30).map (fun i => (i.zero, i.size, i.bytes)) = some (some (.agg #[.int .i64 0, .int .i64 0, .int .i64 0, .float .f64 0, .string ByteArray.empty, .slice none 0 0, .slice none 0 0]), 7, 96) := by kernel_rfl

/-- `xs = append(xs, x)` on a slice that the call owns: one element of `size` cells, which has just been laid. -/
theorem wp_app1 {ops : Array Oper} {rest : List Oper} {o : Oper} {a : Act} {Q : Exit → Act → World → Prop} {W : World} (T E size bytes : Nat) (z : Value)
    (hinfo : (Tryz.prog.info? E).map (fun i => (i.zero, i.size, i.bytes)) = some (some z, size, bytes)) (ht : Tryz.prog.underlying T = some (.slice E)) (hzs : z.cells.size = size) (hsz : 0 < size)
    (base : Nat) (v : Value) (n : Nat) (xs news : List Value) (s x : Operand) (c : Nat) (w : World) (hgd : o.guard = none)
    (ho : o.op = .call { callee := .builtin .append, args := #[s, x], argTypes := #[T, T] })
    (N : Nat) (hW : W = w.alloc (.cells news.toArray E)) (hs : a.eval s = v) (hx : a.eval x = .slice (some ⟨N, 0, none⟩) 1 c) (hN : N = w.heap.size) (hown : w.ownsRow base E size v n xs)
    (hl : news.length = size) (h1 : ∀ u ∈ news, u.oneCell' = true) (hbytes : (n + 1) * bytes ≤ 140737488355328) (h63 : n + 1 ≤ 140737488355328) (hbase : base ≤ w.heap.size)
    (h : ∀ v' w', w'.ownsRow base E size v' (n + 1) (xs ++ news) → Kept (fun k => v.ownBlock = some k) w w' → wpList Tryz.prog ops Q rest (a.put o.dst v') w') :
    wpList Tryz.prog ops Q (o :: rest) a W := by
  obtain ⟨i, hi, hz0, hz1, hz2⟩ := info_parts hinfo
  subst hN
  subst hW
  refine wpList_append_own _ hgd s x T ho base E i z size bytes ht hi hz0 hz1 hz2 hzs hsz v n xs hs (hown.alloc _) ⟨w.heap.size, 0, none⟩ 1 c news hx (by rw [hl]; omega) ?_ h1 (by unfold maxLen; omega) hbytes (by simp; omega) ?_
  · intro j u hu
    have hadd : (⟨w.heap.size, 0, none⟩ : Addr).add j = ⟨w.heap.size, j, none⟩ := by unfold Addr.add; split <;> simp_all
    rw [hadd, World.cell?_alloc_new]
    simpa using hu
  · intro v' w' hown' hg _
    exact h v' w' hown' ⟨hg.os, hg.tape, hg.output, by have := hg.size; simp at this; omega, fun k hk hn => (hg.block k (by simp; omega) (fun e => hn e.symm)).trans (Below.heap_alloc _ _ _ hk)⟩

theorem Kept.own {S : Nat → Prop} {w w' : World} {base : Nat} {e : TypeId} {size : Nat} {v : Value} {n : Nat} {xs : List Value} (hk : Kept S w w') (h : w.ownsRow base e size v n xs) (hn : ∀ k, v.ownBlock = some k → ¬ S k) : w'.ownsRow base e size v n xs := by
  refine ⟨h.1, ?_⟩
  rcases h.2 with h2 | ⟨g, cap, cur, rfl, hb, hg, rest⟩
  · exact .inl h2
  · refine .inr ⟨g, cap, cur, rfl, hb, ?_, rest⟩
    rw [hk.block g (Array.getElem?_eq_some_iff.1 hg).1 (hn g rfl)]
    exact hg

/-- Where nothing but the call's own row has turned, all that was there before the call is as it was. -/
theorem Kept.own_trans {S : Nat → Prop} {w wr w' : World} {base : Nat} {e : TypeId} {size : Nat} {v : Value} {n : Nat} {xs : List Value} (h : Kept S w wr) (hown : wr.ownsRow base e size v n xs) (hk : Kept (fun k => v.ownBlock = some k) wr w') (hb : w.heap.size ≤ base) : Kept S w w' :=
  h.trans hk (fun k hk e => absurd (hown.lt k e).1 (by omega))

/-- A row of bytes that the call owns, as a string. -/
theorem conv_bytes {w : World} {base : Nat} {v : Value} {xs : List Int} (h : w.ownsRow base 5 1 v xs.length (xs.map (Value.int .u8))) :
    ∃ s : ByteArray, s = strOfNums xs ∧ (convert 102 9 v).run Tryz.prog w = .ok (.string s) w := by
  rcases h.2 with ⟨rfl, hn⟩ | ⟨g, cap, cur, rfl, hb, hg, hcap, hm, hsz, htake⟩
  · refine ⟨_, rfl, ?_⟩
    rw [run_convert_bytes_nil w 102 5 Tryz.underlying102 Tryz.underlying5 0 0 9 Tryz.underlying9]
    obtain rfl : xs = [] := List.length_eq_zero_iff.1 hn
    rfl
  · refine ⟨_, rfl, run_convert_bytes_arg w 102 5 Tryz.underlying102 Tryz.underlying5 g 0 xs.length cap xs rfl ?_ 9 Tryz.underlying9⟩
    intro i hi
    rw [cell_of_row w g (0 + i) cur 5 (0, 0) hg]
    have : (cur.toList.take (xs.length * 1))[i]? = (xs.map (Value.int .u8))[i]? := by rw [htake]
    rw [List.getElem?_take, if_pos (by omega)] at this
    simp only [Nat.zero_add]
    rw [← Array.getElem?_toList, this]
    simp [List.getD, hi]

theorem size_strOfNums (xs : List Int) : (strOfNums xs).size = xs.length := by
  show (List.map (fun n => UInt8.ofNat n.toNat) xs).toArray.size = _
  simp

end Go.Proofs.YtcpijmbdibgdmaaGreatDoor

/-
  The append law once more, telling where the new row lies: in the old row's block, or in a new block.
-/
namespace Go.Proofs.YtcpijmbdibgdmaaGreatDoor
open Go Go.RowKit

theorem run_app {P : Program} (w : World) (base : Nat) (t ty e : TypeId) (i : TypeInfo) (z : Value) (size bytes : Nat) (ht : P.underlying t = some (.slice e)) (hi : P.info? e = some i) (hz : i.zero = some z)
    (hsize : i.size = size) (hby : i.bytes = bytes) (hzs : z.cells.size = size) (hsz : 0 < size)
    (v : Value) (n : Nat) (xs : List Value) (hown : w.ownsRow base e size v n xs)
    (a : Addr) (m c : Nat) (news : List Value) (hl : news.length = m * size) (hnews : ∀ j u, news[j]? = some u → w.cell? (a.add j) = some u) (h1 : ∀ u ∈ news, u.oneCell' = true)
    (hm : 0 < m) (h63 : n + m ≤ 140737488355328) (hbytes : (n + m) * bytes ≤ 140737488355328) (hbase : base ≤ w.heap.size) :
    ∃ v' w', (Builtin.append_ #[t, t] ty #[v, .slice (some a) m c]).run P w = .ok v' w' ∧ w'.ownsRow base e size v' (n + m) (xs ++ news) ∧ w.grownBy w' v.ownBlock ∧
      (v'.ownBlock = v.ownBlock ∨ v'.ownBlock = some w.heap.size) := by
  obtain ⟨v', w', hr, ho, hg, _⟩ := run_append_own (P := P) w base t ty e i z size bytes ht hi hz hsize hby hzs hsz v n xs hown a m c news hl hnews h1 (by unfold maxLen; omega) hbytes hbase
  refine ⟨v', w', hr, ho, hg, ?_⟩
  subst hsize
  subst hby
  rcases hown.2 with ⟨rfl, rfl⟩ | ⟨g, cap, cur, rfl, hbg, hgg, hnc, hcm, hcs, htake⟩
  · have hr2 := run_append_nil (P := P) w t ty e i z ht hi hz a m c news hl hnews hm (by omega) (by simp at hbytes; omega)
    rw [hr2] at hr
    injection hr with e1 e2
    subst e1
    exact .inr rfl
  · by_cases hroom : n + m ≤ cap
    · obtain ⟨w2, hr2, _⟩ := run_append_fits (P := P) w base t ty e i i.size ht hi rfl g n cap xs hown a m c news hl hnews h1 hroom
      rw [hr2] at hr
      injection hr with e1 e2
      subst e1
      exact .inl rfl
    · have holds : ∀ j u, xs[j]? = some u → w.cell? ((⟨g, 0, none⟩ : Addr).add j) = some u := hown.cells (g := g) rfl
      have hr2 := run_append_grow (P := P) w t ty e i z ht hi hz ⟨g, 0, none⟩ n cap xs hown.1 holds a m c news hl hnews (by omega) (by omega) (growslice_fits (by omega) hbytes)
      rw [hr2] at hr
      injection hr with e1 e2
      subst e1
      exact .inr rfl

/-- `xs = append(xs, x)` on a slice that the call owns: one element of `size` cells, which has just been laid; with the place of the new row. -/
theorem wp_app2 {ops : Array Oper} {rest : List Oper} {o : Oper} {a : Act} {Q : Exit → Act → World → Prop} {W : World} (T E size bytes : Nat) (z : Value)
    (hinfo : (Tryz.prog.info? E).map (fun i => (i.zero, i.size, i.bytes)) = some (some z, size, bytes)) (ht : Tryz.prog.underlying T = some (.slice E)) (hzs : z.cells.size = size) (hsz : 0 < size)
    (base : Nat) (v : Value) (n : Nat) (xs news : List Value) (s x : Operand) (c : Nat) (w : World) (hgd : o.guard = none)
    (ho : o.op = .call { callee := .builtin .append, args := #[s, x], argTypes := #[T, T] })
    (N : Nat) (hW : W = w.alloc (.cells news.toArray E)) (hs : a.eval s = v) (hx : a.eval x = .slice (some ⟨N, 0, none⟩) 1 c) (hN : N = w.heap.size) (hown : w.ownsRow base E size v n xs)
    (hl : news.length = size) (h1 : ∀ u ∈ news, u.oneCell' = true) (hbytes : (n + 1) * bytes ≤ 140737488355328) (h63 : n + 1 ≤ 140737488355328) (hbase : base ≤ w.heap.size)
    (h : ∀ v' w', w'.ownsRow base E size v' (n + 1) (xs ++ news) → Kept (fun k => v.ownBlock = some k) w w' → (v'.ownBlock = v.ownBlock ∨ ∃ k, v'.ownBlock = some k ∧ w.heap.size ≤ k) → wpList Tryz.prog ops Q rest (a.put o.dst v') w') :
    wpList Tryz.prog ops Q (o :: rest) a W := by
  obtain ⟨i, hi, hz0, hz1, hz2⟩ := info_parts hinfo
  subst hN
  subst hW
  refine wpList_plain hgd fun _ hK => ?_
  obtain ⟨v', w', hr, h2, h3, h4⟩ := run_app (P := Tryz.prog) (w.alloc (.cells news.toArray E)) base T o.type E i z size bytes ht hi hz0 hz1 hz2 hzs hsz v n xs (hown.alloc _) ⟨w.heap.size, 0, none⟩ 1 c news (by rw [hl]; omega)
    (by
      intro j u hu
      have hadd : (⟨w.heap.size, 0, none⟩ : Addr).add j = ⟨w.heap.size, j, none⟩ := by unfold Addr.add; split <;> simp_all
      rw [hadd, World.cell?_alloc_new]
      simpa using hu) h1 (by omega) h63 hbytes (by simp; omega)
  unfold Oper.wp execOp
  simp only [ho, resolve, invoke, builtin, Sem.run_bind, Sem.run_pure, Result.andThen_ok, List.map_toArray, List.map_cons, List.map_nil, hs, hx, hr]
  refine hK _ _ (h v' w' h2 ⟨h3.os, h3.tape, h3.output, by have := h3.size; simp at this; omega, fun k hk hn => (h3.block k (by simp; omega) (fun e => hn e.symm)).trans (Below.heap_alloc _ _ _ hk)⟩ ?_)
  rcases h4 with h4 | h4
  · exact .inl h4
  · exact .inr ⟨_, h4, by simp⟩

end Go.Proofs.YtcpijmbdibgdmaaGreatDoor
