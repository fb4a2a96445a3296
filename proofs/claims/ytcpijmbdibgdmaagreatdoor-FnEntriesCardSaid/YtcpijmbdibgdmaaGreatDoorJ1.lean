/-
  An argument that reads as an object is one: from the reading to the memory.
-/
import Derived.Test.YtcpijmbdibgdmaaGreatDoorG1
import Derived.Deep.Slices
import Derived.ChangeArms
import Derived.OpenShut
import Derived.SizedLaws
import Derived.KernelRfl
namespace Go.Proofs.YtcpijmbdibgdmaaGreatDoor
open Go Go.RowKit

instance : Inhabited Ob := ⟨.mk 0 0 0 0 ByteArray.empty [] []⟩

theorem trod_float {H : Type} {enc : TypeId × Value → H} {P : Program} {w : World} {base : Nat} {spare : Nat → Bool} {held : Bool} {fuel : Nat} {t : TypeId} {cs : List Value} {x : DataW H × List MemPlace} {k : FloatKind}
    (ht : P.underlying t = some (.float k)) (h : DataW.trod enc P w base spare held fuel t cs = some x) : ∃ n, cs = [.float k n] ∧ x = (.lit (.float k n), []) ∧ (Lit.float k n).wf = true := by
  cases fuel with
  | zero => simp [DataW.trod] at h
  | succ n =>
    unfold DataW.trod at h
    rw [ht] at h
    split at h <;> simp_all

theorem weightsAll_mem {H : Type} {P : Program} {e : TypeId} {d : DataW H} {k : Nat} (hk : k ∈ d.weights P e) : ∀ {l : List (DataW H)}, d ∈ l → k ∈ DataW.weightsAll P e l
  | [], h => by simp at h
  | x :: r, h => by
    unfold DataW.weightsAll
    rw [List.mem_append]
    rcases List.mem_cons.1 h with rfl | h
    · exact .inl hk
    · exact .inr (weightsAll_mem hk h)

theorem cell_spot {w : World} {a : Addr} {v : Value} (h : w.cell? a = some v) : a.spot = none := by
  unfold World.cell? at h
  split at h
  · cases hs : a.spot with
    | none => rfl
    | some s => simp [hs] at h
  · simp at h

theorem cells26 : Tryz.prog.cellsOf 26 = 7 := by kernel_rfl
theorem cells23 : Tryz.prog.cellsOf 23 = 1 := by kernel_rfl
theorem cells24 : Tryz.prog.cellsOf 24 = 1 := by kernel_rfl
theorem cells22 : Tryz.prog.cellsOf 22 = 1 := by kernel_rfl
theorem cells9 : Tryz.prog.cellsOf 9 = 1 := by kernel_rfl
theorem cells3 : Tryz.prog.cellsOf 3 = 1 := by kernel_rfl
theorem bytes26 : Tryz.prog.bytesOf 26 = 96 := by kernel_rfl
theorem bytes9 : Tryz.prog.bytesOf 9 = 16 := by kernel_rfl

/-- A row of strings. -/
theorem strRow_of_trod {H : Type} {enc : TypeId × Value → H} {W : World} {sp : Nat → Bool} {held : Bool} {m : Nat} {cs : List Value} {x : DataW H × List MemPlace} (h : DataW.trod enc Tryz.prog W 0 sp held m 23 cs = some x)
    (hw : ∀ k ∈ x.1.weights Tryz.prog 23, k ≤ reachBytes) : ∃ (ka : Option Addr) (ks : List ByteArray) (kc : Nat), cs = [.slice ka ks.length kc] ∧ StrRow W (fun k => k < W.heap.size) ka ks := by
  rcases DataW.trod_slice Tryz.underlying23 h with ⟨rfl, rfl⟩ | ⟨a, len, cap, elems, rest, n, rfl, rfl, rfl, hb, hl, hm, hlen, hel, hsp, hns⟩
  · exact ⟨none, [], 0, rfl, by simp, 0, 0, fun h => by simp at h, fun j hj => by simp at hj⟩
  · rw [cells9] at hel
    have hstr : ∀ i, i < len → ∃ s : ByteArray, W.cell? (a.add i) = some (.string s) ∧ s.size ≤ reachBytes := by
      intro i hi
      have h1 := hel i hi
      rw [Nat.mul_one] at h1
      have hi2 : i < elems.length := by omega
      rw [List.getElem?_eq_getElem hi2] at h1
      obtain ⟨cs', hc, ht⟩ := Option.bind_eq_some_iff.1 h1
      obtain ⟨s, rfl, he, _⟩ := DataW.trod_string Tryz.underlying9 ht
      refine ⟨s, ChangeShapes.cell_of_cells?_one hc, ?_⟩
      have : s.size ∈ (elems[i]).1.weights Tryz.prog 9 := by
        rw [he]
        simp [DataW.weights]
      refine hw _ ?_
      unfold DataW.weights
      rw [Tryz.underlying23]
      refine List.mem_cons_of_mem _ (List.mem_append_left _ (weightsAll_mem this ?_))
      exact List.mem_map_of_mem (List.getElem_mem hi2)
    obtain ⟨f, hf⟩ := Deep.choose_lt (α := ByteArray) hstr
    have hwk : len * 16 ≤ 140737488351232 := by
      have := hw ((elems.length + rest.length) * 16) (by
        unfold DataW.weights
        rw [Tryz.underlying23]
        simp [bytes9])
      unfold reachBytes at this
      omega
    have hadd : ∀ j, j < len → a.add j = ⟨a.block, a.off + j, none⟩ := by
      intro j hj
      have hs := cell_spot (hf 0 (by omega)).1
      cases a
      simp [Addr.add] at hs ⊢
      exact fun h0 => ⟨h0, hs⟩
    refine ⟨some a, (List.range len).map f, cap, by simp, by simp; omega, a.block, a.off, fun h => ?_, fun j hj => ?_⟩
    · have h0 : 0 < len := by simpa using h
      have hc := (hf 0 h0).1
      refine ⟨?_, ?_⟩
      · have := hadd 0 h0
        rw [← show (⟨a.block, a.off + 0, none⟩ : Addr) = ⟨a.block, a.off, none⟩ from rfl, ← this]
        simp [Addr.add]
      · rw [hadd 0 h0] at hc
        exact World.block_lt_of_cell? W ⟨a.block, a.off + 0, none⟩ hc
    · have hj' : j < len := by simpa using hj
      obtain ⟨h1, h2⟩ := hf j hj'
      rw [hadd j hj'] at h1
      refine ⟨?_, ?_⟩
      · simp only [List.getElem_map, List.getElem_range]
        exact h1
      · simp only [List.getElem_map, List.getElem_range]
        unfold reachBytes at h2
        omega

set_option maxRecDepth 100000 in
/-- An object. -/
theorem rep_of_trod {H : Type} {enc : TypeId × Value → H} {W : World} {sp : Nat → Bool} {held : Bool} (n : Nat) : ∀ (m : Nat), m ≤ n → ∀ (cs : List Value) (x : DataW H × List MemPlace), DataW.trod enc Tryz.prog W 0 sp held m 26 cs = some x →
    (∀ k ∈ x.1.weights Tryz.prog 26, k ≤ reachBytes) → ∃ c0 c1 c2 c3 c4 c5 c6 o, cs = [c0, c1, c2, c3, c4, c5, c6] ∧ Rep n W (fun k => k < W.heap.size) (.agg #[c0, c1, c2, c3, c4, c5, c6]) o := by
  induction n with
  | zero =>
    intro m hm cs x h
    obtain rfl : m = 0 := by omega
    simp [DataW.trod] at h
  | succ n ih =>
    intro m hm cs x h hw
    obtain ⟨xs, q, rfl, rfl, hl, hxl, hf⟩ := DataW.trod_struct Tryz.underlying26 h
    rw [cells26] at hl
    match cs, hl with
    | [c0, c1, c2, c3, c4, c5, c6], _ =>
      match xs, hxl with
      | [x0, x1, x2, x3, x4, x5, x6], _ =>
        have h0 := hf 0 _ rfl
        have h1 := hf 1 _ rfl
        have h2 := hf 2 _ rfl
        have h3 := hf 3 _ rfl
        have h4 := hf 4 _ rfl
        have h5 := hf 5 _ rfl
        have h6 := hf 6 _ rfl
        clear hf
        simp [cells3, cells22, cells9, cells23, cells24] at h0 h1 h2 h3 h4 h5 h6
        have hwe : ∀ (j : Nat) (t : TypeId) (d : DataW H), [(3 : TypeId), 3, 3, 22, 9, 23, 24][j]? = some t → [x0.1, x1.1, x2.1, x3.1, x4.1, x5.1, x6.1][j]? = some d → ∀ k ∈ d.weights Tryz.prog t, k ≤ reachBytes := by
          intro j t d hj hd k hk
          refine hw k ?_
          unfold DataW.weights
          rw [Tryz.underlying26]
          exact DataW.weights_mem_each (ts := [3, 3, 3, 22, 9, 23, 24]) hj hd k hk
        obtain ⟨k, e0, _, _⟩ := DataW.trod_int Tryz.underlying3 h0
        obtain ⟨i, e1, _, _⟩ := DataW.trod_int Tryz.underlying3 h1
        obtain ⟨g, e2, _, _⟩ := DataW.trod_int Tryz.underlying3 h2
        obtain ⟨r, e3, _, hr⟩ := trod_float Tryz.underlying22 h3
        obtain ⟨t, e4, e4', _⟩ := DataW.trod_string Tryz.underlying9 h4
        obtain ⟨ka, ks, kc, e5, hks⟩ := strRow_of_trod h5 (hwe 5 23 _ rfl rfl)
        have hts := hwe 4 9 _ rfl rfl t.size (by rw [e4']; simp [DataW.weights])
        have hw6 := hwe 6 24 _ rfl rfl
        simp at e0 e1 e2 e3 e4 e5
        subst e0 e1 e2 e3 e4 e5
        simp [Lit.wf] at hr
        unfold reachBytes at hts
        clear h0 h1 h2 h3 h4 h5 e4' hwe
        rcases DataW.trod_slice Tryz.underlying24 h6 with ⟨e6, _⟩ | ⟨a, len, cap, elems, rest, q', hq, e6, e6', _, hlc, _, hlen, hel, _, _⟩
        · simp at e6
          subst e6
          exact ⟨_, _, _, _, _, _, _, .mk k i g r t ks [], rfl, ka, none, kc, 0, rfl, hts, hr, hks, by simp, 0, 0, fun h => by simp at h, fun j hj => by simp at hj⟩
        · simp at e6
          subst e6
          rw [cells26] at hel
          have hob : ∀ j, j < len → ∃ o : Ob, ∃ u, (∃ c0 c1 c2 c3 c4 c5 c6, u = .agg #[c0, c1, c2, c3, c4, c5, c6] ∧ ∀ z, z < 7 → W.cell? ((a.add (j * 7)).add z) = [c0, c1, c2, c3, c4, c5, c6][z]?) ∧ Rep n W (fun k => k < W.heap.size) u o := by
            intro j hj
            have hj2 : j < elems.length := by omega
            have hz := hel j hj
            rw [List.getElem?_eq_getElem hj2] at hz
            obtain ⟨cs', hc, ht⟩ := Option.bind_eq_some_iff.1 hz
            obtain ⟨d0, d1, d2, d3, d4, d5, d6, o, rfl, ho⟩ := ih q' (by omega) cs' _ ht (fun k hk => hw6 k (by
              rw [e6']
              unfold DataW.weights
              rw [Tryz.underlying24]
              exact List.mem_cons_of_mem _ (List.mem_append_left _ (weightsAll_mem hk (List.mem_map_of_mem (List.getElem_mem hj2))))))
            exact ⟨o, _, ⟨d0, d1, d2, d3, d4, d5, d6, rfl, (World.cells?_some hc).2.2⟩, ho⟩
          obtain ⟨f, hf⟩ := Deep.choose_lt (α := Ob) hob
          have hwl : len * 96 ≤ 140737488351232 := by
            have := hw6 ((elems.length + rest.length) * 96) (by
              rw [e6']
              unfold DataW.weights
              rw [Tryz.underlying24]
              simp [bytes26])
            unfold reachBytes at this
            omega
          have hsp : 0 < len → a.spot = none := by
            intro h0
            obtain ⟨u, ⟨d0, d1, d2, d3, d4, d5, d6, _, hc⟩, _⟩ := hf 0 h0
            have := cell_spot (hc 0 (by omega))
            simpa [Addr.add] using this
          have hadd : ∀ j z, j < len → (a.add (j * 7)).add z = ⟨a.block, a.off + j * 7 + z, none⟩ := by
            intro j z hj
            have hs := hsp (by omega)
            cases a
            simp at hs
            subst hs
            simp only [Addr.add]
            split <;> split <;> simp_all
          refine ⟨_, _, _, _, _, _, _, .mk k i g r t ks ((List.range len).map f), rfl, ka, some a, kc, cap, by simp, hts, hr, hks, by simp; omega, a.block, a.off, fun h => ?_, fun j hj => ?_⟩
          · have h0 : 0 < len := by simpa using h
            obtain ⟨u, ⟨d0, d1, d2, d3, d4, d5, d6, _, hc⟩, _⟩ := hf 0 h0
            have hc0 := hc 0 (by omega)
            rw [hadd 0 0 h0] at hc0
            have hs := hsp h0
            refine ⟨?_, World.block_lt_of_cell? W ⟨a.block, a.off + 0 * 7 + 0, none⟩ hc0⟩
            cases a
            simp at hs
            rw [hs]
          · have hj' : j < len := by simpa using hj
            obtain ⟨u, ⟨d0, d1, d2, d3, d4, d5, d6, hu, hc⟩, ho⟩ := hf j hj'
            refine ⟨u, ?_, ?_⟩
            · have hcz : ∀ z, z < 7 → W.cell? ⟨a.block, a.off + j * 7 + z, none⟩ = [d0, d1, d2, d3, d4, d5, d6][z]? := fun z hz => by rw [← hadd j z hj']; exact hc z hz
              exact ⟨d0, d1, d2, d3, d4, d5, d6, hu, hcz 0 (by omega), hcz 1 (by omega), hcz 2 (by omega), hcz 3 (by omega), hcz 4 (by omega), hcz 5 (by omega), hcz 6 (by omega)⟩
            · simp only [List.getElem_map, List.getElem_range]
              exact ho

end Go.Proofs.YtcpijmbdibgdmaaGreatDoor
