/-
  impl.Entries of a dictionary and a key.
-/
import Derived.Test.YtcpijmbdibgdmaaGreatDoorE5
import Derived.Test.YtcpijmbdibgdmaaGreatDoorD16
namespace Go.Proofs.YtcpijmbdibgdmaaGreatDoor
open Go Go.RowKit

def kindsL : List Int := [1, 2, 2, 6, 4, 5, 7, 8, 9]

/-- What is wanted of an entry as one kind. -/
def wantOb (o : Ob) (k : Int) : Ob := if kindOf o = k then o else nullOb

theorem prep_dict8 {n : Nat} {w : World} {S : Nat → Prop} {u : Value} {i g : Int} {r : Nat} {t : ByteArray} {ks : List ByteArray} {os : List Ob} (h : PRep (n + 1) w S u (.mk 8 i g r t ks os)) :
    Fits r t ks os.length ∧ ∃ (b nb : Nat) (us : Nat → Value) (F : Nat → Nat → Prop), u = .iface 61 (.map (some b)) ∧ S b ∧ Foot S b F ∧ nb ≤ 140737488355328 ∧ DM w b nb ks us (fun _ => True) ∧ ks.length = os.length ∧ Distinct ks ∧ ∀ j (h : j < os.length), PRep n w (F j) (us j) os[j] := by
  obtain ⟨hf, h⟩ := h
  refine ⟨hf, ?_⟩
  rcases h with h | ⟨h, _⟩ | ⟨_, h⟩
  · rcases h with ⟨h, _⟩ | ⟨h, _⟩ | ⟨h, _⟩ | ⟨h, _⟩ | ⟨h, _⟩ | ⟨h, _⟩ | ⟨h, _⟩ | ⟨h, _⟩ <;> omega
  · omega
  · exact h

/-- The value of a part, by its kind. -/
theorem prep_form {m : Nat} {w : World} {S : Nat → Prop} {u : Value} {k i g : Int} {r : Nat} {t : ByteArray} {ks : List ByteArray} {os : List Ob} (h : PRep (m + 1) w S u (.mk k i g r t ks os)) :
    (k = 0 ∧ u = .nilIface) ∨ (k = 1 ∧ ∃ x, u = .iface 66 (.bool x)) ∨ (k = 2 ∧ ∃ x, u = .iface 68 (.int .i64 x)) ∨ (k = 3 ∧ ∃ x, u = .iface 97 x) ∨ (k = 4 ∧ ∃ x, u = .iface 76 (.string x)) ∨ (k = 5 ∧ ∃ x, u = .iface 79 (.string x)) ∨
      (k = 6 ∧ ∃ x, u = .iface 73 (.string x)) ∨ (k = 9 ∧ ∃ x g, u = .iface 86 (.agg #[.int .i64 x, .int .i64 g])) ∨ (k = 7 ∧ ∃ xa xl xc, u = .iface 80 (.slice (some xa) xl xc)) ∨ (k = 8 ∧ ∃ xb, u = .iface 61 (.map (some xb))) := by
  rcases h.2 with h | ⟨h, a, cap, b, us, F, hv, hna, _⟩ | ⟨h, b, nb, us, F, hv, _⟩
  · rcases h with ⟨h, h1⟩ | ⟨h, x, h1, _⟩ | ⟨h, h1⟩ | ⟨h, h1⟩ | ⟨h, h1⟩ | ⟨h, h1⟩ | ⟨h, h1⟩ | ⟨h, h1⟩
    · exact .inl ⟨h, h1⟩
    · exact .inr (.inl ⟨h, _, h1⟩)
    · exact .inr (.inr (.inl ⟨h, _, h1⟩))
    · exact .inr (.inr (.inr (.inl ⟨h, _, h1⟩)))
    · exact .inr (.inr (.inr (.inr (.inl ⟨h, _, h1⟩))))
    · exact .inr (.inr (.inr (.inr (.inr (.inl ⟨h, _, h1⟩)))))
    · exact .inr (.inr (.inr (.inr (.inr (.inr (.inl ⟨h, _, h1⟩))))))
    · exact .inr (.inr (.inr (.inr (.inr (.inr (.inr (.inl ⟨h, _, _, h1⟩)))))))
  · cases a with
    | none => exact absurd rfl hna
    | some a => exact .inr (.inr (.inr (.inr (.inr (.inr (.inr (.inr (.inl ⟨h, _, _, _, hv⟩))))))))
  · exact .inr (.inr (.inr (.inr (.inr (.inr (.inr (.inr (.inr ⟨h, _, hv⟩))))))))

theorem Opened.mono {w : World} {v : Value} {key : ByteArray} {R R' : World → Value → Bool → Prop} (h : Opened w v key R) (hR : ∀ w u ok, R w u ok → R' w u ok) : Opened w v key R' := by
  intro w' hb hs
  refine (h w' hb hs).mono ?_
  rintro e w1 ⟨⟨b, u, ok, he, hf, hr⟩, hb1⟩
  exact ⟨⟨b, u, ok, he, hf, hR _ _ _ hr⟩, hb1⟩

theorem valid8 {n : Nat} {i g : Int} {r : Nat} {t : ByteArray} {ks : List ByteArray} {os : List Ob} (hv : Valid (n + 1) (.mk 8 i g r t ks os)) : ks.length = os.length ∧ KeysOk ks ∧ ∀ o ∈ os, Valid n o := by
  rcases hv.2 with h | ⟨h, _⟩ | h | ⟨h, _⟩ | h | h | h | h | ⟨h, _⟩ | ⟨_, h⟩
  all_goals first | exact h | omega

theorem opened_none (n : Nat) (v : Value) (i g : Int) (r : Nat) (t : ByteArray) (ks : List ByteArray) (os : List Ob) (S : Nat → Prop) (w : World) (h : Rep (n + 1) w S v (.mk 8 i g r t ks os)) (hS : ∀ k, S k → k < w.heap.size) (hv : Valid (n + 1) (.mk 8 i g r t ks os))
    (key : ByteArray) (hk : key.size ≤ 140737488355328) (hne : ∀ j (h : j < ks.length), ks[j] ≠ key) : Opened w v key (fun _ u ok => u = .nilIface ∧ ok = false) := by
  intro w' hb hsz
  refine (object_any (n + 1) v _ S w' (h.below hb hS) (fun k hk => by have := hS k hk; omega) hv).mono ?_
  rintro e w1 ⟨⟨u, rfl, hu⟩, hb1⟩
  obtain ⟨hf, b, nb, us, F, rfl, hSb, hF, hnb, hdm, hlen, hdis, hkids⟩ := (prep_dict8 hu)
  exact ⟨⟨b, _, _, rfl, finds_miss w1 w1.heap.size b nb ks us hdm hSb.2 key hk hne (valid8 hv).2.1.1 hf.ks, rfl, rfl⟩, hb1⟩

theorem opened_some (n : Nat) (v : Value) (i g : Int) (r : Nat) (t : ByteArray) (ks : List ByteArray) (os : List Ob) (S : Nat → Prop) (w : World) (h : Rep (n + 1) w S v (.mk 8 i g r t ks os)) (hS : ∀ k, S k → k < w.heap.size) (hv : Valid (n + 1) (.mk 8 i g r t ks os))
    (j : Nat) (hj : j < ks.length) (hj' : j < os.length) : Opened w v ks[j] (fun w1 u ok => ok = true ∧ PRep n w1 (fun k => k < w1.heap.size) u os[j]) := by
  intro w' hb hsz
  refine (object_any (n + 1) v _ S w' (h.below hb hS) (fun k hk => by have := hS k hk; omega) hv).mono ?_
  rintro e w1 ⟨⟨u, rfl, hu⟩, hb1⟩
  obtain ⟨hf, b, nb, us, F, rfl, hSb, hF, hnb, hdm, hlen, hdis, hkids⟩ := (prep_dict8 hu)
  exact ⟨⟨b, _, _, rfl, finds_hit w1 w1.heap.size b nb ks us hdm hSb.2 hdis j hj (hf.ks j hj), rfl, (hkids j hj').mono (fun k hk => (hF.1 j k hk).1.2)⟩, hb1⟩

theorem entries_miss (m n : Nat) (v : Value) (i g : Int) (r : Nat) (t : ByteArray) (ks : List ByteArray) (os : List Ob) (S : Nat → Prop) (w : World) (h : Rep (n + 1) w S v (.mk 8 i g r t ks os)) (hS : ∀ k, S k → k < w.heap.size) (hv : Valid (n + 1) (.mk 8 i g r t ks os))
    (key : ByteArray) (hk : key.size ≤ 140737488355328) (hne : ∀ j (h : j < ks.length), ks[j] ≠ key) : Calls Tryz.prog 12 #[v, .string key] w fun e w' => Got (m + 1) w' (kindsL.map (wantOb nullOb)) e ∧ Below w.heap.size w w' := by
  obtain ⟨k0, k1, k2, k3, k4, ka, ca, kl, kc, cl, cc, rfl⟩ := h.form
  have hop := (opened_none n _ i g r t ks os S w h hS hv key hk hne).mono (R' := fun _ u ok => NotOf 66 u ok ∧ NotOf 68 u ok ∧ NotOf 73 u ok ∧ NotOf 76 u ok ∧ NotOf 79 u ok ∧ NotOf 80 u ok ∧ NotOf 61 u ok ∧ NotOf 86 u ok)
    (fun w u ok h => ⟨.inl h, .inl h, .inl h, .inl h, .inl h, .inl h, .inl h, .inl h⟩)
  have hl : kindsL.map (wantOb nullOb) = [nullOb, nullOb, nullOb, nullOb, nullOb, nullOb, nullOb, nullOb, nullOb] := by simp [kindsL, wantOb]
  rw [hl]
  exact entries_none m _ _ _ _ _ _ _ key w hop

theorem entries_hit (m : Nat) (v : Value) (i g : Int) (r : Nat) (t : ByteArray) (ks : List ByteArray) (os : List Ob) (S : Nat → Prop) (w : World) (h : Rep (m + 2) w S v (.mk 8 i g r t ks os)) (hS : ∀ k, S k → k < w.heap.size) (hv : Valid (m + 2) (.mk 8 i g r t ks os))
    (j : Nat) (hj : j < ks.length) (hj' : j < os.length) : Calls Tryz.prog 12 #[v, .string ks[j]] w fun e w' => Got (m + 1) w' (kindsL.map (wantOb os[j])) e ∧ Below w.heap.size w w' := by
  obtain ⟨k0, k1, k2, k3, k4, ka, ca, kl, kc, cl, cc, rfl⟩ := h.form
  have hop := opened_some (m + 1) _ i g r t ks os S w h hS hv j hj hj'
  have hvj := (valid8 hv).2.2 _ (List.getElem_mem hj')
  generalize ks[j] = key at hop ⊢
  generalize os[j] = o at hop hvj ⊢
  obtain ⟨k, i', g', r', t', ks', os'⟩ := o
  have hform := fun (w : World) (u : Value) (h : PRep (m + 1) w (fun k => k < w.heap.size) u (.mk k i' g' r' t' ks' os')) => prep_form h
  have hk : k = 0 ∨ k = 1 ∨ k = 2 ∨ k = 3 ∨ k = 4 ∨ k = 5 ∨ k = 6 ∨ k = 9 ∨ k = 7 ∨ k = 8 := by
    rcases hvj.2 with h | ⟨h, _⟩ | h | ⟨h, _⟩ | h | h | h | h | ⟨h, _⟩ | ⟨h, _⟩ <;> simp [h]
  rcases hk with rfl | rfl | rfl | rfl | rfl | rfl | rfl | rfl | rfl | rfl
  · have hl : kindsL.map (wantOb (.mk 0 i' g' r' t' ks' os')) = [nullOb, nullOb, nullOb, nullOb, nullOb, nullOb, nullOb, nullOb, nullOb] := by simp [kindsL, wantOb, kindOf]
    rw [hl]
    refine entries_none m _ _ _ _ _ _ _ key w (hop.mono fun w u ok h => ?_)
    rcases hform w u h.2 with ⟨_, hu⟩ | ⟨h0, _⟩ | ⟨h0, _⟩ | ⟨h0, _⟩ | ⟨h0, _⟩ | ⟨h0, _⟩ | ⟨h0, _⟩ | ⟨h0, _⟩ | ⟨h0, _⟩ | ⟨h0, _⟩
    · have hn : ∀ T, NotOf T u ok := fun T => .inr (.inl ⟨hu, h.1⟩)
      exact ⟨hn _, hn _, hn _, hn _, hn _, hn _, hn _, hn _⟩
    all_goals omega
  · have hl : kindsL.map (wantOb (.mk 1 i' g' r' t' ks' os')) = [.mk 1 i' g' r' t' ks' os', nullOb, nullOb, nullOb, nullOb, nullOb, nullOb, nullOb, nullOb] := by simp [kindsL, wantOb, kindOf]
    rw [hl]
    refine entries_bool m _ _ _ _ _ _ _ _ hvj key w (hop.mono fun w u ok h => ⟨?_, h⟩)
    rcases hform w u h.2 with ⟨h0, _⟩ | ⟨_, hu⟩ | ⟨h0, _⟩ | ⟨h0, _⟩ | ⟨h0, _⟩ | ⟨h0, _⟩ | ⟨h0, _⟩ | ⟨h0, _⟩ | ⟨h0, _⟩ | ⟨h0, _⟩
    all_goals first | exact hu | omega
  · have hl : kindsL.map (wantOb (.mk 2 i' g' r' t' ks' os')) = [nullOb, .mk 2 i' g' r' t' ks' os', .mk 2 i' g' r' t' ks' os', nullOb, nullOb, nullOb, nullOb, nullOb, nullOb] := by simp [kindsL, wantOb, kindOf]
    rw [hl]
    refine entries_int m _ _ _ _ _ _ _ _ hvj key w (hop.mono fun w u ok h => ⟨?_, h⟩)
    rcases hform w u h.2 with ⟨h0, _⟩ | ⟨h0, _⟩ | ⟨_, hu⟩ | ⟨h0, _⟩ | ⟨h0, _⟩ | ⟨h0, _⟩ | ⟨h0, _⟩ | ⟨h0, _⟩ | ⟨h0, _⟩ | ⟨h0, _⟩
    all_goals first | exact hu | omega
  · have hl : kindsL.map (wantOb (.mk 3 i' g' r' t' ks' os')) = [nullOb, nullOb, nullOb, nullOb, nullOb, nullOb, nullOb, nullOb, nullOb] := by simp [kindsL, wantOb, kindOf]
    rw [hl]
    refine entries_none m _ _ _ _ _ _ _ key w (hop.mono fun w u ok h => ?_)
    rcases hform w u h.2 with ⟨h0, _⟩ | ⟨h0, _⟩ | ⟨h0, _⟩ | ⟨_, x, hu⟩ | ⟨h0, _⟩ | ⟨h0, _⟩ | ⟨h0, _⟩ | ⟨h0, _⟩ | ⟨h0, _⟩ | ⟨h0, _⟩
    case inr.inr.inr.inl =>
      have hn : ∀ T, (97 : Nat) ≠ T → NotOf T u ok := fun T hT => .inr (.inr ⟨97, x, hu, h.1, hT⟩)
      exact ⟨hn _ (by decide), hn _ (by decide), hn _ (by decide), hn _ (by decide), hn _ (by decide), hn _ (by decide), hn _ (by decide), hn _ (by decide)⟩
    all_goals omega
  · have hl : kindsL.map (wantOb (.mk 4 i' g' r' t' ks' os')) = [nullOb, nullOb, nullOb, nullOb, .mk 4 i' g' r' t' ks' os', nullOb, nullOb, nullOb, nullOb] := by simp [kindsL, wantOb, kindOf]
    rw [hl]
    refine entries_str m _ _ _ _ _ _ _ _ hvj key w (hop.mono fun w u ok h => ⟨?_, h⟩)
    rcases hform w u h.2 with ⟨h0, _⟩ | ⟨h0, _⟩ | ⟨h0, _⟩ | ⟨h0, _⟩ | ⟨_, hu⟩ | ⟨h0, _⟩ | ⟨h0, _⟩ | ⟨h0, _⟩ | ⟨h0, _⟩ | ⟨h0, _⟩
    all_goals first | exact hu | omega
  · have hl : kindsL.map (wantOb (.mk 5 i' g' r' t' ks' os')) = [nullOb, nullOb, nullOb, nullOb, nullOb, .mk 5 i' g' r' t' ks' os', nullOb, nullOb, nullOb] := by simp [kindsL, wantOb, kindOf]
    rw [hl]
    refine entries_hex m _ _ _ _ _ _ _ _ hvj key w (hop.mono fun w u ok h => ⟨?_, h⟩)
    rcases hform w u h.2 with ⟨h0, _⟩ | ⟨h0, _⟩ | ⟨h0, _⟩ | ⟨h0, _⟩ | ⟨h0, _⟩ | ⟨_, hu⟩ | ⟨h0, _⟩ | ⟨h0, _⟩ | ⟨h0, _⟩ | ⟨h0, _⟩
    all_goals first | exact hu | omega
  · have hl : kindsL.map (wantOb (.mk 6 i' g' r' t' ks' os')) = [nullOb, nullOb, nullOb, .mk 6 i' g' r' t' ks' os', nullOb, nullOb, nullOb, nullOb, nullOb] := by simp [kindsL, wantOb, kindOf]
    rw [hl]
    refine entries_name m _ _ _ _ _ _ _ _ hvj key w (hop.mono fun w u ok h => ⟨?_, h⟩)
    rcases hform w u h.2 with ⟨h0, _⟩ | ⟨h0, _⟩ | ⟨h0, _⟩ | ⟨h0, _⟩ | ⟨h0, _⟩ | ⟨h0, _⟩ | ⟨_, hu⟩ | ⟨h0, _⟩ | ⟨h0, _⟩ | ⟨h0, _⟩
    all_goals first | exact hu | omega
  · have hl : kindsL.map (wantOb (.mk 9 i' g' r' t' ks' os')) = [nullOb, nullOb, nullOb, nullOb, nullOb, nullOb, nullOb, nullOb, .mk 9 i' g' r' t' ks' os'] := by simp [kindsL, wantOb, kindOf]
    rw [hl]
    refine entries_ref m _ _ _ _ _ _ _ _ hvj key w (hop.mono fun w u ok h => ⟨?_, h⟩)
    rcases hform w u h.2 with ⟨h0, _⟩ | ⟨h0, _⟩ | ⟨h0, _⟩ | ⟨h0, _⟩ | ⟨h0, _⟩ | ⟨h0, _⟩ | ⟨h0, _⟩ | ⟨_, hu⟩ | ⟨h0, _⟩ | ⟨h0, _⟩
    all_goals first | exact hu | omega
  · have hl : kindsL.map (wantOb (.mk 7 i' g' r' t' ks' os')) = [nullOb, nullOb, nullOb, nullOb, nullOb, nullOb, .mk 7 i' g' r' t' ks' os', nullOb, nullOb] := by simp [kindsL, wantOb, kindOf]
    rw [hl]
    refine entries_arr m _ _ _ _ _ _ _ _ hvj key w (hop.mono fun w u ok h => ⟨?_, h⟩)
    rcases hform w u h.2 with ⟨h0, _⟩ | ⟨h0, _⟩ | ⟨h0, _⟩ | ⟨h0, _⟩ | ⟨h0, _⟩ | ⟨h0, _⟩ | ⟨h0, _⟩ | ⟨h0, _⟩ | ⟨_, hu⟩ | ⟨h0, _⟩
    all_goals first | exact hu | omega
  · have hl : kindsL.map (wantOb (.mk 8 i' g' r' t' ks' os')) = [nullOb, nullOb, nullOb, nullOb, nullOb, nullOb, nullOb, .mk 8 i' g' r' t' ks' os', nullOb] := by simp [kindsL, wantOb, kindOf]
    rw [hl]
    refine entries_dict m _ _ _ _ _ _ _ _ hvj key w (hop.mono fun w u ok h => ⟨?_, h⟩)
    rcases hform w u h.2 with ⟨h0, _⟩ | ⟨h0, _⟩ | ⟨h0, _⟩ | ⟨h0, _⟩ | ⟨h0, _⟩ | ⟨h0, _⟩ | ⟨h0, _⟩ | ⟨h0, _⟩ | ⟨h0, _⟩ | ⟨_, hu⟩
    all_goals first | exact hu | omega

end Go.Proofs.YtcpijmbdibgdmaaGreatDoor
