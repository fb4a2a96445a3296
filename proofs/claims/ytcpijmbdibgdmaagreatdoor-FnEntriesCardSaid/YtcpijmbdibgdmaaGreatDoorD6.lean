/-
  impl.objects: an array of the package out of objects, given what impl.object does to the parts.
-/
import Derived.Test.YtcpijmbdibgdmaaGreatDoorD2
namespace Go.Proofs.YtcpijmbdibgdmaaGreatDoor
open Go Go.RowKit

theorem Leaf.iface {k i g : Int} {r : Nat} {t : ByteArray} {v : Value} (h : Leaf k i g r t v) : v = .nilIface ∨ ∃ T x, v = .iface T x := by
  rcases h with ⟨_, h⟩ | ⟨_, x, h, _⟩ | ⟨_, h⟩ | ⟨_, h⟩ | ⟨_, h⟩ | ⟨_, h⟩ | ⟨_, h⟩ | ⟨_, h⟩
  · exact .inl h
  all_goals exact .inr ⟨_, _, h⟩

theorem PRep.iface {n : Nat} {w : World} {S : Nat → Prop} {v : Value} {o : Ob} (h : PRep n w S v o) : v = .nilIface ∨ ∃ T x, v = .iface T x := by
  cases n with
  | zero => exact h.elim
  | succ n =>
    obtain ⟨k, i, g, r, t, ks, os⟩ := o
    rcases h.2 with h | ⟨_, a, cap, b, us, F, hv, _⟩ | ⟨_, b, nb, us, F, hv, _⟩
    · exact h.iface
    · exact .inr ⟨_, _, hv⟩
    · exact .inr ⟨_, _, hv⟩

/-- A row of the package's objects that is being built. -/
structure PRow (n : Nat) (w : World) (base : Nat) (sv : Value) (us : List Value) (F : Nat → Nat → Prop) (os : List Ob) : Prop where
  own : w.ownsRow base 51 1 sv us.length us
  kids : ∀ j (h : j < us.length) (h' : j < os.length), PRep n w (F j) us[j] os[j]
  foot : ∀ j k, F j k → j < us.length ∧ base ≤ k ∧ k < w.heap.size ∧ sv.ownBlock ≠ some k
  disj : ∀ i j k, F i k → F j k → i = j

theorem PRow.kept {n : Nat} {w w' : World} {base : Nat} {sv : Value} {us : List Value} {F : Nat → Nat → Prop} {os : List Ob} {T : Nat → Prop} (h : PRow n w base sv us F os) (hk : Kept T w w') (hT : ∀ k, base ≤ k → k < w.heap.size → ¬ T k) : PRow n w' base sv us F os := by
  refine ⟨hk.own h.own (fun k hk' => hT k (h.own.lt k hk').1 (h.own.lt k hk').2), fun j hj hj' => (h.kids j hj hj').kept hk (fun k hk' => ?_), fun j k hk' => ?_, h.disj⟩
  · have := h.foot j k hk'
    exact ⟨this.2.2.1, hT k this.2.1 this.2.2.1⟩
  · have := h.foot j k hk'
    have hs := hk.size
    exact ⟨this.1, this.2.1, by omega, this.2.2.2⟩

theorem PRow.snoc {n : Nat} {w w' : World} {base : Nat} {sv sv' u : Value} {us : List Value} {F : Nat → Nat → Prop} {os : List Ob} {G : Nat → Prop} (h : PRow n w base sv us F os) (hj : us.length < os.length)
    (hu : PRep n w G u os[us.length]) (hG : ∀ k, G k → base ≤ k ∧ k < w.heap.size ∧ sv.ownBlock ≠ some k ∧ ∀ j, ¬ F j k)
    (ho : w'.ownsRow base 51 1 sv' (us.length + 1) (us ++ [u])) (hk : Kept (fun k => sv.ownBlock = some k) w w')
    (hp : sv'.ownBlock = sv.ownBlock ∨ ∃ k, sv'.ownBlock = some k ∧ w.heap.size ≤ k) : PRow n w' base sv' (us ++ [u]) (fun j k => F j k ∨ (j = us.length ∧ G k)) os := by
  have hs := hk.size
  refine ⟨by simpa using ho, fun j hj1 hj2 => ?_, fun j k hk' => ?_, fun i j k h1 h2 => ?_⟩
  · simp at hj1
    by_cases e : j = us.length
    · subst e
      simp only [List.getElem_append_right (Nat.le_refl _), Nat.sub_self, List.getElem_cons_zero]
      exact (hu.kept hk (fun k hk' => ⟨(hG k hk').2.1, fun e => (hG k hk').2.2.1 e⟩)).mono (fun k hk' => .inr ⟨trivial, hk'⟩)
    · rw [List.getElem_append_left (by omega)]
      exact ((h.kids j (by omega) hj2).kept hk (fun k hk' => ⟨(h.foot j k hk').2.2.1, fun e => (h.foot j k hk').2.2.2 e⟩)).mono (fun k hk' => .inl hk')
  · have hne : base ≤ k ∧ k < w.heap.size ∧ sv.ownBlock ≠ some k ∧ j < us.length + 1 := by
      rcases hk' with hk' | ⟨rfl, hk'⟩
      · have := h.foot j k hk'
        exact ⟨this.2.1, this.2.2.1, this.2.2.2, by omega⟩
      · have := hG k hk'
        exact ⟨this.1, this.2.1, this.2.2.1, by omega⟩
    refine ⟨by simpa using hne.2.2.2, hne.1, by omega, fun e => ?_⟩
    rcases hp with hp | ⟨k', hp, hge⟩
    · exact hne.2.2.1 (hp ▸ e)
    · rw [hp] at e
      injection e with e
      omega
  · rcases h1 with h1 | ⟨rfl, h1⟩ <;> rcases h2 with h2 | ⟨rfl, h2⟩
    · exact h.disj i j k h1 h2
    · exact absurd h1 ((hG k h2).2.2.2 i)
    · exact absurd h2 ((hG k h1).2.2.2 j)
    · rfl

/-- What is shown of impl.object, for objects of fewer than `n` levels. -/
def Said19 (n : Nat) : Prop := ∀ (v : Value) (o : Ob) (S : Nat → Prop) (w : World), Rep n w S v o → (∀ k, S k → k < w.heap.size) → Valid n o →
  Calls Tryz.prog 19 #[v] w fun e w' => (∃ u, e = .returned (.tuple #[u, .bool true]) ∧ PRep n w' (fun k => w.heap.size ≤ k ∧ k < w'.heap.size) u o) ∧ Below w.heap.size w w'

/-- It returns a row of the package's objects. -/
def RetRow (n : Nat) (w w' : World) (os : List Ob) (e : Ending) : Prop := ∃ (a : Option Addr) (cap : Nat) (us : List Value) (F : Nat → Nat → Prop), e = .returned (.tuple #[.slice a os.length cap, .bool true]) ∧ us.length = os.length ∧ a ≠ none ∧
  PRow n w' w.heap.size (.slice a os.length cap) us F os

set_option maxRecDepth 100000 in
set_option maxHeartbeats 2000000 in
theorem objects_any (n : Nat) (ih : Said19 n) (ca : Option Addr) (cc : Nat) (os : List Ob) (S : Nat → Prop) (b off : Nat) (w : World)
    (hl : os.length * 96 ≤ 140737488355328) (hca : 0 < os.length → ca = some ⟨b, off, none⟩ ∧ S b) (hk : ∀ j (h : j < os.length), ∃ u, At7 w b (off + j * 7) u ∧ Rep n w S u os[j])
    (hS : ∀ k, S k → k < w.heap.size) (hv : ∀ o ∈ os, Valid n o) :
    Calls Tryz.prog 47 #[.slice ca os.length cc] w fun e w' => RetRow n w w' os e ∧ Below w.heap.size w w' := by
  have IH := Lib.hid ih
  have HCA := Lib.hid hca
  have HK := Lib.hid hk
  have HS := Lib.hid hS
  have HV := Lib.hid hv
  clear ih hca hk hS hv
  obtain ⟨cl, hcl⟩ : ∃ l, l = os.length := ⟨_, rfl⟩
  rw [← hcl] at hl ⊢
  have HCL := Lib.hid hcl
  clear hcl
  have hsf := @store_float Tryz.prog
  go_enter Tryz.func47, Tryz.ntmps47
  go_wp2_with fail
  go_loopw [4, 12] (fun sv i wr => ∃ (us : List Value) (F : Nat → Nat → Prop), us.length ≤ cl ∧ i = .int .i64 us.length ∧ PRow n wr w.heap.size sv us F os ∧ Below w.heap.size w wr ∧ w.heap.size < wr.heap.size ∧ sv ≠ .slice none 0 0) (fun _ i _ => cl - (intOf i).toNat)
  case atStart =>
    refine ⟨[], fun _ _ => False, by simp, rfl, ⟨World.ownsRow_made w #[] 0 (Nat.le_refl _) (by unfold maxLen; omega) (by simp), fun j hj => by simp at hj, fun _ _ h => h.elim, fun _ _ _ h => h.elim⟩, (Below.refl _ _).alloc (Nat.le_refl _) _, by simp, by simp⟩
  case round =>
    obtain ⟨us, F, hj, rfl, hrow, hb, hsz, hnn⟩ := hrel
    obtain ⟨oa, oc, hsv⟩ := own_form hrow.own
    have hna : oa ≠ none := by
      rcases hrow.own.2 with ⟨h1, _⟩ | ⟨g, cap, cur, h1, _⟩
      · exact absurd h1 hnn
      · rw [hsv] at h1
        injection h1 with h2
        rw [h2]
        simp
    have HNA := Lib.hid hna
    clear hna hnn
    obtain ⟨j, hjj⟩ : ∃ j, j = us.length := ⟨_, rfl⟩
    rw [← hjj] at hj hsv ⊢
    have HJ := Lib.hid hjj
    have HR := Lib.hid hrow
    have HB := Lib.hid hb
    have HSV := Lib.hid hsv
    clear hjj hrow hb hsv
    by_cases hlt : j < cl
    · obtain ⟨rfl, hSb⟩ := HCA.out (by rw [← HCL.out]; omega)
      obtain ⟨u, hu, ht⟩ := HK.out j (by rw [← HCL.out]; omega)
      obtain ⟨k1, i1, g1, r1, t1, ka1, ca1, kl1, kc1, cl1, cc1, rfl⟩ := ht.form
      obtain ⟨h0, h1, h2, h3, h4, h5, h6⟩ := (hu.below HB.out (HS.out _ hSb)).cells
      have HT := Lib.hid (ht.below HB.out HS.out)
      clear hu ht
      go_wp2_with fail
      refine (IH.out _ _ S _ (HT.out.below ((Below.refl wr.heap.size wr).alloc (Nat.le_refl _) _) (fun k hk => by have := HS.out k hk; omega)) (fun k hk => by have := HS.out k hk; simp; omega) (HV.out _ (List.getElem_mem _))).mono ?_
      rintro e w1 ⟨⟨u, rfl, hu⟩, hb1⟩
      have hs1 := hb1.size
      simp at hs1
      have hk1 : Kept (fun _ => False) wr w1 := ((Kept.refl (fun _ => False) wr).alloc _).trans (Kept.ofBelow (S := fun _ => False) hb1 (fun k hk hle => by omega)) (fun _ _ h => h)
      have hown : ∀ k, u4.ownBlock = some k → w.heap.size ≤ k ∧ k < wr.heap.size := fun k e => HR.out.own.lt k e
      have HR1 := Lib.hid (HR.out.kept hk1 (fun _ _ _ h => h))
      have HK1 := Lib.hid hk1
      have HG := Lib.hid (show ∀ k, (wr.heap.size + 1 ≤ k ∧ k < w1.heap.size) → w.heap.size ≤ k ∧ k < w1.heap.size ∧ u4.ownBlock ≠ some k ∧ ∀ j, ¬ F j k from
        fun k hk => ⟨by omega, hk.2, fun e => by have := hown k e; omega, fun j hf => by have := HR.out.foot j k hf; omega⟩)
      have HU := Lib.hid (hu.mono (S' := fun k => wr.heap.size + 1 ≤ k ∧ k < w1.heap.size) (fun k hk => by simpa using hk))
      have HOW := Lib.hid hown
      have hif := hu.iface
      clear hu hb1 hk1 hown h0 h1 h2 h3 h4 h5 h6
      have hsv := HSV.out
      have hju := HJ.out
      have h1u : u.oneCell' = true := by rcases hif with rfl | ⟨T, x, rfl⟩ <;> rfl
      rcases hif with rfl | ⟨T, x, rfl⟩
      all_goals
        clear hsv hju
        go_wp2_with (at_builtin; go_must (refine wp_app2 80 51 1 16 _ Tryz.info51 Tryz.underlying80 rfl (by decide) w.heap.size u4 us.length us [_] _ _ _ w1 rfl rfl _ rfl rfl rfl rfl HR1.out.own rfl (by intro u hu; simp at hu; subst hu; rfl) (by rw [← HJ.out]; omega) (by rw [← HJ.out]; omega) (by omega) ?_); intro sv' w2 ho hk2 hp; obtain ⟨na, nc, rfl⟩ := own_form ho; have HO := Lib.hid ho; have HK2 := Lib.hid hk2; have HP := Lib.hid hp; clear ho hk2 hp)
        go_roundw
        case measure => simp [intOf]; omega
        case rel =>
          have hj' := HJ.out
          have hc' := HCL.out
          subst hj'
          have hsn := HR1.out.snoc (by omega) HU.out HG.out HO.out HK2.out HP.out
          have hb2 : Below w.heap.size w w2 := (HB.out.trans (HK1.out.below (fun _ h => h.elim) (by omega))).trans (HK2.out.below (fun k e => (HOW.out k e).1) (by omega))
          have hs2 := HK2.out.size
          refine ⟨_, _, by simp; omega, by simp, hsn, hb2, by omega, fun e => ?_⟩
          injection e with _ e2 _
          omega
    · have hsv := HSV.out
      subst hsv
      go_wp2_with fail
      go_ret2
      have hj' := HJ.out
      have hc' := HCL.out
      obtain rfl : j = cl := by omega
      subst hc'
      refine ⟨⟨oa, oc, us, F, rfl, hj'.symm, HNA.out, HR.out⟩, HB.out⟩

end Go.Proofs.YtcpijmbdibgdmaaGreatDoor

/-
  impl.dict: a dictionary of the package out of keys and objects, given what impl.object does to the parts.
-/
namespace Go.Proofs.YtcpijmbdibgdmaaGreatDoor
open Go Go.RowKit

theorem kept_of_grown {w w' : World} {b : Nat} (h : w.grownBy w' (some b)) : Kept (· = b) w w' :=
  ⟨h.os, h.tape, h.output, h.size, fun k hk hn => h.block k hk (fun e => hn (by injection e))⟩

theorem kept_of_grown_none {w w' : World} (h : w.grownBy w' none) : Kept (fun _ => False) w w' :=
  ⟨h.os, h.tape, h.output, h.size, fun k hk _ => h.block k hk (by simp)⟩

/-- A dictionary of the package's objects that is being built in block `mb`: the entries that are done. -/
structure PMap (n : Nat) (w : World) (mb nb : Nat) (us : Nat → Value) (F : Nat → Nat → Prop) (ks : List ByteArray) (os : List Ob) (done : Nat → Prop) : Prop where
  dm : DM w mb nb ks us done
  kids : ∀ j (h : j < os.length), done j → PRep n w (F j) (us j) os[j]
  foot : ∀ j k, F j k → done j ∧ mb < k ∧ k < w.heap.size
  disj : ∀ i j k, F i k → F j k → i = j

theorem PMap.kept {n : Nat} {w w' : World} {mb nb : Nat} {us : Nat → Value} {F : Nat → Nat → Prop} {ks : List ByteArray} {os : List Ob} {done : Nat → Prop} {T : Nat → Prop} (h : PMap n w mb nb us F ks os done) (hk : Kept T w w') (hT : ∀ k, mb ≤ k → k < w.heap.size → ¬ T k) : PMap n w' mb nb us F ks os done := by
  have hs := hk.size
  have hlt := h.dm.lt
  refine ⟨h.dm.same (hk.block mb hlt (hT mb (Nat.le_refl _) hlt)), fun j hj hd => (h.kids j hj hd).kept hk (fun k hk' => ?_), fun j k hk' => ?_, h.disj⟩
  · have := h.foot j k hk'
    exact ⟨this.2.2, hT k (by omega) this.2.2⟩
  · have := h.foot j k hk'
    exact ⟨this.1, this.2.1, by omega⟩

/-- One entry more. -/
theorem PMap.put {n : Nat} {w w' : World} {mb nb : Nat} {us : Nat → Value} {F : Nat → Nat → Prop} {ks : List ByteArray} {os : List Ob} {done : Nat → Prop} {D : DataW Value} {u : Value} {G : Nat → Prop} (h : PMap n w mb nb us F ks os done)
    (hD : DMap nb D ks us done) (hdis : Distinct ks) (j : Nat) (hj : j < ks.length) (hj' : j < os.length) (hnd : ¬ done j) (hu : PRep n w G u os[j]) (hG : ∀ k, G k → mb < k ∧ k < w.heap.size ∧ ∀ j, ¬ F j k)
    (ho : w'.ownsMap Tryz.prog 9 RV mb (nb + 1) (D.put (kl ks[j]) (.held u))) (hk : Kept (· = mb) w w') :
    PMap n w' mb (nb + 1) (fun i => if i = j then u else us i) (fun i k => F i k ∨ (i = j ∧ G k)) ks os (fun i => i = j ∨ done i) := by
  have hs := hk.size
  refine ⟨⟨_, ho, hD.put hdis j hj u _ (ownsMap_size ho).2⟩, fun i hi hd => ?_, fun i k hk' => ?_, fun a b k h1 h2 => ?_⟩
  · by_cases e : i = j
    · subst e
      simp only
      exact (hu.kept hk (fun k hk' => ⟨(hG k hk').2.1, fun e => by have := hG k hk'; omega⟩)).mono (fun k hk' => .inr ⟨trivial, hk'⟩)
    · simp only [if_neg e]
      rcases hd with hd | hd
      · exact absurd hd e
      · exact ((h.kids i hi hd).kept hk (fun k hk' => ⟨(h.foot i k hk').2.2, fun e => by have := h.foot i k hk'; omega⟩)).mono (fun k hk' => .inl hk')
  · rcases hk' with hk' | ⟨rfl, hk'⟩
    · have := h.foot i k hk'
      exact ⟨.inr this.1, this.2.1, by omega⟩
    · have := hG k hk'
      exact ⟨.inl rfl, this.1, by omega⟩
  · rcases h1 with h1 | ⟨rfl, h1⟩ <;> rcases h2 with h2 | ⟨rfl, h2⟩
    · exact h.disj a b k h1 h2
    · exact absurd h1 ((hG k h2).2.2 a)
    · exact absurd h2 ((hG k h1).2.2 b)
    · rfl

theorem PMap.congr {n : Nat} {w : World} {mb nb : Nat} {us : Nat → Value} {F : Nat → Nat → Prop} {ks : List ByteArray} {os : List Ob} {done done' : Nat → Prop} (h : PMap n w mb nb us F ks os done) (hl : ks.length = os.length) (hd : ∀ j, j < ks.length → (done' j ↔ done j)) (hF : ∀ j k, F j k → j < ks.length) : PMap n w mb nb us F ks os done' := by
  obtain ⟨D, ho, hm⟩ := h.dm
  exact ⟨⟨D, ho, hm.congr hd (fun _ _ _ => rfl)⟩, fun j hj h' => h.kids j hj ((hd j (by omega)).1 h'), fun j k hk => by have := h.foot j k hk; exact ⟨(hd j (hF j k hk)).2 this.1, this.2⟩, h.disj⟩

/-- It returns a dictionary of the package. -/
def RetMap (n : Nat) (w w' : World) (ks : List ByteArray) (os : List Ob) (e : Ending) : Prop := ∃ (mb nb : Nat) (us : Nat → Value) (F : Nat → Nat → Prop), e = .returned (.tuple #[.map (some mb), .bool true]) ∧ w.heap.size ≤ mb ∧ nb ≤ ks.length ∧
  PMap n w' mb nb us F ks os (fun j => j < ks.length)

set_option maxRecDepth 100000 in
set_option maxHeartbeats 2000000 in
theorem dict_any (n : Nat) (ih : Said19 n) (ka ca : Option Addr) (kc cc : Nat) (ks : List ByteArray) (os : List Ob) (S : Nat → Prop) (b off : Nat) (w : World)
    (hs : StrRow w S ka ks) (hl : os.length * 96 ≤ 140737488355328) (hca : 0 < os.length → ca = some ⟨b, off, none⟩ ∧ S b) (hk : ∀ j (h : j < os.length), ∃ u, At7 w b (off + j * 7) u ∧ Rep n w S u os[j])
    (hS : ∀ k, S k → k < w.heap.size) (hv : ∀ o ∈ os, Valid n o) (hlen : ks.length = os.length) (hdis : Distinct ks) :
    Calls Tryz.prog 48 #[.slice ka ks.length kc, .slice ca os.length cc] w fun e w' => RetMap n w w' ks os e ∧ Below w.heap.size w w' := by
  obtain ⟨hsl, sb, so, hsa, hsk⟩ := hs
  have IH := Lib.hid ih
  have HSA := Lib.hid hsa
  have HSK := Lib.hid hsk
  have HCA := Lib.hid hca
  have HK := Lib.hid hk
  have HS := Lib.hid hS
  have HV := Lib.hid hv
  have HDIS := Lib.hid hdis
  clear ih hsa hsk hca hk hS hv hdis
  rw [hlen]
  obtain ⟨cl, hcl⟩ : ∃ l, l = os.length := ⟨_, rfl⟩
  rw [← hcl] at hl ⊢
  have HCL := Lib.hid hcl
  have HKL := Lib.hid (hlen.trans hcl.symm)
  clear hcl hlen
  have hne : ((cl : Int) != (cl : Int)) = false := by simp
  have hsf := @store_float Tryz.prog
  have hmm := @run_makeMap Tryz.prog
  go_enter Tryz.func48, Tryz.ntmps48
  go_wp2_with fail
  go_loopw [19] (fun i wr => ∃ (j nb : Nat) (us : Nat → Value) (F : Nat → Nat → Prop), j ≤ cl ∧ i = .int .i64 j ∧ nb ≤ j ∧ PMap n wr w.heap.size nb us F ks os (fun i => i < j) ∧ Below w.heap.size w wr ∧ w.heap.size < wr.heap.size) (fun i _ => cl - (intOf i).toNat)
  case atStart =>
    refine ⟨0, 0, fun _ => .nilIface, fun _ _ => False, by omega, rfl, by omega, ⟨?_, fun j hj h => by omega, fun _ _ h => h.elim, fun _ _ _ h => h.elim⟩, (Below.refl _ _).alloc (Nat.le_refl _) _, by simp⟩
    obtain ⟨D, ho, hd⟩ := DM.ofMade w ks (fun _ => .nilIface)
    exact ⟨D, ho, hd.congr (fun j _ => by simp) (fun j _ h => by omega)⟩
  case round =>
    obtain ⟨j, nb, us, F, hj, rfl, hnb, hpm, hb, hsz⟩ := hrel
    have HPM := Lib.hid hpm
    have HB := Lib.hid hb
    clear hpm hb
    by_cases hlt : j < cl
    · obtain ⟨rfl, hSb⟩ := HCA.out (by rw [← HCL.out]; omega)
      obtain ⟨rfl, hSsb⟩ := HSA.out (by rw [HKL.out]; omega)
      obtain ⟨u, hu, ht⟩ := HK.out j (by rw [← HCL.out]; omega)
      obtain ⟨hkc, hks⟩ := HSK.out j (by rw [HKL.out]; omega)
      obtain ⟨s, hsj⟩ : ∃ s, s = ks[j]'(by rw [HKL.out]; omega) := ⟨_, rfl⟩
      rw [← hsj] at hkc hks
      have HSJ := Lib.hid hsj
      have hkc' : wr.cell? ⟨sb, so + j, none⟩ = some (.string s) := (HB.out.cell (p := ⟨sb, so + j, none⟩) (HS.out _ hSsb)).trans hkc
      obtain ⟨k1, i1, g1, r1, t1, ka1, ca1, kl1, kc1, cl1, cc1, rfl⟩ := ht.form
      obtain ⟨h0, h1, h2, h3, h4, h5, h6⟩ := (hu.below HB.out (HS.out _ hSb)).cells
      have HT := Lib.hid (ht.below HB.out HS.out)
      clear hu ht hkc hsj
      go_wp2_with fail
      refine (IH.out _ _ S _ HT.out (fun k hk => by have := HS.out k hk; omega) (HV.out _ (List.getElem_mem _))).mono ?_
      rintro e w1 ⟨⟨u, rfl, hu⟩, hb1⟩
      have hs1 := hb1.size
      have hk1 : Kept (fun _ => False) wr w1 := Kept.ofBelow (S := fun _ => False) hb1 (fun k hk hle => by omega)
      have HPM1 := Lib.hid (HPM.out.kept hk1 (fun _ _ _ h => h))
      have HK1 := Lib.hid hk1
      have HG := Lib.hid (show ∀ k, (wr.heap.size ≤ k ∧ k < w1.heap.size) → w.heap.size < k ∧ k < w1.heap.size ∧ ∀ j, ¬ F j k from
        fun k hk => ⟨by omega, hk.2, fun j hf => by have := HPM.out.foot j k hf; omega⟩)
      have HU := Lib.hid hu
      obtain ⟨D, hown, hdm⟩ := HPM1.out.dm
      have HOWN := Lib.hid hown
      have HDM := Lib.hid hdm
      have hif := hu.iface
      clear hu hb1 hk1 h0 h1 h2 h3 h4 h5 h6 hown hdm
      go_wp2_with (at_mapUpdate; go_must (refine wpList_mapUpdate_own _ rfl _ _ _ 61 rfl 9 51 key9 Tryz.underlying61 RV w.heap.size nb D rfl HOWN.out (by unfold maxLen; omega) _ _ (kl s) rfl rfl (keyOf9 s hks) (.held u) [] rfl ?_); intro w2 ho2 hg2)
      have HO2 := Lib.hid ho2
      have HG2 := Lib.hid hg2
      clear ho2 hg2
      go_roundw
      case measure => simp [intOf]; omega
      case rel =>
        have hc' := HCL.out
        have ho3 := HO2.out
        have hk2 := kept_of_grown HG2.out
        have hs2 := hk2.size
        rw [HSJ.out] at ho3
        have hput := HPM1.out.put HDM.out HDIS.out j (by rw [HKL.out]; omega) (by omega) (by omega) HU.out HG.out ho3 hk2
        have e : (fun i => i = j ∨ i < j) = (fun i => i < j + 1) := by
          funext i
          exact propext ⟨fun h => by omega, fun h => by omega⟩
        rw [e] at hput
        exact ⟨j + 1, nb + 1, _, _, by omega, by go_num, by omega, hput, (HB.out.trans (HK1.out.below (fun _ h => h.elim) (by omega))).trans (hk2.below (fun k e => by have e' : k = w.heap.size := e; omega) (by omega)), by omega⟩
    · go_wp2_with fail
      go_ret2
      have hc' := HCL.out
      obtain rfl : j = cl := by omega
      have e : (fun i => i < j) = (fun i => i < ks.length) := by rw [HKL.out]
      have hp := HPM.out
      rw [e] at hp
      exact ⟨⟨w.heap.size, nb, us, F, rfl, Nat.le_refl _, by rw [HKL.out]; omega, hp⟩, HB.out⟩

end Go.Proofs.YtcpijmbdibgdmaaGreatDoor

/-
  impl.object.
-/
namespace Go.Proofs.YtcpijmbdibgdmaaGreatDoor
open Go Go.RowKit

theorem empty_of_toList {t : ByteArray} (h : t.toList = []) : t = ⟨#[]⟩ := by
  rw [Lib.toList_data] at h
  cases t with
  | mk d =>
    simp at h
    rw [h]

theorem Rep.fits {n : Nat} {w : World} {S : Nat → Prop} {v : Value} {k i g : Int} {r : Nat} {t : ByteArray} {ks : List ByteArray} {os : List Ob} (h : Rep (n + 1) w S v (.mk k i g r t ks os)) : Fits r t ks os.length := by
  obtain ⟨ka, ca, kc, cc, _, ht, hr, ⟨hkl, b, off, _, hk⟩, hl, _⟩ := h
  exact ⟨ht, hr, hkl, fun j hj => (hk j hj).2, hl⟩

theorem newRef_any (i g : Int) (w : World) :
    Calls Tryz.prog 46 #[.int .i64 i, .int .i64 g] w fun e w' => e = .returned (.pointer (some ⟨w.heap.size, 0, none⟩)) ∧ w' = w.alloc (.cells #[.int .i64 i, .int .i64 g] 86) := by
  go_enter Tryz.func46, Tryz.ntmps46
  go_wp2_with fail
  go_ret
  exact ⟨rfl, rfl⟩

/-- In a class of its own. -/
theorem bytesLess_lt (x y : ByteArray) : Op.bytesLess x.toList y.toList = decide (x.data.toList < y.data.toList) := by
  rw [Lib.toList_data, Lib.toList_data, bytesLess_eq]

theorem KeysOk.lt {ks : List ByteArray} (h : KeysOk ks) : ∀ i j (hi : i < ks.length) (hj : j < ks.length), i < j → ks[i].data.toList < ks[j].data.toList := by
  intro i j hi hj hij
  obtain ⟨d, rfl⟩ : ∃ d, j = i + 1 + d := ⟨j - (i + 1), by omega⟩
  clear hij
  induction d with
  | zero =>
    have := h.2 i (by omega)
    rw [bytesLess_lt] at this
    simpa using this
  | succ d ih =>
    have h1 := ih (by omega)
    have h2 := h.2 (i + 1 + d) (by omega)
    rw [bytesLess_lt] at h2
    have h3 : ks[i + 1 + d].data.toList < ks[i + 1 + d + 1].data.toList := by simpa using h2
    exact List.lt_trans h1 h3

theorem KeysOk.distinct {ks : List ByteArray} (h : KeysOk ks) : Distinct ks := by
  intro i j hi hj e
  rcases Nat.lt_trichotomy i j with h1 | h1 | h1
  · have := h.lt i j hi hj h1
    rw [e] at this
    exact absurd this (List.lt_irrefl _)
  · exact h1
  · have := h.lt j i hj hi h1
    rw [e] at this
    exact absurd this (List.lt_irrefl _)

theorem PRep.leaf {n : Nat} {w : World} {S : Nat → Prop} {v : Value} {k i g : Int} {r : Nat} {t : ByteArray} {ks : List ByteArray} {os : List Ob} (hf : Fits r t ks os.length) (h : Leaf k i g r t v) : PRep (n + 1) w S v (.mk k i g r t ks os) := ⟨hf, .inl h⟩

theorem PRow.prep {n : Nat} {w : World} {base : Nat} {a : Option Addr} {cap : Nat} {us : List Value} {F : Nat → Nat → Prop} {i g : Int} {r : Nat} {t : ByteArray} {ks : List ByteArray} {os : List Ob} (hf : Fits r t ks os.length)
    (h : PRow n w base (.slice a os.length cap) us F os) (hl : us.length = os.length) (hna : a ≠ none) : PRep (n + 1) w (fun k => base ≤ k ∧ k < w.heap.size) (.iface 80 (.slice a os.length cap)) (.mk 7 i g r t ks os) := by
  refine ⟨hf, .inr (.inl ⟨rfl, ?_⟩)⟩
  have hown := h.own
  rw [← hl] at hown
  rcases hown.2 with ⟨hv, h0⟩ | ⟨gb, cap', cur, hv, hb, hg, _⟩
  · injection hv with ha _ hc
    exact absurd ha hna
  · injection hv with ha _ hc
    subst ha
    have hlt : gb < w.heap.size := (Array.getElem?_eq_some_iff.1 hg).1
    refine ⟨_, cap, gb, fun j => us.getD j .nilIface, F, rfl, hna, fun _ => ⟨rfl, hb, hlt⟩, ⟨fun j k hk => ?_, h.disj⟩, fun j hj => ⟨?_, ?_, ?_⟩⟩
    · have := h.foot j k hk
      exact ⟨⟨this.2.1, this.2.2.1⟩, fun e => this.2.2.2 (by rw [e]; rfl)⟩
    · rw [hown.cellAt j (by rw [Nat.mul_one]; omega)]
      simp [List.getD, show j < us.length by omega]
    · unfold World.frozen?
      rw [hg]
      simp
    · have := h.kids j (by omega) hj
      simpa [List.getD, show j < us.length by omega] using this

theorem PMap.prep {n : Nat} {w : World} {base mb nb : Nat} {us : Nat → Value} {F : Nat → Nat → Prop} {i g : Int} {r : Nat} {t : ByteArray} {ks : List ByteArray} {os : List Ob} (hf : Fits r t ks os.length)
    (h : PMap n w mb nb us F ks os (fun j => j < ks.length)) (hb : base ≤ mb) (hnb : nb ≤ ks.length) (hl : ks.length = os.length) (hd : Distinct ks) : PRep (n + 1) w (fun k => base ≤ k ∧ k < w.heap.size) (.iface 61 (.map (some mb))) (.mk 8 i g r t ks os) := by
  have hlt := h.dm.lt
  have hk := hf.kl
  obtain ⟨D, ho, hm⟩ := h.dm
  refine ⟨hf, .inr (.inr ⟨rfl, mb, nb, us, F, rfl, ⟨hb, hlt⟩, ⟨fun j k hk => ?_, h.disj⟩, by omega, ⟨D, ho, hm.congr (fun j hj => by simp [hj]) (fun _ _ _ => rfl)⟩, hl, hd, fun j hj => h.kids j hj (by omega)⟩)⟩
  have := h.foot j k hk
  exact ⟨⟨by omega, this.2.2⟩, by omega⟩

set_option maxRecDepth 100000 in
set_option maxHeartbeats 4000000 in
theorem object_step (n : Nat) (ih : Said19 n) : Said19 (n + 1) := by
  intro v o S w h hS hv
  have IH := Lib.hid ih
  have HS := Lib.hid hS
  obtain ⟨k, i, g, r, t, ks, os⟩ := o
  have hfit := Rep.fits h
  obtain ⟨ka, ca, kc, cc, rfl, ht, hr, hs, hl, b, off, hca, hk⟩ := h
  have HF := Lib.hid hfit
  have HS1 := Lib.hid hs
  have HCA := Lib.hid hca
  have HK := Lib.hid hk
  obtain ⟨_, hv⟩ := hv
  clear ih hS hfit hs hca hk ht hr
  have hsf := @store_float Tryz.prog
  have hkeep : ∀ (cs : Array Value) (T : TypeId), Below w.heap.size w (w.alloc (.cells cs T)) := fun cs T => (Below.refl _ _).alloc (Nat.le_refl _) _
  have HKP := Lib.hid hkeep
  clear hkeep
  rcases hv with rfl | ⟨rfl, hb⟩ | rfl | ⟨rfl, hfin⟩ | rfl | rfl | rfl | rfl | ⟨rfl, hos⟩ | ⟨rfl, hlen, hks, hos⟩
  · go_enter Tryz.func19, Tryz.ntmps19
    go_wp2_with fail
    go_ret2
    exact ⟨⟨_, rfl, PRep.leaf HF.out (.inl ⟨rfl, rfl⟩)⟩, HKP.out _ _⟩
  · rcases hb with rfl | rfl
    all_goals
      go_enter Tryz.func19, Tryz.ntmps19
      go_wp2_with fail
      go_ret2
      exact ⟨⟨_, rfl, PRep.leaf HF.out (.inr (.inl ⟨rfl, _, rfl, rfl⟩))⟩, HKP.out _ _⟩
  · go_enter Tryz.func19, Tryz.ntmps19
    go_wp2_with fail
    go_ret2
    exact ⟨⟨_, rfl, PRep.leaf HF.out (.inr (.inr (.inl ⟨rfl, rfl⟩)))⟩, HKP.out _ _⟩
  · go_enter Tryz.func19, Tryz.ntmps19
    go_wp2_with fail
    go_ret2
    exact ⟨⟨_, rfl, PRep.leaf HF.out (.inr (.inr (.inr (.inl ⟨rfl, rfl⟩))))⟩, HKP.out _ _⟩
  · go_enter Tryz.func19, Tryz.ntmps19
    go_wp2_with fail
    go_ret2
    exact ⟨⟨_, rfl, PRep.leaf HF.out (.inr (.inr (.inr (.inr (.inl ⟨rfl, rfl⟩)))))⟩, HKP.out _ _⟩
  · go_enter Tryz.func19, Tryz.ntmps19
    go_wp2_with fail
    go_ret2
    exact ⟨⟨_, rfl, PRep.leaf HF.out (.inr (.inr (.inr (.inr (.inr (.inl ⟨rfl, rfl⟩))))))⟩, HKP.out _ _⟩
  · go_enter Tryz.func19, Tryz.ntmps19
    go_wp2_with fail
    go_ret2
    exact ⟨⟨_, rfl, PRep.leaf HF.out (.inr (.inr (.inr (.inr (.inr (.inr (.inl ⟨rfl, rfl⟩)))))))⟩, HKP.out _ _⟩
  · go_enter Tryz.func19, Tryz.ntmps19
    go_wp2_with (go_at_call 46; refine (newRef_any _ _ _).mono ?_; rintro e w1 ⟨rfl, rfl⟩)
    go_ret2
    exact ⟨⟨_, rfl, PRep.leaf HF.out (.inr (.inr (.inr (.inr (.inr (.inr (.inr ⟨rfl, rfl⟩)))))))⟩, (HKP.out _ _).alloc (by simp) _⟩
  · go_enter Tryz.func19, Tryz.ntmps19
    go_wp2_with fail
    refine (objects_any n IH.out ca cc os S b off _ hl HCA.out (fun j hj => ?_) (fun k hk => by have := HS.out k hk; simp; omega) hos).mono ?_
    · obtain ⟨u, h1, h2⟩ := HK.out j hj
      have hb := (HCA.out (by omega)).2
      exact ⟨u, h1.below (HKP.out _ _) (HS.out _ hb), h2.below (HKP.out _ _) HS.out⟩
    rintro e w1 ⟨⟨a, cap, us, F, rfl, hul, hna, hrow⟩, hb1⟩
    have hs1 := hb1.size
    simp at hs1
    have HR := Lib.hid hrow
    have HB1 := Lib.hid hb1
    clear hrow hb1
    go_wp2_with fail
    go_ret2
    refine ⟨⟨_, rfl, (HR.out.prep HF.out hul hna).mono (fun k hk => ⟨by have := hk.1; simp at this; omega, hk.2⟩)⟩, (HKP.out _ _).trans (HB1.out.mono (by simp))⟩
  · have HLEN := Lib.hid hlen
    have HKS := Lib.hid hks.distinct
    have HOS := Lib.hid hos
    clear hlen hks hos
    go_enter Tryz.func19, Tryz.ntmps19
    go_wp2_with fail
    refine (dict_any n IH.out ka ca kc cc ks os S b off _ (HS1.out.below (HKP.out _ _) HS.out) hl HCA.out (fun j hj => ?_) (fun k hk => by have := HS.out k hk; simp; omega) HOS.out HLEN.out HKS.out).mono ?_
    · obtain ⟨u, h1, h2⟩ := HK.out j hj
      have hb := (HCA.out (by omega)).2
      exact ⟨u, h1.below (HKP.out _ _) (HS.out _ hb), h2.below (HKP.out _ _) HS.out⟩
    rintro e w1 ⟨⟨mb, nb, us, F, rfl, hmb, hnb, hpm⟩, hb1⟩
    have hs1 := hb1.size
    simp at hs1
    have HR := Lib.hid hpm
    have HB1 := Lib.hid hb1
    clear hpm hb1
    go_wp2_with fail
    go_ret2
    exact ⟨⟨_, rfl, HR.out.prep HF.out (by simp at hmb; omega) hnb HLEN.out HKS.out⟩, (HKP.out _ _).trans (HB1.out.mono (by simp))⟩

theorem object_any (n : Nat) : Said19 n := by
  induction n with
  | zero => intro v o S w h; exact h.elim
  | succ n ih => exact object_step n ih

end Go.Proofs.YtcpijmbdibgdmaaGreatDoor

/-
  impl.tells: an array of the package as objects, given what impl.tell does to the parts.
-/
namespace Go.Proofs.YtcpijmbdibgdmaaGreatDoor
open Go Go.RowKit

/-- A row of objects that is being built. -/
structure RepRow (n : Nat) (w : World) (base : Nat) (sv : Value) (us : List Value) (os : List Ob) : Prop where
  own : w.ownsRow base 26 7 sv us.length (flat7 us)
  len : us.length = os.length
  reps : ∀ j (h : j < us.length) (h' : j < os.length), Rep n w (fun k => base ≤ k ∧ k < w.heap.size ∧ sv.ownBlock ≠ some k) us[j] os[j]

theorem RepRow.kept {n : Nat} {w w' : World} {base : Nat} {sv : Value} {us : List Value} {os : List Ob} {T : Nat → Prop} (h : RepRow n w base sv us os) (hk : Kept T w w') (hT : ∀ k, base ≤ k → k < w.heap.size → ¬ T k) : RepRow n w' base sv us os :=
  ⟨hk.own h.own (fun k hk' => hT k (h.own.lt k hk').1 (h.own.lt k hk').2), h.len, fun j hj hj' => (h.reps j hj hj').same fun k hk' => ⟨hk.block k hk'.2.1 (hT k hk'.1 hk'.2.1), hk'.1, by have := hk.size; omega, hk'.2.2⟩⟩

theorem RepRow.snoc {n : Nat} {w w' : World} {base : Nat} {sv sv' : Value} {us : List Value} {os : List Ob} {o : Ob} {c0 c1 c2 c3 c4 c5 c6 : Value} (h : RepRow n w base sv us os)
    (hu : Rep n w (fun k => base ≤ k ∧ k < w.heap.size ∧ sv.ownBlock ≠ some k) (.agg #[c0, c1, c2, c3, c4, c5, c6]) o)
    (ho : w'.ownsRow base 26 7 sv' (us.length + 1) (flat7 us ++ [c0, c1, c2, c3, c4, c5, c6])) (hk : Kept (fun k => sv.ownBlock = some k) w w')
    (hp : sv'.ownBlock = sv.ownBlock ∨ ∃ k, sv'.ownBlock = some k ∧ w.heap.size ≤ k) : RepRow n w' base sv' (us ++ [.agg #[c0, c1, c2, c3, c4, c5, c6]]) (os ++ [o]) := by
  have hl := h.len
  refine ⟨by rw [flat7_snoc]; simpa using ho, by simp [hl], fun j hj hj' => ?_⟩
  have ht : Rep n w (fun k => base ≤ k ∧ k < w.heap.size ∧ sv.ownBlock ≠ some k) ((us ++ [.agg #[c0, c1, c2, c3, c4, c5, c6]])[j]) ((os ++ [o])[j]) := by
    simp at hj
    by_cases e : j = us.length
    · subst e
      have e2 : (os ++ [o])[us.length]'hj' = o := by simp [hl]
      rw [e2]
      simpa using hu
    · rw [List.getElem_append_left (by omega), List.getElem_append_left (by omega)]
      exact h.reps j (by omega) (by omega)
  refine ht.same fun k hk' => ⟨hk.block k hk'.2.1 (fun e => hk'.2.2 e), hk'.1, by have := hk.size; omega, fun e => ?_⟩
  rcases hp with hp | ⟨k', hp, hge⟩
  · exact hk'.2.2 (hp ▸ e)
  · rw [hp] at e
    injection e with e
    have := hk'.2.1
    omega

theorem EqRow.snoc {n : Nat} {os' os : List Ob} {o1 : Ob} (h : ∀ j (h : j < os'.length) (h' : j < os.length), EqN n os'[j] os[j]) (hj : os'.length < os.length) (h1 : EqN n o1 os[os'.length]) :
    ∀ j (h : j < (os' ++ [o1]).length) (h' : j < os.length), EqN n (os' ++ [o1])[j] os[j] := by
  intro j hj1 hj2
  simp at hj1
  by_cases e : j = os'.length
  · subst e
    simpa using h1
  · rw [List.getElem_append_left (by omega)]
    exact h j (by omega) hj2

/-- What is shown of impl.tell, for objects of fewer than `n` levels. -/
def Said22 (n : Nat) : Prop := ∀ (v : Value) (o : Ob) (S : Nat → Prop) (w : World), PRep n w S v o → (∀ k, S k → k < w.heap.size) → Valid n o →
  Calls Tryz.prog 22 #[v] w fun e w' => (∃ u o', e = .returned (.tuple #[u, .bool true]) ∧ Rep n w' (fun k => w.heap.size ≤ k ∧ k < w'.heap.size) u o' ∧ EqN n o' o) ∧ Below w.heap.size w w'

/-- It returns a row of objects. -/
def RetKids (n : Nat) (w w' : World) (os : List Ob) (e : Ending) : Prop := ∃ (a : Option Addr) (cap : Nat) (us : List Value) (os' : List Ob), e = .returned (.tuple #[.slice a os.length cap, .bool true]) ∧ os'.length = os.length ∧
  RepRow n w' w.heap.size (.slice a os.length cap) us os' ∧ ∀ j (h : j < os'.length) (h' : j < os.length), EqN n os'[j] os[j]

set_option maxRecDepth 100000 in
set_option maxHeartbeats 2000000 in
theorem tells_any (n : Nat) (ih : Said22 n) (a : Option Addr) (cap b : Nat) (xs : Nat → Value) (F : Nat → Nat → Prop) (os : List Ob) (S : Nat → Prop) (w : World)
    (hl : os.length * 96 ≤ 140737488355328) (ha : 0 < os.length → a = some ⟨b, 0, none⟩ ∧ S b) (hF : ∀ j k, F j k → S k)
    (hc : ∀ j (h : j < os.length), w.cell? ⟨b, j, none⟩ = some (xs j) ∧ PRep n w (F j) (xs j) os[j])
    (hS : ∀ k, S k → k < w.heap.size) (hv : ∀ o ∈ os, Valid n o) :
    Calls Tryz.prog 34 #[.slice a os.length cap] w fun e w' => RetKids n w w' os e ∧ Below w.heap.size w w' := by
  have IH := Lib.hid ih
  have HA := Lib.hid ha
  have HFT := Lib.hid hF
  have HC := Lib.hid hc
  have HS := Lib.hid hS
  have HV := Lib.hid hv
  clear ih ha hF hc hS hv
  obtain ⟨cl, hcl⟩ : ∃ l, l = os.length := ⟨_, rfl⟩
  rw [← hcl] at hl ⊢
  have HCL := Lib.hid hcl
  clear hcl
  have hsf := @store_float Tryz.prog
  go_enter Tryz.func34, Tryz.ntmps34
  go_wp2_with fail
  go_loopw [4, 11] (fun sv i wr => ∃ (us : List Value) (os' : List Ob), us.length ≤ cl ∧ i = .int .i64 us.length ∧ RepRow n wr w.heap.size sv us os' ∧ (∀ j (h : j < os'.length) (h' : j < os.length), EqN n os'[j] os[j]) ∧ Below w.heap.size w wr) (fun _ i _ => cl - (intOf i).toNat)
  case atStart =>
    exact ⟨[], [], by simp, rfl, ⟨World.ownsRow_nil _ _ _ _, rfl, fun j hj => by simp at hj⟩, fun j hj => by simp at hj, Below.refl _ _⟩
  case round =>
    obtain ⟨us, os', hj, rfl, hrow, heq, hb⟩ := hrel
    obtain ⟨oa, oc, hsv⟩ := own_form hrow.own
    obtain ⟨j, hjj⟩ : ∃ j, j = us.length := ⟨_, rfl⟩
    rw [← hjj] at hj hsv ⊢
    have HJ := Lib.hid hjj
    have HR := Lib.hid hrow
    have HB := Lib.hid hb
    have HSV := Lib.hid hsv
    have HEQ := Lib.hid heq
    have hwsz := hb.size
    clear hjj hrow hb hsv heq
    by_cases hlt : j < cl
    · obtain ⟨rfl, hSb⟩ := HA.out (by rw [← HCL.out]; omega)
      obtain ⟨hcj, hpj⟩ := HC.out j (by rw [← HCL.out]; omega)
      have hcj' : wr.cell? ⟨b, j, none⟩ = some (xs j) := (HB.out.cell (p := ⟨b, j, none⟩) (HS.out _ hSb)).trans hcj
      have HT := Lib.hid (hpj.below HB.out (fun k hk => HS.out k (HFT.out j k hk)))
      obtain ⟨x, hx⟩ : ∃ x, x = xs j := ⟨_, rfl⟩
      rw [← hx] at hcj' HT
      clear hcj hpj hx
      go_wp2_with fail
      refine (IH.out _ _ (F j) _ HT.out (fun k hk => by have := HS.out k (HFT.out j k hk); omega) (HV.out _ (List.getElem_mem _))).mono ?_
      rintro e w1 ⟨⟨u, o1, rfl, hu, he1⟩, hb1⟩
      obtain ⟨k2, i2, g2, r2, t2, ka2, ca2, kl2, kc2, cl2, cc2, rfl⟩ := hu.form
      have hs1 := hb1.size
      have hk1 : Kept (fun _ => False) wr w1 := Kept.ofBelow (S := fun _ => False) hb1 (fun k hk hle => by omega)
      have hk1a := hk1.alloc (.cells #[.int .i64 k2, .int .i64 i2, .int .i64 g2, .float .f64 r2, .string t2, .slice ka2 kl2 kc2, .slice ca2 cl2 cc2] 26)
      have hown : ∀ k, u4.ownBlock = some k → w.heap.size ≤ k ∧ k < wr.heap.size := fun k e => HR.out.own.lt k e
      have HR1 := Lib.hid (HR.out.kept hk1a (fun _ _ _ h => h))
      have HK1 := Lib.hid hk1a
      have HOW := Lib.hid hown
      have HU := Lib.hid ((hu.mono (S' := fun k => w.heap.size ≤ k ∧ k < w1.heap.size ∧ u4.ownBlock ≠ some k) (fun k hk => ⟨by omega, hk.2, fun e => by have := hown k e; omega⟩)).same (w' := w1.alloc (.cells #[.int .i64 k2, .int .i64 i2, .int .i64 g2, .float .f64 r2, .string t2, .slice ka2 kl2 kc2, .slice ca2 cl2 cc2] 26)) (S' := fun k => w.heap.size ≤ k ∧ k < (w1.alloc (.cells #[.int .i64 k2, .int .i64 i2, .int .i64 g2, .float .f64 r2, .string t2, .slice ka2 kl2 kc2, .slice ca2 cl2 cc2] 26)).heap.size ∧ u4.ownBlock ≠ some k) (fun k hk => ⟨Below.heap_alloc _ _ _ hk.2.1, hk.1, by simp; omega, hk.2.2⟩))
      have HE1 := Lib.hid he1
      clear hu hb1 hk1 hk1a hown he1
      go_wp2_with (at_builtin; go_must (refine wp_app2 24 26 7 96 _ Tryz.info26 Tryz.underlying24 rfl (by decide) w.heap.size u4 us.length (flat7 us) [_, _, _, _, _, _, _] _ _ _ (w1.alloc (.cells #[.int .i64 k2, .int .i64 i2, .int .i64 g2, .float .f64 r2, .string t2, .slice ka2 kl2 kc2, .slice ca2 cl2 cc2] 26)) rfl rfl _ rfl rfl rfl (by simp) HR1.out.own rfl (by simp [Value.oneCell']) (by rw [← HJ.out]; omega) (by rw [← HJ.out]; omega) (by simp; omega) ?_); intro sv' w2 ho hk2 hp; obtain ⟨na, nc, rfl⟩ := own_form ho; have HO := Lib.hid ho; have HK2 := Lib.hid hk2; have HP := Lib.hid hp; clear ho hk2 hp)
      go_roundw
      case measure => simp [intOf]; omega
      case rel =>
        have hj' := HJ.out
        have hc' := HCL.out
        have hl' := HR1.out.len
        have hs2 := HK2.out.size
        simp at hs2
        have he1 := HE1.out
        have e0 : j = os'.length := by omega
        have heq' : EqN n o1 (os[os'.length]'(by omega)) := by
          simp only [← e0]
          exact he1
        have hsn := HR1.out.snoc HU.out HO.out HK2.out HP.out
        have hb2 : Below w.heap.size w w2 := (HB.out.trans (HK1.out.below (fun _ h => h.elim) (by omega))).trans (HK2.out.below (fun k e => (HOW.out k e).1) (by simp; omega))
        exact ⟨_, _, by simp; omega, by simp [← hj'], hsn, EqRow.snoc HEQ.out (by omega) heq', hb2⟩
    · have hsv := HSV.out
      subst hsv
      go_wp2_with fail
      go_ret2
      have hj' := HJ.out
      have hc' := HCL.out
      obtain rfl : j = cl := by omega
      subst hc'
      exact ⟨⟨oa, oc, us, os', rfl, by have := HR.out.len; omega, HR.out, HEQ.out⟩, HB.out⟩

end Go.Proofs.YtcpijmbdibgdmaaGreatDoor
