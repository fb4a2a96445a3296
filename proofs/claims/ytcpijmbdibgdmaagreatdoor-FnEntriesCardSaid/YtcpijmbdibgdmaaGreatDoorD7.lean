/-
  Plain laws for impl.tellDict: the keys that a range has met, sorted; a range under way.
-/
import Derived.Test.YtcpijmbdibgdmaaGreatDoorD6
import Derived.Maps.RangeWalk
import Derived.Sort.OwnSorted
namespace Go.Proofs.YtcpijmbdibgdmaaGreatDoor
open Go Go.RowKit

def kb (ks : List ByteArray) : List (List UInt8) := ks.map (fun s => s.data.toList)

theorem enc_self (x : ByteArray) : encStr x.data.toList = .string x := by
  unfold encStr
  cases x
  simp

theorem kb_nodup {ks : List ByteArray} (h : Distinct ks) : (kb ks).Nodup := by
  unfold kb List.Nodup
  rw [List.pairwise_map, List.pairwise_iff_getElem]
  intro i j hi hj hij e
  have e2 : ks[i] = ks[j] := kl_inj (by unfold kl; rw [e])
  have := h i j hi hj e2
  omega

theorem sort_keys {ks : List ByteArray} (h : KeysOk ks) {L : List (List UInt8)} (hp : L.Perm (kb ks)) : (L.mergeSort fun x y => decide (x ≤ y)) = kb ks := by
  have hle : (kb ks).Pairwise (fun x y => decide (x ≤ y) = true) := by
    unfold kb
    rw [List.pairwise_map, List.pairwise_iff_getElem]
    intro i j hi hj hij
    have := h.lt i j hi hj hij
    simp
    exact List.le_of_lt this
  have h1 : (L.mergeSort fun x y => decide (x ≤ y)).Pairwise (fun x y => decide (x ≤ y) = true) :=
    List.pairwise_mergeSort (fun a b c hab hbc => by simp at hab hbc ⊢; exact List.le_trans hab hbc) (fun a b => by simp; exact List.le_total a b) L
  refine List.Perm.eq_of_pairwise (fun a b _ _ hab hba => ?_) h1 hle ((List.mergeSort_perm L _).trans hp)
  simp at hab hba
  exact List.le_antisymm hab hba

/-- The keys that have been met. -/
structure Met (ks : List ByteArray) (left : Lit → Bool) (L : List (List UInt8)) : Prop where
  mem : ∀ l, l ∈ L ↔ ∃ (j : Nat) (h : j < ks.length), l = ks[j].data.toList ∧ left (kl ks[j]) = false
  nodup : L.Nodup

theorem Met.start {D : DataW Value} {nb : Nat} {ks : List ByteArray} {us : Nat → Value} (h : DMap nb D ks us (fun _ => True)) : Met ks (Maps.has D) [] := by
  refine ⟨fun l => ⟨fun h => by simp at h, fun ⟨j, hj, _, e⟩ => ?_⟩, List.nodup_nil⟩
  rw [h.has_true j hj trivial] at e
  simp at e

theorem sameKl (s t : ByteArray) : (kl s).sameKey (kl t) = true ↔ s = t :=
  ⟨fun h => kl_inj (WideAt.sameKey_eq h), fun h => by rw [h]; exact WideAt.sameKey_self (kl_key t)⟩

theorem Met.step {ks : List ByteArray} {left : Lit → Bool} {L : List (List UInt8)} (h : Met ks left L) (hd : Distinct ks) (j : Nat) (hj : j < ks.length) (hl : left (kl ks[j]) = true) :
    Met ks (fun z => left z && !z.sameKey (kl ks[j])) (L ++ [ks[j].data.toList]) := by
  refine ⟨fun l => ?_, ?_⟩
  · rw [List.mem_append, List.mem_singleton, h.mem]
    constructor
    · rintro (⟨i, hi, e, e2⟩ | e)
      · exact ⟨i, hi, e, by simp [e2]⟩
      · refine ⟨j, hj, e, ?_⟩
        rw [(sameKl ks[j] ks[j]).2 rfl]
        simp
    · rintro ⟨i, hi, e, e2⟩
      by_cases hij : i = j
      · subst hij
        exact .inr e
      · left
        refine ⟨i, hi, e, ?_⟩
        have hn : (kl ks[i]).sameKey (kl ks[j]) = false := by
          cases hs : (kl ks[i]).sameKey (kl ks[j])
          · rfl
          · exact absurd (hd i j hi hj ((sameKl _ _).1 hs)) hij
        rw [hn] at e2
        simpa using e2
  · rw [List.nodup_append]
    refine ⟨h.nodup, by simp, fun a ha b hb e => ?_⟩
    rw [List.mem_singleton] at hb
    subst hb
    subst e
    obtain ⟨i, hi, e, e2⟩ := (h.mem _).1 ha
    have e3 : ks[i] = ks[j] := kl_inj (by unfold kl; rw [e])
    rw [e3, hl] at e2
    simp at e2

theorem Met.done {ks : List ByteArray} {left : Lit → Bool} {L : List (List UInt8)} (h : Met ks left L) (hd : Distinct ks) (hl : ∀ l, left l = false) : L.Perm (kb ks) := by
  refine (List.perm_ext_iff_of_nodup h.nodup (kb_nodup hd)).2 (fun a => ?_)
  rw [h.mem]
  unfold kb
  rw [List.mem_map]
  constructor
  · rintro ⟨j, hj, rfl, _⟩
    exact ⟨_, List.getElem_mem hj, rfl⟩
  · rintro ⟨s, hs, rfl⟩
    obtain ⟨j, hj, rfl⟩ := List.getElem_of_mem hs
    exact ⟨j, hj, rfl, hl _⟩

theorem Met.length {ks : List ByteArray} {left : Lit → Bool} {L : List (List UInt8)} (h : Met ks left L) : L.length ≤ ks.length := by
  have h1 := h.nodup.length_le_of_subset (l₂ := kb ks) (fun l hl => by
    obtain ⟨j, hj, e, _⟩ := (h.mem l).1 hl
    unfold kb
    rw [List.mem_map]
    exact ⟨_, List.getElem_mem hj, e.symm⟩)
  simpa [kb] using h1

/-- A row of strings that a call owns. -/
theorem strRow_of_own {w : World} {base : Nat} {oa : Option Addr} {oc : Nat} {ks : List ByteArray} (h : w.ownsRow base 9 1 (.slice oa ks.length oc) ks.length ((kb ks).map encStr)) (h1 : ks.length * 16 ≤ 140737488355328) (h2 : ∀ j (h : j < ks.length), ks[j].size ≤ 140737488355328) :
    StrRow w (fun k => base ≤ k ∧ k < w.heap.size) oa ks := by
  refine ⟨h1, ?_⟩
  rcases h.2 with ⟨hv, h0⟩ | ⟨g, cap, cur, hv, hb, hg, _⟩
  · exact ⟨0, 0, fun h => by omega, fun j hj => by omega⟩
  · injection hv with ha _ _
    subst ha
    refine ⟨g, 0, fun _ => ⟨rfl, hb, (Array.getElem?_eq_some_iff.1 hg).1⟩, fun j hj => ⟨?_, h2 j hj⟩⟩
    rw [h.cellAt (0 + j) (by rw [Nat.mul_one]; omega), Nat.zero_add]
    have hj2 : j < (kb ks).length := by simpa [kb] using hj
    rw [List.getElem?_map, List.getElem?_eq_getElem hj2]
    simp only [kb, List.getElem_map, Option.map_some, enc_self]

theorem ranges_same {w w' : World} {b r nb cnt : Nat} {D : DataW Value} {left : Lit → Bool} (h : w.ranges Tryz.prog 9 RV b r nb D left cnt) (e1 : w'.heap[b]? = w.heap[b]?) (e2 : w'.heap[r]? = w.heap[r]?) : w'.ranges Tryz.prog 9 RV b r nb D left cnt := by
  obtain ⟨es, clock, since, seen, c0, hb, F, hs, hD, hr, rest⟩ := h
  exact ⟨es, clock, since, seen, c0, e1.trans hb, F, hs, hD, e2.trans hr, rest⟩

/-- What comes out of a range: a key and its element. -/
theorem met_key {D : DataW Value} {nb : Nat} {ks : List ByteArray} {us : Nat → Value} {done : Nat → Prop} (hdm : DMap nb D ks us done) {x : ByteArray} {c : Value} {l : Lit} {y : DataW Value × List MemPlace} (hk : keyOf Tryz.prog 9 (.string x) = some l) (hh : Maps.has D l = true)
    (hR : RV c = some y) (hat : ∀ z, D.atKey l z = y.1) : ∃ (j : Nat) (h : j < ks.length), x = ks[j] ∧ c = us j ∧ l = kl ks[j] ∧ done j := by
  obtain ⟨s, hs, rfl⟩ := keyOf9_inv hk
  injection hs with hs
  subst hs
  obtain ⟨j, hj, hd, e⟩ := hdm.has _ hh
  have ex := kl_inj e
  refine ⟨j, hj, ex, ?_, e, hd⟩
  have h1 := hat .nil
  rw [e, hdm.at_ j hj hd] at h1
  have e1 : (DataW.held c, ([] : List MemPlace)) = y := Option.some.inj hR
  rw [← e1] at h1
  exact (DataW.held.inj h1).symm

theorem DM.lookup {w : World} {b nb : Nat} {ks : List ByteArray} {us : Nat → Value} {done : Nat → Prop} (h : DM w b nb ks us done) (j : Nat) (hj : j < ks.length) (hd : done j) (hs : ks[j].size ≤ 140737488355328) :
    (Instr.lookup 61 (.map (some b)) (.string ks[j]) false).run Tryz.prog w = .ok (us j) w := by
  obtain ⟨D, ho, hm⟩ := h
  have hz : (zeroValue 51).run Tryz.prog w = .ok .nilIface w := by kernel_rfl
  obtain ⟨v, ps, hr, hv⟩ := ho.lookup key9 Tryz.underlying61 hz (zd := .held .nilIface) (zp := []) rfl (keyOf9 _ hs)
  rw [hm.at_ j hj hd] at hv
  have e1 : ((DataW.held v : DataW Value), ([] : List MemPlace)) = (.held (us j), ps) := Option.some.inj hv
  have e2 : v = us j := DataW.held.inj (Prod.mk.inj e1).1
  rw [hr, e2]

end Go.Proofs.YtcpijmbdibgdmaaGreatDoor
