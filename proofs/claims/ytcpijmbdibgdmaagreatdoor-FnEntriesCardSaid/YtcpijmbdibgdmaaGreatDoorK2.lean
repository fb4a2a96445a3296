/-
  Contracts of the small functions of package spec: Digit, White, Hex, nameable, Signed, Simple, Levels, Nodes, Modest.
-/
import Derived.Test.YtcpijmbdibgdmaaGreatDoorProg
import Derived.Test.YtcpijmbdibgdmaaGreatDoorK1
import Derived.WalkLawsBesides
import Derived.LoopTactic
import Derived.KernelRfl
import Derived.Outline
namespace Go.Proofs.YtcpijmbdibgdmaaGreatDoor
open Go Go.RowKit

theorem digit_any (b : Int) (w : World) :
    Calls Tryz.prog 24 #[.int .u8 b] w fun e w' => RetBool e ∧ w = w' := by
  go_enter Tryz.func24, Tryz.ntmps24
  go_wp2
  all_goals go_ret
  all_goals exact ⟨RetBool.mk _, rfl⟩

theorem white_any (b : Int) (w : World) :
    Calls Tryz.prog 67 #[.int .u8 b] w fun e w' => RetBool e ∧ w = w' := by
  go_enter Tryz.func67, Tryz.ntmps67
  go_wp2
  all_goals go_ret
  all_goals exact ⟨RetBool.mk _, rfl⟩

theorem hex_any (b : Int) (w : World) :
    Calls Tryz.prog 57 #[.int .u8 b] w fun e w' => RetInt .i64 e ∧ w = w' := by
  go_enter Tryz.func57, Tryz.ntmps57
  go_wp2_with (go_at_call 24; refine (digit_any _ _).mono ?_; rintro e w' ⟨⟨x, rfl⟩, rfl⟩)
  all_goals go_ret
  all_goals exact ⟨RetInt.mk _ _, rfl⟩

/-- No byte of the list is `c`. -/
def noByte (c : UInt8) (l : List UInt8) : Bool := l.all (fun x => x != c)

theorem noByte_snoc (c : UInt8) (s : ByteArray) (k : Nat) (h : k < s.size) : noByte c (s.data.toList.take (k + 1)) = (noByte c (s.data.toList.take k) && (s[k] != c)) := by
  unfold noByte
  rw [List.take_succ_eq_append_getElem (by simpa using h)]
  simp
  rfl

theorem noByte_false (c : UInt8) (s : ByteArray) (k : Nat) (h : k < s.size) (e : s[k] = c) : noByte c s.data.toList = false := by
  unfold noByte
  rw [List.all_eq_false]
  exact ⟨s[k], by rw [ByteArray.getElem_eq_getElem_data]; simp, by simp [e]⟩

set_option maxRecDepth 100000 in
theorem nameable_any (s : ByteArray) (w : World) (hs : s.size ≤ 140737488355328) :
    Calls Tryz.prog 43 #[.string s] w fun e w' => e = .returned (.bool (noByte 0 s.data.toList)) ∧ w = w' := by
  go_enter Tryz.func43, Tryz.ntmps43
  go_wp2
  go_loop [3, 6] (fun _ i => ∃ k : Nat, k ≤ s.size ∧ i = .int .i64 k ∧ noByte 0 (s.data.toList.take k) = true) (fun _ i => s.size - (intOf i).toNat)
  case atStart => exact ⟨0, by omega, rfl, rfl⟩
  case round =>
    obtain ⟨k, hk, rfl, hno⟩ := hrel
    have Hno := Lib.hid hno
    clear hno
    by_cases hlt : k < s.size
    · have hsn := Lib.hid (noByte_snoc 0 s k hlt)
      have hfa := Lib.hid (noByte_false 0 s k hlt)
      go_wp2
      case roundEnd =>
        have h0 : ((s[k].toNat : Int) == 0) = false := by assumption
        refine ⟨⟨k + 1, by omega, by go_num, ?_⟩, by simp [intOf]; omega⟩
        rw [hsn.out, Hno.out]
        simp at h0 ⊢
        intro h; apply h0; rw [h]; rfl
      go_ret
      have h0 : ((s[k].toNat : Int) == 0) = true := by assumption
      refine ⟨?_, rfl⟩
      rw [hfa.out (by simp at h0; exact UInt8.toNat_inj.1 (by simpa using h0))]
      rfl
    · go_wp2
      go_ret
      have hf : noByte 0 s.data.toList = true := by rw [← Hno.out, List.take_of_length_le (by simp; omega)]
      exact ⟨by rw [hf]; rfl, rfl⟩

set_option maxRecDepth 100000 in
theorem signed_any (s : ByteArray) (w : World) (hs : s.size ≤ 140737488355328) :
    Calls Tryz.prog 45 #[.string s] w fun e w' => e = .returned (.bool (!noByte 35 s.data.toList)) ∧ w = w' := by
  go_enter Tryz.func45, Tryz.ntmps45
  go_wp2
  go_loop [3, 6] (fun _ i => ∃ k : Nat, k ≤ s.size ∧ i = .int .i64 k ∧ noByte 35 (s.data.toList.take k) = true) (fun _ i => s.size - (intOf i).toNat)
  case atStart => exact ⟨0, by omega, rfl, rfl⟩
  case round =>
    obtain ⟨k, hk, rfl, hno⟩ := hrel
    have Hno := Lib.hid hno
    clear hno
    by_cases hlt : k < s.size
    · have hsn := Lib.hid (noByte_snoc 35 s k hlt)
      have hfa := Lib.hid (noByte_false 35 s k hlt)
      go_wp2
      case roundEnd =>
        have h0 : ((s[k].toNat : Int) == 35) = false := by assumption
        refine ⟨⟨k + 1, by omega, by go_num, ?_⟩, by simp [intOf]; omega⟩
        rw [hsn.out, Hno.out]
        simp at h0 ⊢
        intro h; apply h0; rw [h]; rfl
      go_ret
      have h0 : ((s[k].toNat : Int) == 35) = true := by assumption
      refine ⟨?_, rfl⟩
      have e : s[k] = 35 := by
        simp at h0
        apply UInt8.toNat_inj.1
        show s[k].toNat = 35
        omega
      rw [hfa.out e]
      rfl
    · go_wp2
      go_ret
      have hf : noByte 35 s.data.toList = true := by rw [← Hno.out, List.take_of_length_le (by simp; omega)]
      exact ⟨by rw [hf]; rfl, rfl⟩

set_option maxRecDepth 100000 in
theorem simple_any (s : ByteArray) (w : World) (hs : s.size ≤ 140737488355328) :
    Calls Tryz.prog 11 #[.string s] w fun e w' => RetBool e ∧ w = w' := by
  go_enter Tryz.func11, Tryz.ntmps11
  go_wp2
  go_loop [3, 4, 7] (fun _ _ i => ∃ k : Nat, k ≤ s.size ∧ i = .int .i64 k) (fun _ _ i => s.size - (intOf i).toNat)
  case atStart => exact ⟨0, by omega, rfl⟩
  case round =>
    obtain ⟨k, hk, rfl⟩ := hrel
    by_cases hlt : k < s.size
    · go_wp2_with (go_at_call 24; refine (digit_any _ _).mono ?_; rintro e w' ⟨⟨x, rfl⟩, rfl⟩)
      all_goals first
        | exact ⟨⟨k + 1, by omega, by go_num⟩, by simp [intOf]; omega⟩
        | (go_ret; exact ⟨RetBool.mk _, rfl⟩)
    · go_wp2
      all_goals go_ret
      all_goals exact ⟨RetBool.mk _, rfl⟩

set_option maxRecDepth 100000 in
set_option maxHeartbeats 400000 in
theorem levels_any (n : Nat) : ∀ (v : Value) (S : Nat → Prop) (w : World), Tree n w S v → (∀ k, S k → k < w.heap.size) →
    Calls Tryz.prog 18 #[v] w fun e w' => RetInt .i64 e ∧ Below w.heap.size w w' := by
  induction n with
  | zero => intro v S w h; exact h.elim
  | succ n ih =>
    intro v S w h hS
    have IH := Lib.hid ih
    clear ih
    obtain ⟨k, i, g, r, t, ka, ca, kl, kc, cl, cc, rfl, hcl, b, off, hca, hk⟩ := h
    have HCA := Lib.hid hca
    have HK := Lib.hid hk
    have HS := Lib.hid hS
    clear hca hk hS
    have hsf := @store_float Tryz.prog
    go_enter Tryz.func18, Tryz.ntmps18
    go_wp2
    go_loopw [3, 5, 9] (fun n _ i w' => ∃ (k : Nat) (m : Int), k ≤ cl ∧ i = .int .i64 k ∧ n = .int .i64 m ∧ Below w.heap.size w w') (fun _ _ i _ => cl - (intOf i).toNat)
    case atStart => exact ⟨0, 0, by omega, rfl, rfl, (Below.refl _ _).alloc (Nat.le_refl _) _⟩
    case round =>
      obtain ⟨j, m, hj, rfl, rfl, hb⟩ := hrel
      by_cases hlt : j < cl
      · obtain ⟨rfl, hbB⟩ := HCA.out (by omega)
        obtain ⟨u, hu, ht⟩ := HK.out j hlt
        obtain ⟨k1, i1, g1, r1, t1, ka1, ca1, kl1, kc1, cl1, cc1, rfl⟩ := ht.form
        obtain ⟨h0, h1, h2, h3, h4, h5, h6⟩ := (hu.below hb (HS.out _ hbB)).cells
        have Ht := Lib.hid ht
        clear hu ht
        have hsz := hb.size
        go_wp2_with fail
        refine (IH.out _ S _ (Ht.out.below (hb.alloc hb.size _) HS.out) (fun k hk => by have := HS.out k hk; simp; omega)).mono ?_
        rintro e w1 ⟨⟨q, rfl⟩, hb1⟩
        go_wp2
        go_roundw
        case rel => exact ⟨j + 1, _, by omega, by go_num, rfl, (hb.alloc hb.size _).trans (hb1.mono (by simp; omega))⟩
        case measure => simp [intOf]; omega
      · go_wp2
        go_ret
        exact ⟨RetInt.mk _ _, hb⟩

set_option maxRecDepth 100000 in
set_option maxHeartbeats 400000 in
theorem nodes_any (n : Nat) : ∀ (v : Value) (most : Int) (S : Nat → Prop) (w : World), Tree n w S v → (∀ k, S k → k < w.heap.size) →
    Calls Tryz.prog 17 #[v, .int .i64 most] w fun e w' => RetInt .i64 e ∧ Below w.heap.size w w' := by
  induction n with
  | zero => intro v most S w h; exact h.elim
  | succ n ih =>
    intro v most S w h hS
    have IH := Lib.hid ih
    clear ih
    obtain ⟨k, i, g, r, t, ka, ca, kl, kc, cl, cc, rfl, hcl, b, off, hca, hk⟩ := h
    have HCA := Lib.hid hca
    have HK := Lib.hid hk
    have HS := Lib.hid hS
    clear hca hk hS
    go_enter Tryz.func17, Tryz.ntmps17
    go_wp2
    go_loopw [5, 6] (fun n i w' => ∃ (k : Nat) (m : Int), k ≤ cl ∧ i = .int .i64 k ∧ n = .int .i64 m ∧ Below w.heap.size w w' ∧ w'.heap.size > w.heap.size ∧ w'.cell? ⟨w.heap.size, 6, none⟩ = some (.slice ca cl cc)) (fun _ i _ => cl - (intOf i).toNat)
    case atStart => exact ⟨0, 1, by omega, rfl, rfl, (Below.refl _ _).alloc (Nat.le_refl _) _, by simp, by go_simp⟩
    case round =>
      obtain ⟨j, m, hj, rfl, rfl, hb, hgt, hc6⟩ := hrel
      by_cases hlt : j < cl
      · obtain ⟨rfl, hbB⟩ := HCA.out (by omega)
        obtain ⟨u, hu, ht⟩ := HK.out j hlt
        obtain ⟨k1, i1, g1, r1, t1, ka1, ca1, kl1, kc1, cl1, cc1, rfl⟩ := ht.form
        obtain ⟨h0, h1, h2, h3, h4, h5, h6⟩ := (hu.below hb (HS.out _ hbB)).cells
        have Ht := Lib.hid ht
        clear hu ht
        by_cases hm : m ≤ most
        · go_wp2_with fail
          refine (IH.out _ _ S _ (Ht.out.below hb HS.out) (fun k hk => by have := HS.out k hk; omega)).mono ?_
          rintro e w1 ⟨⟨q, rfl⟩, hb1⟩
          have hc := (bcell hb1).1 w.heap.size 6 hgt
          rw [hc6] at hc
          have hs1 := hb1.size
          go_wp2
          go_roundw
          case rel => exact ⟨j + 1, _, by omega, by go_num, rfl, hb.trans (hb1.mono (by omega)), by omega, hc⟩
          case measure => simp [intOf]; omega
        · go_wp2
          go_ret
          exact ⟨RetInt.mk _ _, hb⟩
      · go_wp2
        go_ret
        exact ⟨RetInt.mk _ _, hb⟩

set_option maxRecDepth 100000 in
theorem modest_any (n : Nat) (v : Value) (S : Nat → Prop) (w : World) (h : Tree n w S v) (hS : ∀ k, S k → k < w.heap.size) :
    Calls Tryz.prog 7 #[v] w fun e w' => RetBool e ∧ Below w.heap.size w w' := by
  obtain ⟨k1, i1, g1, r1, t1, ka1, ca1, kl1, kc1, cl1, cc1, rfl⟩ := h.form
  have H := Lib.hid h
  have HS := Lib.hid hS
  clear h hS
  go_enter Tryz.func7, Tryz.ntmps7
  go_wp2_with fail
  refine (nodes_any n _ _ S _ (H.out.below ((Below.refl w.heap.size w).alloc (Nat.le_refl _) _) HS.out) (fun k hk => by have := HS.out k hk; simp; omega)).mono ?_
  rintro e w1 ⟨⟨q, rfl⟩, hb1⟩
  have hb : Below w.heap.size w w1 := ((Below.refl w.heap.size w).alloc (Nat.le_refl _) _).trans (hb1.mono (by simp))
  have hs := hb1.size
  simp at hs
  obtain ⟨d0, d1, d2, d3, d4, d5, d6⟩ := box7 hb1
  by_cases hq : q ≤ 5000
  · go_wp2_with fail
    refine (levels_any n _ S _ (H.out.below hb HS.out) (fun k hk => by have := HS.out k hk; omega)).mono ?_
    rintro e w2 ⟨⟨q2, rfl⟩, hb2⟩
    go_wp2
    all_goals go_ret
    all_goals exact ⟨RetBool.mk _, hb.trans (hb2.mono (by omega))⟩
  · go_wp2
    go_ret
    exact ⟨RetBool.mk _, hb⟩

set_option maxRecDepth 100000 in
theorem fits2_any (ka : Option Addr) (kc : Nat) (ks : List ByteArray) (S : Nat → Prop) (w : World) (h : StrRow w S ka ks) :
    Calls Tryz.prog 14 #[.slice ka ks.length kc] w fun e w' => RetBool e ∧ w = w' := by
  obtain ⟨hl, b, off, ha, hk⟩ := h
  have HA := Lib.hid ha
  have HK := Lib.hid hk
  clear ha hk
  obtain ⟨l, hll⟩ : ∃ l, l = ks.length := ⟨_, rfl⟩
  rw [← hll] at hl ⊢
  have HLL := Lib.hid hll
  clear hll
  by_cases hbig : 2147483647 < l
  · go_enter Tryz.func14, Tryz.ntmps14
    go_wp2
    go_ret
    exact ⟨RetBool.mk _, rfl⟩
  · go_enter Tryz.func14, Tryz.ntmps14
    go_wp2
    go_loop [4, 10] (fun _ i => ∃ k : Nat, k ≤ l ∧ i = .int .i64 k) (fun _ i => l - (intOf i).toNat)
    case atStart => exact ⟨0, by omega, rfl⟩
    case round =>
      obtain ⟨k, hk, rfl⟩ := hrel
      by_cases hlt : k < l
      · obtain ⟨rfl, hbB⟩ := HA.out (by rw [← HLL.out]; omega)
        obtain ⟨hc, hsz⟩ := HK.out k (by rw [← HLL.out]; omega)
        go_wp2
        all_goals first
          | exact ⟨⟨k + 1, by omega, by go_num⟩, by simp [intOf]; omega⟩
          | (go_ret; exact ⟨RetBool.mk _, rfl⟩)
      · go_wp2
        go_ret
        exact ⟨RetBool.mk _, rfl⟩

end Go.Proofs.YtcpijmbdibgdmaaGreatDoor
