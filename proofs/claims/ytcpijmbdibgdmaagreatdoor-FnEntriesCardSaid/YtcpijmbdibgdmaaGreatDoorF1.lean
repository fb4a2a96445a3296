/-
  spec.fromKids: what it returns, given what spec.fromObject does to the parts.
-/
import Derived.Test.YtcpijmbdibgdmaaGreatDoorK4
import Derived.Test.YtcpijmbdibgdmaaGreatDoorK3
import Derived.Test.YtcpijmbdibgdmaaGreatDoorO4
import Derived.Test.YtcpijmbdibgdmaaGreatDoorG1
import Derived.Deep.DeepMust
namespace Go.Proofs.YtcpijmbdibgdmaaGreatDoor
open Go Go.RowKit

/-- Keys of a dictionary that are in order, without number signs and null characters. -/
def KeysOk (ks : List ByteArray) : Prop :=
  (∀ j (h : j < ks.length), noByte 0 ks[j].data.toList = true ∧ noByte 35 ks[j].data.toList = true) ∧
  ∀ j (h : j + 1 < ks.length), Op.bytesLess ks[j].toList ks[j + 1].toList = true

/-- An object that the reference takes for one. -/
def Valid : Nat → Ob → Prop
  | 0, _ => False
  | n + 1, .mk k i g r t ks os => OnlyP k i g r t ks.length os.length ∧
      (k = 0 ∨ (k = 1 ∧ (i = 0 ∨ i = 1)) ∨ k = 2 ∨ (k = 3 ∧ FinB r) ∨ k = 4 ∨ k = 5 ∨ k = 6 ∨ k = 9 ∨
        (k = 7 ∧ ∀ o ∈ os, Valid n o) ∨
        (k = 8 ∧ ks.length = os.length ∧ KeysOk ks ∧ ∀ o ∈ os, Valid n o))

def AllV (n : Nat) (os : List Ob) : Prop := ∀ o ∈ os, Valid n o

/-- It returns a value, and a bool that is true only if `P`. -/
def RetVal (n : Nat) (w w' : World) (P : Prop) (e : Ending) : Prop :=
  ∃ (u : Value) (y : Bool), Tree n w' (fun k => w.heap.size ≤ k ∧ k < w'.heap.size) u ∧ (y = true → P) ∧ e = .returned (.tuple #[u, .bool y])

/-- What is shown of spec.fromObject, for objects of fewer than `n` levels. -/
def Said16 (n : Nat) : Prop := ∀ (v : Value) (o : Ob) (S : Nat → Prop) (w : World), Rep n w S v o → (∀ k, S k → k < w.heap.size) → Gl w →
  Calls Tryz.prog 16 #[v] w fun e w' => RetVal n w w' (Valid n o) e ∧ Below w.heap.size w w'

/-- What holds at the head of a round of fromKids. -/
structure KidRel (n : Nat) (w wr : World) (kd : Int) (kka : Option Addr) (kkl kkc : Nat) (sv : Value) (us : List Value) (os : List Ob) : Prop where
  below : Below w.heap.size w wr
  size : w.heap.size + 3 ≤ wr.heap.size
  row : ValRow wr (w.heap.size + 3) n sv us
  valid : AllV n (os.take us.length)
  out : Blk wr w.heap.size #[.int .i64 kd, .int .i64 0, .int .i64 0, .float .f64 0, .string ⟨#[]⟩, .slice kka kkl kkc, sv] 30
  res : Blk wr (w.heap.size + 1 + 1) #[.int .i64 0, .int .i64 0, .int .i64 0, .float .f64 0, .string ⟨#[]⟩, .slice none 0 0, .slice none 0 0] 30

theorem KidRel.call {n : Nat} {w wr w1 : World} {kd : Int} {kka : Option Addr} {kkl kkc : Nat} {sv : Value} {us : List Value} {os : List Ob} (h : KidRel n w wr kd kka kkl kkc sv us os) (o : Obj)
    (hb : Below (wr.alloc o).heap.size (wr.alloc o) w1) : KidRel n w w1 kd kka kkl kkc sv us os := by
  have hk : Kept (fun _ => False) wr w1 := ((Kept.refl (fun _ => False) wr).alloc o).trans (Kept.ofBelow (S := fun _ => False) hb (fun k hk hle => by omega)) (fun _ _ h => h)
  have hs := hk.size
  have hsz := h.size
  exact ⟨h.below.trans (hk.below (fun _ h => h.elim) (by omega)), by omega, h.row.kept hk (fun _ _ _ h => h), h.valid, h.out.kept hk (fun h => h), h.res.kept hk (fun h => h)⟩

theorem KidRel.alloc {n : Nat} {w wr : World} {kd : Int} {kka : Option Addr} {kkl kkc : Nat} {sv : Value} {us : List Value} {os : List Ob} (h : KidRel n w wr kd kka kkl kkc sv us os) (o : Obj) :
    KidRel n w (wr.alloc o) kd kka kkl kkc sv us os := by
  have hsz := h.size
  exact ⟨h.below.alloc (by omega) o, by simp; omega, h.row.kept ((Kept.refl (fun _ => False) wr).alloc o) (fun _ _ _ h => h), h.valid, h.out.alloc o, h.res.alloc o⟩

theorem KidRel.next {n : Nat} {w W w2 : World} {kd : Int} {kka : Option Addr} {kkl kkc : Nat} {sv sv' : Value} {us : List Value} {os : List Ob} {c0 c1 c2 c3 c4 c5 c6 : Value} (h : KidRel n w W kd kka kkl kkc sv us os)
    (hj : us.length < os.length) (hu : Tree n W (fun k => w.heap.size + 3 ≤ k ∧ k < W.heap.size ∧ sv.ownBlock ≠ some k) (.agg #[c0, c1, c2, c3, c4, c5, c6])) (hv : Valid n os[us.length])
    (ho : w2.ownsRow (w.heap.size + 3) 30 7 sv' (us.length + 1) (flat7 us ++ [c0, c1, c2, c3, c4, c5, c6])) (hk : Kept (fun k => sv.ownBlock = some k) W w2)
    (hp : sv'.ownBlock = sv.ownBlock ∨ ∃ k, sv'.ownBlock = some k ∧ W.heap.size ≤ k) :
    KidRel n w (w2.setCell ⟨w.heap.size, 6, none⟩ sv') kd kka kkl kkc sv' (us ++ [.agg #[c0, c1, c2, c3, c4, c5, c6]]) os := by
  have hsz := h.size
  have hs2 := hk.size
  have hown : ∀ k, sv.ownBlock = some k → w.heap.size + 3 ≤ k := fun k e => (h.row.1.lt k e).1
  refine ⟨?_, by simp [World.setCell]; omega, ?_, ?_, ?_, ?_⟩
  · exact (h.below.trans (hk.below (fun k e => by have := hown k e; omega) (by omega))).setCell (Nat.le_refl _) _
  · refine (h.row.snoc hu ho hk hp).kept ((Kept.refl (· = w.heap.size) w2).setCell ⟨w.heap.size, 6, none⟩ _ (fun _ => rfl)) (fun k hb _ e => by omega)
  · intro o ho'
    rw [List.length_append, List.length_singleton, List.take_succ_eq_append_getElem hj] at ho'
    rcases List.mem_append.1 ho' with ho' | ho'
    · exact h.valid o ho'
    · rw [List.mem_singleton.1 ho']; exact hv
  · exact (h.out.kept hk (fun e => by have := hown _ e; omega)).set 6 sv'
  · exact (h.res.kept hk (fun e => by have := hown _ e; omega)).setOther _ _ (by show w.heap.size ≠ w.heap.size + 1 + 1; omega)

set_option maxRecDepth 100000 in
set_option maxHeartbeats 2000000 in
theorem fromKids_any (n : Nat) (ih : Said16 n) (kd k i g : Int) (r : Nat) (t : ByteArray) (kka ka ca : Option Addr) (kkl kkc kl kc cc : Nat) (os : List Ob) (S : Nat → Prop) (b off : Nat) (w : World)
    (hl : os.length * 96 ≤ 140737488355328) (hca : 0 < os.length → ca = some ⟨b, off, none⟩ ∧ S b) (hk : ∀ j (h : j < os.length), ∃ u, At7 w b (off + j * 7) u ∧ Rep n w S u os[j])
    (hS : ∀ k, S k → k < w.heap.size) (hg : Gl w) :
    Calls Tryz.prog 44 #[.agg #[.int .i64 kd, .int .i64 0, .int .i64 0, .float .f64 0, .string ⟨#[]⟩, .slice kka kkl kkc, .slice none 0 0],
        .agg #[.int .i64 k, .int .i64 i, .int .i64 g, .float .f64 r, .string t, .slice ka kl kc, .slice ca os.length cc]] w
      fun e w' => RetVal (n + 1) w w' (AllV n os) e ∧ Below w.heap.size w w' := by
  have IH := Lib.hid ih
  have HCA := Lib.hid hca
  have HK := Lib.hid hk
  have HS := Lib.hid hS
  have HG := Lib.hid hg
  clear ih hca hk hS hg
  obtain ⟨cl, hcl⟩ : ∃ l, l = os.length := ⟨_, rfl⟩
  rw [← hcl] at hl ⊢
  have HCL := Lib.hid hcl
  clear hcl
  have hsf := @store_float Tryz.prog
  go_enter Tryz.func44, Tryz.ntmps44
  go_wp2_with fail
  go_loopw [13] (fun i wr => ∃ (sv : Value) (us : List Value), us.length ≤ cl ∧ i = .int .i64 us.length ∧ KidRel n w wr kd kka kkl kkc sv us os) (fun i _ => cl - (intOf i).toNat)
  case atStart =>
    refine ⟨.slice none 0 0, [], by simp, rfl, (((Below.refl _ _).alloc (Nat.le_refl _) _).alloc (by simp) _).alloc (by simp; omega) _, by simp, ValRow.nil _ _ _, by intro o ho; simp at ho, ((Blk.new _ _ _).alloc _).alloc _, ?_⟩
    have := Blk.new ((w.alloc (.cells #[.int .i64 kd, .int .i64 0, .int .i64 0, .float .f64 0, .string ⟨#[]⟩, .slice kka kkl kkc, .slice none 0 0] 30)).alloc (.cells #[.int .i64 k, .int .i64 i, .int .i64 g, .float .f64 r, .string t, .slice ka kl kc, .slice ca cl cc] 26)) #[.int .i64 0, .int .i64 0, .int .i64 0, .float .f64 0, .string ⟨#[]⟩, .slice none 0 0, .slice none 0 0] 30
    simpa using this
  case round =>
    obtain ⟨sv, us, hj, rfl, hkr⟩ := hrel
    obtain ⟨oa, oc, rfl⟩ := own_form hkr.row.1
    obtain ⟨sv, hsv⟩ : ∃ sv, sv = Value.slice oa us.length oc := ⟨_, rfl⟩
    rw [← hsv] at hkr
    have HSV := Lib.hid hsv
    clear hsv
    have hsz := hkr.size
    have HKR := Lib.hid hkr
    clear hkr
    obtain ⟨j, hjj⟩ : ∃ j, j = us.length := ⟨_, rfl⟩
    rw [← hjj] at hj ⊢
    have HJ := Lib.hid hjj
    clear hjj
    by_cases hlt : j < cl
    · obtain ⟨rfl, hSb⟩ := HCA.out (by rw [← HCL.out]; omega)
      obtain ⟨u, hu, ht⟩ := HK.out j (by rw [← HCL.out]; omega)
      obtain ⟨k1, i1, g1, r1, t1, ka1, ca1, kl1, kc1, cl1, cc1, rfl⟩ := ht.form
      obtain ⟨h0, h1, h2, h3, h4, h5, h6⟩ := (hu.below HKR.out.below (HS.out _ hSb)).cells
      have HT := Lib.hid (ht.below HKR.out.below HS.out)
      clear hu ht
      go_wp2_with fail
      refine (IH.out _ _ S _ (HT.out.below ((Below.refl wr.heap.size wr).alloc (Nat.le_refl _) _) (fun k hk => by have := HS.out k hk; omega)) (fun k hk => by have := HS.out k hk; simp; omega) (HG.out.below (HKR.out.below.alloc (by omega) _))).mono ?_
      rintro e w1 ⟨⟨u, y, hu, hy, rfl⟩, hb1⟩
      obtain ⟨k2, i2, g2, r2, t2, ka2, ca2, kl2, kc2, cl2, cc2, rfl⟩ := hu.form
      have hs1 := hb1.size
      simp at hs1
      have HKR1 := Lib.hid (HKR.out.call _ hb1)
      have hown : ∀ k, sv.ownBlock = some k → k < wr.heap.size := fun k e => (HKR.out.row.1.lt k e).2
      have HU := Lib.hid (hu.mono (S' := fun k => w.heap.size + 3 ≤ k ∧ k < w1.heap.size ∧ sv.ownBlock ≠ some k) (fun k hk => ⟨by have := hk.1; simp at this; omega, hk.2, fun e => by have := hown k e; have := hk.1; simp at this; omega⟩))
      have HY := Lib.hid hy
      have hbo6 := HKR1.out.out.cell 6
      simp at hbo6
      clear hu hb1 hy hown h0 h1 h2 h3 h4 h5 h6
      have hne : w.heap.size + 1 + 1 < w1.heap.size := by omega
      have hne0 : w.heap.size < w1.heap.size := by omega
      cases y
      · go_wp2_with ((with_reducible show wpList _ _ _ (⟨_, .store 30 (.tmp 4) _, _, _, _, _⟩ :: _) _ _); refine wpx_store (w.heap.size + 1 + 1) _ 30 (HKR1.out.alloc _).res 30 _ _ _ rfl rfl rfl rfl rfl Tryz.size30 rfl (by simp [Value.oneCell']) ?_; intro w2 hb2 hk2 hs2)
        refine bodyPost_ret (results_box rfl _ _ (w.heap.size + 1 + 1) 30 _ _ rfl hb2 rfl Tryz.underlying30 Tryz.size30) rfl ?_
        refine ⟨⟨_, false, ?_, by simp, rfl⟩, ?_⟩
        · exact ⟨0, 0, 0, 0, ⟨#[]⟩, none, none, 0, 0, 0, 0, rfl, by simp, 0, 0, by simp, by simp⟩
        · exact (HKR1.out.below.alloc (by omega) _).trans (hk2.below (fun k e => by omega) (by simp; omega))
      · go_wp2_with (at_builtin; refine wp_app2 28 30 7 96 _ Tryz.info30 Tryz.underlying28 rfl (by decide) (w.heap.size + 3) sv us.length (flat7 us) [.int .i64 k2, .int .i64 i2, .int .i64 g2, .float .f64 r2, .string t2, .slice ka2 kl2 kc2, .slice ca2 cl2 cc2] _ _ _ (w1.alloc (.cells #[.int .i64 k2, .int .i64 i2, .int .i64 g2, .float .f64 r2, .string t2, .slice ka2 kl2 kc2, .slice ca2 cl2 cc2] 30)) rfl rfl _ rfl rfl rfl (by simp) (HKR1.out.alloc _).row.1 rfl (by simp [Value.oneCell']) (by rw [← HJ.out]; omega) (by rw [← HJ.out]; omega) (by simp; omega) ?_; intro sv' w2 ho hk2 hp; obtain ⟨na, nc, rfl⟩ := own_form ho; have hw6 := ((HKR1.out.alloc (.cells #[.int .i64 k2, .int .i64 i2, .int .i64 g2, .float .f64 r2, .string t2, .slice ka2 kl2 kc2, .slice ca2 cl2 cc2] 30)).out.kept hk2 (fun e => by have := (HKR1.out.row.1.lt _ e).1; omega)).cell 6; have hf6 := ((HKR1.out.alloc (.cells #[.int .i64 k2, .int .i64 i2, .int .i64 g2, .float .f64 r2, .string t2, .slice ka2 kl2 kc2, .slice ca2 cl2 cc2] 30)).out.kept hk2 (fun e => by have := (HKR1.out.row.1.lt _ e).1; omega)).frozen 6; have HO := Lib.hid ho; have HK2 := Lib.hid hk2; have HP := Lib.hid hp; clear ho hk2 hp; simp at hw6)
        go_roundw
        case rel =>
          refine ⟨.slice na (us.length + 1) nc, us ++ [.agg #[.int .i64 k2, .int .i64 i2, .int .i64 g2, .float .f64 r2, .string t2, .slice ka2 kl2 kc2, .slice ca2 cl2 cc2]], ?_, ?_, ?_⟩
          · have := HJ.out; simp; omega
          · have := HJ.out; simp [← this]
          · have hj' := HJ.out
            have hc' := HCL.out
            subst hj'
            exact (HKR1.out.alloc _).next (by omega) ((HU.out.same fun k hk => ⟨Below.heap_alloc _ _ _ hk.2.1, hk.1, by simp; omega, hk.2.2⟩)) (HY.out trivial) HO.out HK2.out HP.out
        case measure =>
          show cl - ((j : Int) + 1).toNat < cl - ((j : Int)).toNat
          omega
    · go_wp2_with (first | ((with_reducible show wpList _ _ _ (⟨_, .load 30 (.tmp 2), _, _, _, _⟩ :: _) _ _); refine wpx_load w.heap.size _ 30 HKR.out.out 30 _ _ rfl rfl rfl rfl Tryz.underlying30 Tryz.size30 ?_) | ((with_reducible show wpList _ _ _ (⟨_, .store 30 (.tmp 4) _, _, _, _, _⟩ :: _) _ _); refine wpx_store (w.heap.size + 1 + 1) _ 30 HKR.out.res 30 _ _ _ rfl rfl rfl rfl rfl Tryz.size30 rfl (by simp [Value.oneCell', HSV.out]) ?_; intro w2 hb2 hk2 hs2))
      refine bodyPost_ret (results_box rfl _ _ (w.heap.size + 1 + 1) 30 _ _ rfl hb2 rfl Tryz.underlying30 Tryz.size30) rfl ?_
      have hju := HJ.out
      have hcu := HCL.out
      have hjc : us.length = os.length := by omega
      have hrow := HKR.out.row
      obtain ⟨ca', cc', b', hsv', hca', hat⟩ := row7 hrow.1 (fun u hu => (hrow.2 u hu).seven)
      refine ⟨⟨_, true, ?_, fun _ => ?_, rfl⟩, HKR.out.below.trans (hk2.below (fun k e => by omega) (by omega))⟩
      · refine ⟨kd, 0, 0, 0, ⟨#[]⟩, kka, ca', kkl, kkc, us.length, cc', by rw [hsv'], by omega, b', 0, fun h => ⟨(hca' h).1, by have := (hca' h).2; omega⟩, fun j' hj' => ?_⟩
        have hb' := hca' (by omega)
        refine ⟨us[j'], (hat j' hj').same (hk2.block b' (by omega) (by omega)), (hrow.2 _ (List.getElem_mem hj')).same fun k hk => ⟨hk2.block k hk.2.1 (by omega), by omega, by omega⟩⟩
      · have := HKR.out.valid
        rw [hjc, List.take_length] at this
        exact this

theorem fromKids_all (n : Nat) (ih : Said16 n) (kd k i g : Int) (r : Nat) (t : ByteArray) (kka ka ca : Option Addr) (kkl kkc kl kc cl cc : Nat) (os : List Ob) (S : Nat → Prop) (b off : Nat) (w : World) (hcl : cl = os.length)
    (hl : os.length * 96 ≤ 140737488355328) (hca : 0 < os.length → ca = some ⟨b, off, none⟩ ∧ S b) (hk : ∀ j (h : j < os.length), ∃ u, At7 w b (off + j * 7) u ∧ Rep n w S u os[j])
    (hS : ∀ k, S k → k < w.heap.size) (hg : Gl w) :
    Calls Tryz.prog 44 #[.agg #[.int .i64 kd, .int .i64 0, .int .i64 0, .float .f64 0, .string ⟨#[]⟩, .slice kka kkl kkc, .slice none 0 0],
        .agg #[.int .i64 k, .int .i64 i, .int .i64 g, .float .f64 r, .string t, .slice ka kl kc, .slice ca cl cc]] w
      fun e w' => RetVal (n + 1) w w' (AllV n os) e ∧ Below w.heap.size w w' := by
  subst hcl
  exact fromKids_any n ih kd k i g r t kka ka ca kkl kkc kl kc cc os S b off w hl hca hk hS hg

end Go.Proofs.YtcpijmbdibgdmaaGreatDoor
