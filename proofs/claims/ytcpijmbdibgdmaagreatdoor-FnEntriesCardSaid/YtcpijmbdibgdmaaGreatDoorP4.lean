/-
  internal/strconv.fmtEFG for 'f' with twelve digits behind the point: the form of what it writes.
-/
import Derived.Test.YtcpijmbdibgdmaaGreatDoorP3
import Derived.Deep.DeepCutAuto
namespace Go.Proofs.YtcpijmbdibgdmaaGreatDoor
set_option linter.unusedVariables false
set_option linter.unusedSimpArgs false
open Go Go.RowKit

/-- The buffer that is written into, and the digits that are read. -/
structure Efg (w wr : World) (base sb nd : Nat) (v : Value) (xs : List Int) : Prop where
  own : wr.ownsRow base 5 1 v xs.length (xs.map (Value.int .u8))
  ne : v.ownBlock ≠ some sb
  digs : Digs wr sb nd
  below : Below base w wr
  size : w.heap.size ≤ wr.heap.size
  base : base ≤ w.heap.size
  sb : sb < w.heap.size

theorem Digs.kept {w w' : World} {b n : Nat} {S : Nat → Prop} (h : Digs w b n) (hk : Kept S w w') (hn : ¬ S b) : Digs w' b n := by
  intro j hj
  obtain ⟨c, hc, h1⟩ := h j hj
  exact ⟨c, (hk.cell (p := ⟨b, j, none⟩) (World.block_lt_of_cell? _ _ hc) hn).trans hc, h1⟩

theorem Efg.app {w wr w' : World} {base sb nd : Nat} {v v' : Value} {xs : List Int} (h : Efg w wr base sb nd v xs) (c : Int)
    (ho : w'.ownsRow base 5 1 v' (xs.length + 1) (xs.map (Value.int .u8) ++ [.int .u8 c])) (hk : Kept (fun k => v.ownBlock = some k) wr w') (hp : v'.ownBlock = v.ownBlock ∨ ∃ k, v'.ownBlock = some k ∧ wr.heap.size ≤ k) :
    Efg w w' base sb nd v' (xs ++ [c]) := by
  have hs := h.size
  have hs2 := hk.size
  have hsb := h.sb
  have hb := h.base
  refine ⟨by simpa using ho, fun e => ?_, h.digs.kept hk h.ne, h.below.trans (hk.below (fun k e => (h.own.lt k e).1) (by omega)), by omega, hb, hsb⟩
  rcases hp with hp | ⟨k, hp, hge⟩
  · exact h.ne (hp ▸ e)
  · rw [hp] at e
    injection e with e
    omega

/-- `k` digits more. -/
def Ext (pre : List Int) (k : Nat) (xs : List Int) : Prop := ∃ ds : List Int, xs = pre ++ ds ∧ ds.length = k ∧ ∀ x ∈ ds, 48 ≤ x ∧ x ≤ 57

theorem Ext.nil (pre : List Int) : Ext pre 0 pre := ⟨[], by simp, rfl, by simp⟩
theorem Ext.snoc {pre : List Int} {k : Nat} {xs : List Int} (h : Ext pre k xs) {c : Int} (h0 : 48 ≤ c) (h1 : c ≤ 57) : Ext pre (k + 1) (xs ++ [c]) := by
  obtain ⟨ds, rfl, rfl, hd⟩ := h
  refine ⟨ds ++ [c], by simp, by simp, fun x hx => ?_⟩
  rcases List.mem_append.1 hx with hx | hx
  · exact hd x hx
  · rw [List.mem_singleton.1 hx]; exact ⟨h0, h1⟩
theorem Ext.trans {pre xs ys : List Int} {k j : Nat} (h : Ext pre k xs) (h' : Ext xs j ys) : Ext pre (k + j) ys := by
  obtain ⟨ds, rfl, rfl, hd⟩ := h
  obtain ⟨es, rfl, rfl, he⟩ := h'
  exact ⟨ds ++ es, by simp, by simp, fun x hx => (List.mem_append.1 hx).elim (hd x) (he x)⟩
theorem Ext.len {pre : List Int} {k : Nat} {xs : List Int} (h : Ext pre k xs) : xs.length = pre.length + k := by
  obtain ⟨ds, rfl, rfl, _⟩ := h
  simp

/-- The form of a number that is written out with twelve digits behind its point. -/
def Shape (xs : List Int) : Prop := ∃ (sg ys : List Int) (k : Nat), (sg = [] ∨ sg = [45]) ∧ Ext sg k ys ∧ 1 ≤ k ∧ k ≤ 17 ∧ Ext (ys ++ [46]) 12 xs

/-- It returns such bytes, in a row of its own. -/
def RetShape (base : Nat) (w' : World) (e : Ending) : Prop := ∃ (v : Value) (xs : List Int), e = .returned v ∧ w'.ownsRow base 5 1 v xs.length (xs.map (Value.int .u8)) ∧ Shape xs

theorem Ext.cast {pre : List Int} {k j : Nat} {xs : List Int} (h : Ext pre k xs) (e : k = j) : Ext pre j xs := e ▸ h

set_option maxRecDepth 100000 in
set_option maxHeartbeats 4000000 in
theorem fmtF_plainZero (base sb nd L cap : Nat) (dp : Int) (v0 : Value) (sa : Option Addr) (w : World) (hE : Efg w w base sb nd v0 []) (hpos : dp ≤ 0) (hdp : -1000 ≤ dp ∧ dp ≤ 17) (hnd : nd ≤ L) (hL : L ≤ 800) (hcap : L ≤ cap)
    (hsa : 0 < nd ∨ 0 < dp → sa = some ⟨sb, 0, none⟩) :
    Calls Tryz.prog 95 #[v0, .bool false, .slice sa L cap, .int .i64 dp, .int .i64 nd, .int .i64 12, .int .u8 102, .bool false] w fun e w' => RetShape base w' e ∧ Below base w w' := by
  have HE0 := Lib.hid hE
  have HSA := Lib.hid hsa
  clear hE hsa
  obtain ⟨LZ, hLZ⟩ : ∃ n : Nat, min 12 (max 0 (-dp)) = (n : Int) := ⟨(min 12 (max 0 (-dp))).toNat, by omega⟩
  obtain ⟨MD, hMD⟩ : ∃ n : Nat, min (12 - (LZ : Int)) (max 0 ((nd : Int) - (dp + LZ))) = (n : Int) := ⟨(min (12 - (LZ : Int)) (max 0 ((nd : Int) - (dp + LZ)))).toNat, by omega⟩
  obtain ⟨TZ, hTZ⟩ : ∃ n : Nat, max 0 (12 - (LZ : Int) - MD) = (n : Int) := ⟨(max 0 (12 - (LZ : Int) - MD)).toNat, by omega⟩
  obtain ⟨OFF, hOFF⟩ : ∃ n : Nat, n = (dp + LZ).toNat := ⟨_, rfl⟩
  have hsum : LZ + MD + TZ = 12 := by omega
  have hoff : 0 < MD → dp + (LZ : Int) = OFF ∧ OFF + MD ≤ nd := by omega
  have HO := Lib.hid hoff
  have HS := Lib.hid hsum
  clear hoff hsum hOFF
  go_enter Tryz.func95, Tryz.ntmps95
  go_wp2_with (first | (at_builtin; (fail_if_success have _zz := HE3); refine wp_app2 102 5 1 1 _ Tryz.info5 Tryz.underlying102 rfl (by decide) base _ _ _ [.int .u8 48] _ _ _ _ rfl rfl _ rfl rfl rfl (by simp) HE0.out.own rfl (by intro u hu; simp at hu; subst hu; rfl) (by first | omega | (simp only [List.length_append, List.length_singleton, List.length_nil, List.length_cons]; omega) | simp) (by first | omega | (simp only [List.length_append, List.length_singleton, List.length_nil, List.length_cons]; omega) | simp) (by have := HE0.out.size; have := HE0.out.base; first | omega | (simp; omega)) ?_; intro v1 w1 ho1 hk1 hp1; have HE3 := Lib.hid (HE0.out.app 48 ho1 hk1 hp1); clear ho1 hk1 hp1) | (at_builtin; refine wp_app2 102 5 1 1 _ Tryz.info5 Tryz.underlying102 rfl (by decide) base _ _ _ [.int .u8 46] _ _ _ _ rfl rfl _ rfl rfl rfl (by simp) HE3.out.own rfl (by intro u hu; simp at hu; subst hu; rfl) (by first | omega | (simp only [List.length_append, List.length_singleton, List.length_nil, List.length_cons]; omega) | simp) (by first | omega | (simp only [List.length_append, List.length_singleton, List.length_nil, List.length_cons]; omega) | simp) (by have := HE3.out.size; have := HE3.out.base; first | omega | (simp; omega)) ?_; intro v1 w1 ho1 hk1 hp1; have HEd := Lib.hid (HE3.out.app 46 ho1 hk1 hp1); clear ho1 hk1 hp1))
  go_loopw [0, 240] (fun v' i wr => ∃ (k : Nat) (xs : List Int), i = .int .i64 k ∧ k ≤ LZ ∧ Efg w wr base sb nd v' xs ∧ Ext (([] : List Int) ++ [48] ++ [46]) (0 + k) xs) (fun _ i _ => LZ - (intOf i).toNat)
  case atStart => exact ⟨0, _, rfl, by omega, HEd.out, Ext.nil _⟩
  case round =>
    obtain ⟨k, z240, rfl, hk, he, hx⟩ := hrel
    have hzl := hx.len
    try simp only [List.length_append, List.length_singleton, List.length_nil, List.length_cons] at hzl
    have HEz := Lib.hid he
    have HXz := Lib.hid hx
    clear he hx
    by_cases hlt : k < LZ
    · go_wp2_with (at_builtin; refine wp_app2 102 5 1 1 _ Tryz.info5 Tryz.underlying102 rfl (by decide) base _ _ _ [.int .u8 48] _ _ _ _ rfl rfl _ rfl rfl rfl (by simp) HEz.out.own rfl (by intro u hu; simp at hu; subst hu; rfl) (by first | omega | (simp only [List.length_append, List.length_singleton, List.length_nil, List.length_cons]; omega) | simp) (by first | omega | (simp only [List.length_append, List.length_singleton, List.length_nil, List.length_cons]; omega) | simp) (by have := HEz.out.size; have := HEz.out.base; first | omega | (simp; omega)) ?_; intro v1 w1 ho1 hk1 hp1; have HE1 := Lib.hid (HEz.out.app 48 ho1 hk1 hp1); clear ho1 hk1 hp1)
      go_roundw
      case rel => exact ⟨k + 1, _, by go_num, by omega, HE1.out, HXz.out.snoc (by omega) (by omega)⟩
      case measure => simp only [intOf]; omega
    · have HK240 := Lib.hid (show k = LZ by omega)
      go_wp2_with fail
      go_loopw [0, 247] (fun v' i wr => ∃ (k : Nat) (xs : List Int), i = .int .i64 k ∧ k ≤ MD ∧ Efg w wr base sb nd v' xs ∧ Ext (([] : List Int) ++ [48] ++ [46]) (LZ + k) xs) (fun _ i _ => MD - (intOf i).toNat)
      case atStart => exact ⟨0, _, rfl, by omega, HEz.out, Ext.cast HXz.out (by have := HK240.out; omega)⟩
      case round =>
        obtain ⟨k, z247, rfl, hk, he, hx⟩ := hrel
        have hzl := hx.len
        try simp only [List.length_append, List.length_singleton, List.length_nil, List.length_cons] at hzl
        have HEm := Lib.hid he
        have HXm := Lib.hid hx
        clear he hx
        by_cases hlt : k < MD
        · obtain rfl := HSA.out (by omega)
          obtain ⟨c, hc, hc0, hc1⟩ := HEm.out.digs (OFF + k) (by have := HO.out; omega)
          try simp only [Nat.zero_add] at hc
          have hoo := (HO.out (by omega)).1
          have hidx : (dp + (LZ : Int) + (k : Int)).toNat = OFF + k := by omega
          have hi0 : 0 ≤ dp + (LZ : Int) + (k : Int) := by omega
          have hi1 : dp + (LZ : Int) + (k : Int) < (L : Int) := by have := HO.out (by omega); omega
          clear hoo
          go_wp2_with (at_builtin; refine wp_app2 102 5 1 1 _ Tryz.info5 Tryz.underlying102 rfl (by decide) base _ _ _ [.int .u8 c] _ _ _ _ rfl rfl _ rfl rfl rfl (by simp) HEm.out.own rfl (by intro u hu; simp at hu; subst hu; rfl) (by first | omega | (simp only [List.length_append, List.length_singleton, List.length_nil, List.length_cons]; omega) | simp) (by first | omega | (simp only [List.length_append, List.length_singleton, List.length_nil, List.length_cons]; omega) | simp) (by have := HEm.out.size; have := HEm.out.base; first | omega | (simp; omega)) ?_; intro v1 w1 ho1 hk1 hp1; have HE1 := Lib.hid (HEm.out.app c ho1 hk1 hp1); clear ho1 hk1 hp1)
          go_roundw
          case rel => exact ⟨k + 1, _, by go_num, by omega, HE1.out, HXm.out.snoc (by omega) (by omega)⟩
          case measure => simp only [intOf]; omega
        · have HK247 := Lib.hid (show k = MD by omega)
          go_wp2_with fail
          go_loopw [0, 261] (fun v' i wr => ∃ (k : Nat) (xs : List Int), i = .int .i64 k ∧ k ≤ TZ ∧ Efg w wr base sb nd v' xs ∧ Ext (([] : List Int) ++ [48] ++ [46]) ((LZ + MD) + k) xs) (fun _ i _ => TZ - (intOf i).toNat)
          case atStart => exact ⟨0, _, rfl, by omega, HEm.out, Ext.cast HXm.out (by have := HK247.out; omega)⟩
          case round =>
            obtain ⟨k, z261, rfl, hk, he, hx⟩ := hrel
            have hzl := hx.len
            try simp only [List.length_append, List.length_singleton, List.length_nil, List.length_cons] at hzl
            have HEt := Lib.hid he
            have HXt := Lib.hid hx
            clear he hx
            by_cases hlt : k < TZ
            · go_wp2_with (at_builtin; refine wp_app2 102 5 1 1 _ Tryz.info5 Tryz.underlying102 rfl (by decide) base _ _ _ [.int .u8 48] _ _ _ _ rfl rfl _ rfl rfl rfl (by simp) HEt.out.own rfl (by intro u hu; simp at hu; subst hu; rfl) (by first | omega | (simp only [List.length_append, List.length_singleton, List.length_nil, List.length_cons]; omega) | simp) (by first | omega | (simp only [List.length_append, List.length_singleton, List.length_nil, List.length_cons]; omega) | simp) (by have := HEt.out.size; have := HEt.out.base; first | omega | (simp; omega)) ?_; intro v1 w1 ho1 hk1 hp1; have HE1 := Lib.hid (HEt.out.app 48 ho1 hk1 hp1); clear ho1 hk1 hp1)
              go_roundw
              case rel => exact ⟨k + 1, _, by go_num, by omega, HE1.out, HXt.out.snoc (by omega) (by omega)⟩
              case measure => simp only [intOf]; omega
            · have HK261 := Lib.hid (show k = TZ by omega)
              go_wp2_with fail
              go_ret
              exact ⟨⟨_, _, rfl, HEt.out.own, ([] : List Int), _, _, .inl rfl, (Ext.nil _).snoc (by omega) (by omega), by omega, by omega, Ext.cast (HXt.out) (by have := HK261.out; have := HS.out; omega)⟩, HEt.out.below⟩

set_option maxRecDepth 100000 in
set_option maxHeartbeats 4000000 in
theorem fmtF_plainPos (base sb nd L cap : Nat) (dp : Int) (v0 : Value) (sa : Option Addr) (w : World) (hE : Efg w w base sb nd v0 []) (hpos : 0 < dp) (hdp : -1000 ≤ dp ∧ dp ≤ 17) (hnd : nd ≤ L) (hL : L ≤ 800) (hcap : L ≤ cap)
    (hsa : 0 < nd ∨ 0 < dp → sa = some ⟨sb, 0, none⟩) :
    Calls Tryz.prog 95 #[v0, .bool false, .slice sa L cap, .int .i64 dp, .int .i64 nd, .int .i64 12, .int .u8 102, .bool false] w fun e w' => RetShape base w' e ∧ Below base w w' := by
  have HE0 := Lib.hid hE
  have HSA := Lib.hid hsa
  clear hE hsa
  obtain ⟨LZ, hLZ⟩ : ∃ n : Nat, min 12 (max 0 (-dp)) = (n : Int) := ⟨(min 12 (max 0 (-dp))).toNat, by omega⟩
  obtain ⟨MD, hMD⟩ : ∃ n : Nat, min (12 - (LZ : Int)) (max 0 ((nd : Int) - (dp + LZ))) = (n : Int) := ⟨(min (12 - (LZ : Int)) (max 0 ((nd : Int) - (dp + LZ)))).toNat, by omega⟩
  obtain ⟨TZ, hTZ⟩ : ∃ n : Nat, max 0 (12 - (LZ : Int) - MD) = (n : Int) := ⟨(max 0 (12 - (LZ : Int) - MD)).toNat, by omega⟩
  obtain ⟨OFF, hOFF⟩ : ∃ n : Nat, n = (dp + LZ).toNat := ⟨_, rfl⟩
  have hsum : LZ + MD + TZ = 12 := by omega
  have hoff : 0 < MD → dp + (LZ : Int) = OFF ∧ OFF + MD ≤ nd := by omega
  have HO := Lib.hid hoff
  have HS := Lib.hid hsum
  clear hoff hsum hOFF
  go_enter Tryz.func95, Tryz.ntmps95
  obtain ⟨M, hM⟩ : ∃ n : Nat, min (nd : Int) dp = (n : Int) := ⟨(min (nd : Int) dp).toNat, by omega⟩
  have hM1 : M ≤ nd ∧ (M : Int) ≤ dp := by omega
  obtain ⟨R, hR⟩ : ∃ n : Nat, dp - (M : Int) = (n : Int) := ⟨(dp - (M : Int)).toNat, by omega⟩
  obtain rfl := HSA.out (Or.inr hpos)
  go_wp2_with fail
  go_loopw [0, 191] (fun v' i wr => ∃ (k : Nat) (xs : List Int), i = .int .i64 k ∧ k ≤ M ∧ Efg w wr base sb nd v' xs ∧ Ext ([] : List Int) (0 + k) xs) (fun _ i _ => M - (intOf i).toNat)
  case atStart => exact ⟨0, _, rfl, by omega, HE0.out, Ext.nil _⟩
  case round =>
    obtain ⟨k, z191, rfl, hk, he, hx⟩ := hrel
    have hzl := hx.len
    try simp only [List.length_append, List.length_singleton, List.length_nil, List.length_cons] at hzl
    have HE2 := Lib.hid he
    have HX2 := Lib.hid hx
    clear he hx
    by_cases hlt : k < M
    · 
      obtain ⟨c, hc, hc0, hc1⟩ := HE2.out.digs (0 + k) (by have := HO.out; omega)
      try simp only [Nat.zero_add] at hc
      skip
      go_wp2_with (at_builtin; refine wp_app2 102 5 1 1 _ Tryz.info5 Tryz.underlying102 rfl (by decide) base _ _ _ [.int .u8 c] _ _ _ _ rfl rfl _ rfl rfl rfl (by simp) HE2.out.own rfl (by intro u hu; simp at hu; subst hu; rfl) (by first | omega | (simp only [List.length_append, List.length_singleton, List.length_nil, List.length_cons]; omega) | simp) (by first | omega | (simp only [List.length_append, List.length_singleton, List.length_nil, List.length_cons]; omega) | simp) (by have := HE2.out.size; have := HE2.out.base; first | omega | (simp; omega)) ?_; intro v1 w1 ho1 hk1 hp1; have HE1 := Lib.hid (HE2.out.app c ho1 hk1 hp1); clear ho1 hk1 hp1)
      go_roundw
      case rel => exact ⟨k + 1, _, by go_num, by omega, HE1.out, HX2.out.snoc (by omega) (by omega)⟩
      case measure => simp only [intOf]; omega
    · have HK191 := Lib.hid (show k = M by omega)
      go_wp2_with fail
      go_loopw [0, 203] (fun v' i wr => ∃ (k : Nat) (xs : List Int), i = .int .i64 k ∧ k ≤ R ∧ Efg w wr base sb nd v' xs ∧ Ext ([] : List Int) (M + k) xs) (fun _ i _ => R - (intOf i).toNat)
      case atStart => exact ⟨0, _, rfl, by omega, HE2.out, Ext.cast HX2.out (by have := HK191.out; omega)⟩
      case round =>
        obtain ⟨k, z203, rfl, hk, he, hx⟩ := hrel
        have hzl := hx.len
        try simp only [List.length_append, List.length_singleton, List.length_nil, List.length_cons] at hzl
        have HE3 := Lib.hid he
        have HX3 := Lib.hid hx
        clear he hx
        by_cases hlt : k < R
        · go_wp2_with (at_builtin; refine wp_app2 102 5 1 1 _ Tryz.info5 Tryz.underlying102 rfl (by decide) base _ _ _ [.int .u8 48] _ _ _ _ rfl rfl _ rfl rfl rfl (by simp) HE3.out.own rfl (by intro u hu; simp at hu; subst hu; rfl) (by first | omega | (simp only [List.length_append, List.length_singleton, List.length_nil, List.length_cons]; omega) | simp) (by first | omega | (simp only [List.length_append, List.length_singleton, List.length_nil, List.length_cons]; omega) | simp) (by have := HE3.out.size; have := HE3.out.base; first | omega | (simp; omega)) ?_; intro v1 w1 ho1 hk1 hp1; have HE1 := Lib.hid (HE3.out.app 48 ho1 hk1 hp1); clear ho1 hk1 hp1)
          go_roundw
          case rel => exact ⟨k + 1, _, by go_num, by omega, HE1.out, HX3.out.snoc (by omega) (by omega)⟩
          case measure => simp only [intOf]; omega
        · have HK203 := Lib.hid (show k = R by omega)
          go_wp2_with (at_builtin; refine wp_app2 102 5 1 1 _ Tryz.info5 Tryz.underlying102 rfl (by decide) base _ _ _ [.int .u8 46] _ _ _ _ rfl rfl _ rfl rfl rfl (by simp) HE3.out.own rfl (by intro u hu; simp at hu; subst hu; rfl) (by first | omega | (simp only [List.length_append, List.length_singleton, List.length_nil, List.length_cons]; omega) | simp) (by first | omega | (simp only [List.length_append, List.length_singleton, List.length_nil, List.length_cons]; omega) | simp) (by have := HE3.out.size; have := HE3.out.base; first | omega | (simp; omega)) ?_; intro v1 w1 ho1 hk1 hp1; have HEd := Lib.hid (HE3.out.app 46 ho1 hk1 hp1); clear ho1 hk1 hp1)
          go_loopw [0, 240] (fun v' i wr => ∃ (k : Nat) (xs : List Int), i = .int .i64 k ∧ k ≤ LZ ∧ Efg w wr base sb nd v' xs ∧ Ext (z203 ++ [46]) (0 + k) xs) (fun _ i _ => LZ - (intOf i).toNat)
          case atStart => exact ⟨0, _, rfl, by omega, HEd.out, Ext.nil _⟩
          case round =>
            obtain ⟨k, z240, rfl, hk, he, hx⟩ := hrel
            have hzl := hx.len
            try simp only [List.length_append, List.length_singleton, List.length_nil, List.length_cons] at hzl
            have HEz := Lib.hid he
            have HXz := Lib.hid hx
            clear he hx
            by_cases hlt : k < LZ
            · exfalso; omega
            · have HK240 := Lib.hid (show k = LZ by omega)
              go_wp2_with fail
              go_loopw [0, 247] (fun v' i wr => ∃ (k : Nat) (xs : List Int), i = .int .i64 k ∧ k ≤ MD ∧ Efg w wr base sb nd v' xs ∧ Ext (z203 ++ [46]) (LZ + k) xs) (fun _ i _ => MD - (intOf i).toNat)
              case atStart => exact ⟨0, _, rfl, by omega, HEz.out, Ext.cast HXz.out (by have := HK240.out; omega)⟩
              case round =>
                obtain ⟨k, z247, rfl, hk, he, hx⟩ := hrel
                have hzl := hx.len
                try simp only [List.length_append, List.length_singleton, List.length_nil, List.length_cons] at hzl
                have HEm := Lib.hid he
                have HXm := Lib.hid hx
                clear he hx
                by_cases hlt : k < MD
                · 
                  obtain ⟨c, hc, hc0, hc1⟩ := HEm.out.digs (OFF + k) (by have := HO.out; omega)
                  try simp only [Nat.zero_add] at hc
                  have hoo := (HO.out (by omega)).1
                  have hidx : (dp + (LZ : Int) + (k : Int)).toNat = OFF + k := by omega
                  have hi0 : 0 ≤ dp + (LZ : Int) + (k : Int) := by omega
                  have hi1 : dp + (LZ : Int) + (k : Int) < (L : Int) := by have := HO.out (by omega); omega
                  clear hoo
                  go_wp2_with (at_builtin; refine wp_app2 102 5 1 1 _ Tryz.info5 Tryz.underlying102 rfl (by decide) base _ _ _ [.int .u8 c] _ _ _ _ rfl rfl _ rfl rfl rfl (by simp) HEm.out.own rfl (by intro u hu; simp at hu; subst hu; rfl) (by first | omega | (simp only [List.length_append, List.length_singleton, List.length_nil, List.length_cons]; omega) | simp) (by first | omega | (simp only [List.length_append, List.length_singleton, List.length_nil, List.length_cons]; omega) | simp) (by have := HEm.out.size; have := HEm.out.base; first | omega | (simp; omega)) ?_; intro v1 w1 ho1 hk1 hp1; have HE1 := Lib.hid (HEm.out.app c ho1 hk1 hp1); clear ho1 hk1 hp1)
                  go_roundw
                  case rel => exact ⟨k + 1, _, by go_num, by omega, HE1.out, HXm.out.snoc (by omega) (by omega)⟩
                  case measure => simp only [intOf]; omega
                · have HK247 := Lib.hid (show k = MD by omega)
                  go_wp2_with fail
                  go_loopw [0, 261] (fun v' i wr => ∃ (k : Nat) (xs : List Int), i = .int .i64 k ∧ k ≤ TZ ∧ Efg w wr base sb nd v' xs ∧ Ext (z203 ++ [46]) ((LZ + MD) + k) xs) (fun _ i _ => TZ - (intOf i).toNat)
                  case atStart => exact ⟨0, _, rfl, by omega, HEm.out, Ext.cast HXm.out (by have := HK247.out; omega)⟩
                  case round =>
                    obtain ⟨k, z261, rfl, hk, he, hx⟩ := hrel
                    have hzl := hx.len
                    try simp only [List.length_append, List.length_singleton, List.length_nil, List.length_cons] at hzl
                    have HEt := Lib.hid he
                    have HXt := Lib.hid hx
                    clear he hx
                    by_cases hlt : k < TZ
                    · go_wp2_with (at_builtin; refine wp_app2 102 5 1 1 _ Tryz.info5 Tryz.underlying102 rfl (by decide) base _ _ _ [.int .u8 48] _ _ _ _ rfl rfl _ rfl rfl rfl (by simp) HEt.out.own rfl (by intro u hu; simp at hu; subst hu; rfl) (by first | omega | (simp only [List.length_append, List.length_singleton, List.length_nil, List.length_cons]; omega) | simp) (by first | omega | (simp only [List.length_append, List.length_singleton, List.length_nil, List.length_cons]; omega) | simp) (by have := HEt.out.size; have := HEt.out.base; first | omega | (simp; omega)) ?_; intro v1 w1 ho1 hk1 hp1; have HE1 := Lib.hid (HEt.out.app 48 ho1 hk1 hp1); clear ho1 hk1 hp1)
                      go_roundw
                      case rel => exact ⟨k + 1, _, by go_num, by omega, HE1.out, HXt.out.snoc (by omega) (by omega)⟩
                      case measure => simp only [intOf]; omega
                    · have HK261 := Lib.hid (show k = TZ by omega)
                      go_wp2_with fail
                      go_ret
                      exact ⟨⟨_, _, rfl, HEt.out.own, ([] : List Int), _, _, .inl rfl, HX3.out, by have := HK203.out; have := HK191.out; omega, by have := HK203.out; have := HK191.out; omega, Ext.cast (HXt.out) (by have := HK261.out; have := HS.out; omega)⟩, HEt.out.below⟩

set_option maxRecDepth 100000 in
set_option maxHeartbeats 4000000 in
theorem fmtF_negZero (base sb nd L cap : Nat) (dp : Int) (v0 : Value) (sa : Option Addr) (w : World) (hE : Efg w w base sb nd v0 []) (hpos : dp ≤ 0) (hdp : -1000 ≤ dp ∧ dp ≤ 17) (hnd : nd ≤ L) (hL : L ≤ 800) (hcap : L ≤ cap)
    (hsa : 0 < nd ∨ 0 < dp → sa = some ⟨sb, 0, none⟩) :
    Calls Tryz.prog 95 #[v0, .bool true, .slice sa L cap, .int .i64 dp, .int .i64 nd, .int .i64 12, .int .u8 102, .bool false] w fun e w' => RetShape base w' e ∧ Below base w w' := by
  have HE0 := Lib.hid hE
  have HSA := Lib.hid hsa
  clear hE hsa
  obtain ⟨LZ, hLZ⟩ : ∃ n : Nat, min 12 (max 0 (-dp)) = (n : Int) := ⟨(min 12 (max 0 (-dp))).toNat, by omega⟩
  obtain ⟨MD, hMD⟩ : ∃ n : Nat, min (12 - (LZ : Int)) (max 0 ((nd : Int) - (dp + LZ))) = (n : Int) := ⟨(min (12 - (LZ : Int)) (max 0 ((nd : Int) - (dp + LZ)))).toNat, by omega⟩
  obtain ⟨TZ, hTZ⟩ : ∃ n : Nat, max 0 (12 - (LZ : Int) - MD) = (n : Int) := ⟨(max 0 (12 - (LZ : Int) - MD)).toNat, by omega⟩
  obtain ⟨OFF, hOFF⟩ : ∃ n : Nat, n = (dp + LZ).toNat := ⟨_, rfl⟩
  have hsum : LZ + MD + TZ = 12 := by omega
  have hoff : 0 < MD → dp + (LZ : Int) = OFF ∧ OFF + MD ≤ nd := by omega
  have HO := Lib.hid hoff
  have HS := Lib.hid hsum
  clear hoff hsum hOFF
  go_enter Tryz.func95, Tryz.ntmps95
  go_wp2_with (first | (at_builtin; (fail_if_success have _zz := HEs); refine wp_app2 102 5 1 1 _ Tryz.info5 Tryz.underlying102 rfl (by decide) base _ _ _ [.int .u8 45] _ _ _ _ rfl rfl _ rfl rfl rfl (by simp) HE0.out.own rfl (by intro u hu; simp at hu; subst hu; rfl) (by first | omega | (simp only [List.length_append, List.length_singleton, List.length_nil, List.length_cons]; omega) | simp) (by first | omega | (simp only [List.length_append, List.length_singleton, List.length_nil, List.length_cons]; omega) | simp) (by have := HE0.out.size; have := HE0.out.base; first | omega | (simp; omega)) ?_; intro v1 w1 ho1 hk1 hp1; have HEs := Lib.hid (HE0.out.app 45 ho1 hk1 hp1); clear ho1 hk1 hp1) | (at_builtin; (fail_if_success have _zz := HE3); refine wp_app2 102 5 1 1 _ Tryz.info5 Tryz.underlying102 rfl (by decide) base _ _ _ [.int .u8 48] _ _ _ _ rfl rfl _ rfl rfl rfl (by simp) HEs.out.own rfl (by intro u hu; simp at hu; subst hu; rfl) (by first | omega | (simp only [List.length_append, List.length_singleton, List.length_nil, List.length_cons]; omega) | simp) (by first | omega | (simp only [List.length_append, List.length_singleton, List.length_nil, List.length_cons]; omega) | simp) (by have := HEs.out.size; have := HEs.out.base; first | omega | (simp; omega)) ?_; intro v1 w1 ho1 hk1 hp1; have HE3 := Lib.hid (HEs.out.app 48 ho1 hk1 hp1); clear ho1 hk1 hp1) | (at_builtin; refine wp_app2 102 5 1 1 _ Tryz.info5 Tryz.underlying102 rfl (by decide) base _ _ _ [.int .u8 46] _ _ _ _ rfl rfl _ rfl rfl rfl (by simp) HE3.out.own rfl (by intro u hu; simp at hu; subst hu; rfl) (by first | omega | (simp only [List.length_append, List.length_singleton, List.length_nil, List.length_cons]; omega) | simp) (by first | omega | (simp only [List.length_append, List.length_singleton, List.length_nil, List.length_cons]; omega) | simp) (by have := HE3.out.size; have := HE3.out.base; first | omega | (simp; omega)) ?_; intro v1 w1 ho1 hk1 hp1; have HEd := Lib.hid (HE3.out.app 46 ho1 hk1 hp1); clear ho1 hk1 hp1))
  go_loopw [0, 240] (fun v' i wr => ∃ (k : Nat) (xs : List Int), i = .int .i64 k ∧ k ≤ LZ ∧ Efg w wr base sb nd v' xs ∧ Ext (([] ++ [45] : List Int) ++ [48] ++ [46]) (0 + k) xs) (fun _ i _ => LZ - (intOf i).toNat)
  case atStart => exact ⟨0, _, rfl, by omega, HEd.out, Ext.nil _⟩
  case round =>
    obtain ⟨k, z240, rfl, hk, he, hx⟩ := hrel
    have hzl := hx.len
    try simp only [List.length_append, List.length_singleton, List.length_nil, List.length_cons] at hzl
    have HEz := Lib.hid he
    have HXz := Lib.hid hx
    clear he hx
    by_cases hlt : k < LZ
    · go_wp2_with (at_builtin; refine wp_app2 102 5 1 1 _ Tryz.info5 Tryz.underlying102 rfl (by decide) base _ _ _ [.int .u8 48] _ _ _ _ rfl rfl _ rfl rfl rfl (by simp) HEz.out.own rfl (by intro u hu; simp at hu; subst hu; rfl) (by first | omega | (simp only [List.length_append, List.length_singleton, List.length_nil, List.length_cons]; omega) | simp) (by first | omega | (simp only [List.length_append, List.length_singleton, List.length_nil, List.length_cons]; omega) | simp) (by have := HEz.out.size; have := HEz.out.base; first | omega | (simp; omega)) ?_; intro v1 w1 ho1 hk1 hp1; have HE1 := Lib.hid (HEz.out.app 48 ho1 hk1 hp1); clear ho1 hk1 hp1)
      go_roundw
      case rel => exact ⟨k + 1, _, by go_num, by omega, HE1.out, HXz.out.snoc (by omega) (by omega)⟩
      case measure => simp only [intOf]; omega
    · have HK240 := Lib.hid (show k = LZ by omega)
      go_wp2_with fail
      go_loopw [0, 247] (fun v' i wr => ∃ (k : Nat) (xs : List Int), i = .int .i64 k ∧ k ≤ MD ∧ Efg w wr base sb nd v' xs ∧ Ext (([] ++ [45] : List Int) ++ [48] ++ [46]) (LZ + k) xs) (fun _ i _ => MD - (intOf i).toNat)
      case atStart => exact ⟨0, _, rfl, by omega, HEz.out, Ext.cast HXz.out (by have := HK240.out; omega)⟩
      case round =>
        obtain ⟨k, z247, rfl, hk, he, hx⟩ := hrel
        have hzl := hx.len
        try simp only [List.length_append, List.length_singleton, List.length_nil, List.length_cons] at hzl
        have HEm := Lib.hid he
        have HXm := Lib.hid hx
        clear he hx
        by_cases hlt : k < MD
        · obtain rfl := HSA.out (by omega)
          obtain ⟨c, hc, hc0, hc1⟩ := HEm.out.digs (OFF + k) (by have := HO.out; omega)
          try simp only [Nat.zero_add] at hc
          have hoo := (HO.out (by omega)).1
          have hidx : (dp + (LZ : Int) + (k : Int)).toNat = OFF + k := by omega
          have hi0 : 0 ≤ dp + (LZ : Int) + (k : Int) := by omega
          have hi1 : dp + (LZ : Int) + (k : Int) < (L : Int) := by have := HO.out (by omega); omega
          clear hoo
          go_wp2_with (at_builtin; refine wp_app2 102 5 1 1 _ Tryz.info5 Tryz.underlying102 rfl (by decide) base _ _ _ [.int .u8 c] _ _ _ _ rfl rfl _ rfl rfl rfl (by simp) HEm.out.own rfl (by intro u hu; simp at hu; subst hu; rfl) (by first | omega | (simp only [List.length_append, List.length_singleton, List.length_nil, List.length_cons]; omega) | simp) (by first | omega | (simp only [List.length_append, List.length_singleton, List.length_nil, List.length_cons]; omega) | simp) (by have := HEm.out.size; have := HEm.out.base; first | omega | (simp; omega)) ?_; intro v1 w1 ho1 hk1 hp1; have HE1 := Lib.hid (HEm.out.app c ho1 hk1 hp1); clear ho1 hk1 hp1)
          go_roundw
          case rel => exact ⟨k + 1, _, by go_num, by omega, HE1.out, HXm.out.snoc (by omega) (by omega)⟩
          case measure => simp only [intOf]; omega
        · have HK247 := Lib.hid (show k = MD by omega)
          go_wp2_with fail
          go_loopw [0, 261] (fun v' i wr => ∃ (k : Nat) (xs : List Int), i = .int .i64 k ∧ k ≤ TZ ∧ Efg w wr base sb nd v' xs ∧ Ext (([] ++ [45] : List Int) ++ [48] ++ [46]) ((LZ + MD) + k) xs) (fun _ i _ => TZ - (intOf i).toNat)
          case atStart => exact ⟨0, _, rfl, by omega, HEm.out, Ext.cast HXm.out (by have := HK247.out; omega)⟩
          case round =>
            obtain ⟨k, z261, rfl, hk, he, hx⟩ := hrel
            have hzl := hx.len
            try simp only [List.length_append, List.length_singleton, List.length_nil, List.length_cons] at hzl
            have HEt := Lib.hid he
            have HXt := Lib.hid hx
            clear he hx
            by_cases hlt : k < TZ
            · go_wp2_with (at_builtin; refine wp_app2 102 5 1 1 _ Tryz.info5 Tryz.underlying102 rfl (by decide) base _ _ _ [.int .u8 48] _ _ _ _ rfl rfl _ rfl rfl rfl (by simp) HEt.out.own rfl (by intro u hu; simp at hu; subst hu; rfl) (by first | omega | (simp only [List.length_append, List.length_singleton, List.length_nil, List.length_cons]; omega) | simp) (by first | omega | (simp only [List.length_append, List.length_singleton, List.length_nil, List.length_cons]; omega) | simp) (by have := HEt.out.size; have := HEt.out.base; first | omega | (simp; omega)) ?_; intro v1 w1 ho1 hk1 hp1; have HE1 := Lib.hid (HEt.out.app 48 ho1 hk1 hp1); clear ho1 hk1 hp1)
              go_roundw
              case rel => exact ⟨k + 1, _, by go_num, by omega, HE1.out, HXt.out.snoc (by omega) (by omega)⟩
              case measure => simp only [intOf]; omega
            · have HK261 := Lib.hid (show k = TZ by omega)
              go_wp2_with fail
              go_ret
              exact ⟨⟨_, _, rfl, HEt.out.own, ([] ++ [45] : List Int), _, _, .inr rfl, (Ext.nil _).snoc (by omega) (by omega), by omega, by omega, Ext.cast (HXt.out) (by have := HK261.out; have := HS.out; omega)⟩, HEt.out.below⟩

set_option maxRecDepth 100000 in
set_option maxHeartbeats 4000000 in
theorem fmtF_negPos (base sb nd L cap : Nat) (dp : Int) (v0 : Value) (sa : Option Addr) (w : World) (hE : Efg w w base sb nd v0 []) (hpos : 0 < dp) (hdp : -1000 ≤ dp ∧ dp ≤ 17) (hnd : nd ≤ L) (hL : L ≤ 800) (hcap : L ≤ cap)
    (hsa : 0 < nd ∨ 0 < dp → sa = some ⟨sb, 0, none⟩) :
    Calls Tryz.prog 95 #[v0, .bool true, .slice sa L cap, .int .i64 dp, .int .i64 nd, .int .i64 12, .int .u8 102, .bool false] w fun e w' => RetShape base w' e ∧ Below base w w' := by
  have HE0 := Lib.hid hE
  have HSA := Lib.hid hsa
  clear hE hsa
  obtain ⟨LZ, hLZ⟩ : ∃ n : Nat, min 12 (max 0 (-dp)) = (n : Int) := ⟨(min 12 (max 0 (-dp))).toNat, by omega⟩
  obtain ⟨MD, hMD⟩ : ∃ n : Nat, min (12 - (LZ : Int)) (max 0 ((nd : Int) - (dp + LZ))) = (n : Int) := ⟨(min (12 - (LZ : Int)) (max 0 ((nd : Int) - (dp + LZ)))).toNat, by omega⟩
  obtain ⟨TZ, hTZ⟩ : ∃ n : Nat, max 0 (12 - (LZ : Int) - MD) = (n : Int) := ⟨(max 0 (12 - (LZ : Int) - MD)).toNat, by omega⟩
  obtain ⟨OFF, hOFF⟩ : ∃ n : Nat, n = (dp + LZ).toNat := ⟨_, rfl⟩
  have hsum : LZ + MD + TZ = 12 := by omega
  have hoff : 0 < MD → dp + (LZ : Int) = OFF ∧ OFF + MD ≤ nd := by omega
  have HO := Lib.hid hoff
  have HS := Lib.hid hsum
  clear hoff hsum hOFF
  go_enter Tryz.func95, Tryz.ntmps95
  obtain ⟨M, hM⟩ : ∃ n : Nat, min (nd : Int) dp = (n : Int) := ⟨(min (nd : Int) dp).toNat, by omega⟩
  have hM1 : M ≤ nd ∧ (M : Int) ≤ dp := by omega
  obtain ⟨R, hR⟩ : ∃ n : Nat, dp - (M : Int) = (n : Int) := ⟨(dp - (M : Int)).toNat, by omega⟩
  obtain rfl := HSA.out (Or.inr hpos)
  go_wp2_with (at_builtin; refine wp_app2 102 5 1 1 _ Tryz.info5 Tryz.underlying102 rfl (by decide) base _ _ _ [.int .u8 45] _ _ _ _ rfl rfl _ rfl rfl rfl (by simp) HE0.out.own rfl (by intro u hu; simp at hu; subst hu; rfl) (by first | omega | (simp only [List.length_append, List.length_singleton, List.length_nil, List.length_cons]; omega) | simp) (by first | omega | (simp only [List.length_append, List.length_singleton, List.length_nil, List.length_cons]; omega) | simp) (by have := HE0.out.size; have := HE0.out.base; first | omega | (simp; omega)) ?_; intro v1 w1 ho1 hk1 hp1; have HEs := Lib.hid (HE0.out.app 45 ho1 hk1 hp1); clear ho1 hk1 hp1)
  go_loopw [0, 191] (fun v' i wr => ∃ (k : Nat) (xs : List Int), i = .int .i64 k ∧ k ≤ M ∧ Efg w wr base sb nd v' xs ∧ Ext ([] ++ [45] : List Int) (0 + k) xs) (fun _ i _ => M - (intOf i).toNat)
  case atStart => exact ⟨0, _, rfl, by omega, HEs.out, Ext.nil _⟩
  case round =>
    obtain ⟨k, z191, rfl, hk, he, hx⟩ := hrel
    have hzl := hx.len
    try simp only [List.length_append, List.length_singleton, List.length_nil, List.length_cons] at hzl
    have HE2 := Lib.hid he
    have HX2 := Lib.hid hx
    clear he hx
    by_cases hlt : k < M
    · 
      obtain ⟨c, hc, hc0, hc1⟩ := HE2.out.digs (0 + k) (by have := HO.out; omega)
      try simp only [Nat.zero_add] at hc
      skip
      go_wp2_with (at_builtin; refine wp_app2 102 5 1 1 _ Tryz.info5 Tryz.underlying102 rfl (by decide) base _ _ _ [.int .u8 c] _ _ _ _ rfl rfl _ rfl rfl rfl (by simp) HE2.out.own rfl (by intro u hu; simp at hu; subst hu; rfl) (by first | omega | (simp only [List.length_append, List.length_singleton, List.length_nil, List.length_cons]; omega) | simp) (by first | omega | (simp only [List.length_append, List.length_singleton, List.length_nil, List.length_cons]; omega) | simp) (by have := HE2.out.size; have := HE2.out.base; first | omega | (simp; omega)) ?_; intro v1 w1 ho1 hk1 hp1; have HE1 := Lib.hid (HE2.out.app c ho1 hk1 hp1); clear ho1 hk1 hp1)
      go_roundw
      case rel => exact ⟨k + 1, _, by go_num, by omega, HE1.out, HX2.out.snoc (by omega) (by omega)⟩
      case measure => simp only [intOf]; omega
    · have HK191 := Lib.hid (show k = M by omega)
      go_wp2_with fail
      go_loopw [0, 203] (fun v' i wr => ∃ (k : Nat) (xs : List Int), i = .int .i64 k ∧ k ≤ R ∧ Efg w wr base sb nd v' xs ∧ Ext ([] ++ [45] : List Int) (M + k) xs) (fun _ i _ => R - (intOf i).toNat)
      case atStart => exact ⟨0, _, rfl, by omega, HE2.out, Ext.cast HX2.out (by have := HK191.out; omega)⟩
      case round =>
        obtain ⟨k, z203, rfl, hk, he, hx⟩ := hrel
        have hzl := hx.len
        try simp only [List.length_append, List.length_singleton, List.length_nil, List.length_cons] at hzl
        have HE3 := Lib.hid he
        have HX3 := Lib.hid hx
        clear he hx
        by_cases hlt : k < R
        · go_wp2_with (at_builtin; refine wp_app2 102 5 1 1 _ Tryz.info5 Tryz.underlying102 rfl (by decide) base _ _ _ [.int .u8 48] _ _ _ _ rfl rfl _ rfl rfl rfl (by simp) HE3.out.own rfl (by intro u hu; simp at hu; subst hu; rfl) (by first | omega | (simp only [List.length_append, List.length_singleton, List.length_nil, List.length_cons]; omega) | simp) (by first | omega | (simp only [List.length_append, List.length_singleton, List.length_nil, List.length_cons]; omega) | simp) (by have := HE3.out.size; have := HE3.out.base; first | omega | (simp; omega)) ?_; intro v1 w1 ho1 hk1 hp1; have HE1 := Lib.hid (HE3.out.app 48 ho1 hk1 hp1); clear ho1 hk1 hp1)
          go_roundw
          case rel => exact ⟨k + 1, _, by go_num, by omega, HE1.out, HX3.out.snoc (by omega) (by omega)⟩
          case measure => simp only [intOf]; omega
        · have HK203 := Lib.hid (show k = R by omega)
          go_wp2_with (at_builtin; refine wp_app2 102 5 1 1 _ Tryz.info5 Tryz.underlying102 rfl (by decide) base _ _ _ [.int .u8 46] _ _ _ _ rfl rfl _ rfl rfl rfl (by simp) HE3.out.own rfl (by intro u hu; simp at hu; subst hu; rfl) (by first | omega | (simp only [List.length_append, List.length_singleton, List.length_nil, List.length_cons]; omega) | simp) (by first | omega | (simp only [List.length_append, List.length_singleton, List.length_nil, List.length_cons]; omega) | simp) (by have := HE3.out.size; have := HE3.out.base; first | omega | (simp; omega)) ?_; intro v1 w1 ho1 hk1 hp1; have HEd := Lib.hid (HE3.out.app 46 ho1 hk1 hp1); clear ho1 hk1 hp1)
          go_loopw [0, 240] (fun v' i wr => ∃ (k : Nat) (xs : List Int), i = .int .i64 k ∧ k ≤ LZ ∧ Efg w wr base sb nd v' xs ∧ Ext (z203 ++ [46]) (0 + k) xs) (fun _ i _ => LZ - (intOf i).toNat)
          case atStart => exact ⟨0, _, rfl, by omega, HEd.out, Ext.nil _⟩
          case round =>
            obtain ⟨k, z240, rfl, hk, he, hx⟩ := hrel
            have hzl := hx.len
            try simp only [List.length_append, List.length_singleton, List.length_nil, List.length_cons] at hzl
            have HEz := Lib.hid he
            have HXz := Lib.hid hx
            clear he hx
            by_cases hlt : k < LZ
            · exfalso; omega
            · have HK240 := Lib.hid (show k = LZ by omega)
              go_wp2_with fail
              go_loopw [0, 247] (fun v' i wr => ∃ (k : Nat) (xs : List Int), i = .int .i64 k ∧ k ≤ MD ∧ Efg w wr base sb nd v' xs ∧ Ext (z203 ++ [46]) (LZ + k) xs) (fun _ i _ => MD - (intOf i).toNat)
              case atStart => exact ⟨0, _, rfl, by omega, HEz.out, Ext.cast HXz.out (by have := HK240.out; omega)⟩
              case round =>
                obtain ⟨k, z247, rfl, hk, he, hx⟩ := hrel
                have hzl := hx.len
                try simp only [List.length_append, List.length_singleton, List.length_nil, List.length_cons] at hzl
                have HEm := Lib.hid he
                have HXm := Lib.hid hx
                clear he hx
                by_cases hlt : k < MD
                · 
                  obtain ⟨c, hc, hc0, hc1⟩ := HEm.out.digs (OFF + k) (by have := HO.out; omega)
                  try simp only [Nat.zero_add] at hc
                  have hoo := (HO.out (by omega)).1
                  have hidx : (dp + (LZ : Int) + (k : Int)).toNat = OFF + k := by omega
                  have hi0 : 0 ≤ dp + (LZ : Int) + (k : Int) := by omega
                  have hi1 : dp + (LZ : Int) + (k : Int) < (L : Int) := by have := HO.out (by omega); omega
                  clear hoo
                  go_wp2_with (at_builtin; refine wp_app2 102 5 1 1 _ Tryz.info5 Tryz.underlying102 rfl (by decide) base _ _ _ [.int .u8 c] _ _ _ _ rfl rfl _ rfl rfl rfl (by simp) HEm.out.own rfl (by intro u hu; simp at hu; subst hu; rfl) (by first | omega | (simp only [List.length_append, List.length_singleton, List.length_nil, List.length_cons]; omega) | simp) (by first | omega | (simp only [List.length_append, List.length_singleton, List.length_nil, List.length_cons]; omega) | simp) (by have := HEm.out.size; have := HEm.out.base; first | omega | (simp; omega)) ?_; intro v1 w1 ho1 hk1 hp1; have HE1 := Lib.hid (HEm.out.app c ho1 hk1 hp1); clear ho1 hk1 hp1)
                  go_roundw
                  case rel => exact ⟨k + 1, _, by go_num, by omega, HE1.out, HXm.out.snoc (by omega) (by omega)⟩
                  case measure => simp only [intOf]; omega
                · have HK247 := Lib.hid (show k = MD by omega)
                  go_wp2_with fail
                  go_loopw [0, 261] (fun v' i wr => ∃ (k : Nat) (xs : List Int), i = .int .i64 k ∧ k ≤ TZ ∧ Efg w wr base sb nd v' xs ∧ Ext (z203 ++ [46]) ((LZ + MD) + k) xs) (fun _ i _ => TZ - (intOf i).toNat)
                  case atStart => exact ⟨0, _, rfl, by omega, HEm.out, Ext.cast HXm.out (by have := HK247.out; omega)⟩
                  case round =>
                    obtain ⟨k, z261, rfl, hk, he, hx⟩ := hrel
                    have hzl := hx.len
                    try simp only [List.length_append, List.length_singleton, List.length_nil, List.length_cons] at hzl
                    have HEt := Lib.hid he
                    have HXt := Lib.hid hx
                    clear he hx
                    by_cases hlt : k < TZ
                    · go_wp2_with (at_builtin; refine wp_app2 102 5 1 1 _ Tryz.info5 Tryz.underlying102 rfl (by decide) base _ _ _ [.int .u8 48] _ _ _ _ rfl rfl _ rfl rfl rfl (by simp) HEt.out.own rfl (by intro u hu; simp at hu; subst hu; rfl) (by first | omega | (simp only [List.length_append, List.length_singleton, List.length_nil, List.length_cons]; omega) | simp) (by first | omega | (simp only [List.length_append, List.length_singleton, List.length_nil, List.length_cons]; omega) | simp) (by have := HEt.out.size; have := HEt.out.base; first | omega | (simp; omega)) ?_; intro v1 w1 ho1 hk1 hp1; have HE1 := Lib.hid (HEt.out.app 48 ho1 hk1 hp1); clear ho1 hk1 hp1)
                      go_roundw
                      case rel => exact ⟨k + 1, _, by go_num, by omega, HE1.out, HXt.out.snoc (by omega) (by omega)⟩
                      case measure => simp only [intOf]; omega
                    · have HK261 := Lib.hid (show k = TZ by omega)
                      go_wp2_with fail
                      go_ret
                      exact ⟨⟨_, _, rfl, HEt.out.own, ([] ++ [45] : List Int), _, _, .inr rfl, HX3.out, by have := HK203.out; have := HK191.out; omega, by have := HK203.out; have := HK191.out; omega, Ext.cast (HXt.out) (by have := HK261.out; have := HS.out; omega)⟩, HEt.out.below⟩

theorem fmtF_any (neg : Bool) (base sb nd L cap : Nat) (dp : Int) (v0 : Value) (sa : Option Addr) (w : World) (hE : Efg w w base sb nd v0 []) (hdp : -1000 ≤ dp ∧ dp ≤ 17) (hnd : nd ≤ L) (hL : L ≤ 800) (hcap : L ≤ cap)
    (hsa : 0 < nd ∨ 0 < dp → sa = some ⟨sb, 0, none⟩) :
    Calls Tryz.prog 95 #[v0, .bool neg, .slice sa L cap, .int .i64 dp, .int .i64 nd, .int .i64 12, .int .u8 102, .bool false] w fun e w' => RetShape base w' e ∧ Below base w w' := by
  by_cases hpos : 0 < dp
  · cases neg
    · exact fmtF_plainPos base sb nd L cap dp v0 sa w hE hpos hdp hnd hL hcap hsa
    · exact fmtF_negPos base sb nd L cap dp v0 sa w hE hpos hdp hnd hL hcap hsa
  · cases neg
    · exact fmtF_plainZero base sb nd L cap dp v0 sa w hE (by omega) hdp hnd hL hcap hsa
    · exact fmtF_negZero base sb nd L cap dp v0 sa w hE (by omega) hdp hnd hL hcap hsa

end Go.Proofs.YtcpijmbdibgdmaaGreatDoor
