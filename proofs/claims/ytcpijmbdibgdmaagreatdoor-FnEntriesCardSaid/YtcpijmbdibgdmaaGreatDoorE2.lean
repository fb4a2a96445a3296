/-
  Dict.Find, and the nine methods that ask for an entry of a kind.
-/
import Derived.Test.YtcpijmbdibgdmaaGreatDoorD14
namespace Go.Proofs.YtcpijmbdibgdmaaGreatDoor
open Go Go.RowKit

/-- What Dict.Find says from the world `w` on, as long as the blocks below `B` stay. -/
def Finds (w : World) (B b : Nat) (key : ByteArray) (u : Value) (ok : Bool) : Prop := ∀ w', Below B w w' → Calls Tryz.prog 51 #[.map (some b), .string key] w' fun e w2 => e = .returned (.tuple #[u, .bool ok]) ∧ Kept (fun _ => False) w' w2

theorem Finds.later {w w' : World} {B b : Nat} {key : ByteArray} {u : Value} {ok : Bool} (h : Finds w B b key u ok) (hk : Below B w w') : Finds w' B b key u ok :=
  fun w2 h2 => h w2 (hk.trans h2)

theorem finds_miss (w : World) (B b nb : Nat) (ks : List ByteArray) (us : Nat → Value) (h : DM w b nb ks us (fun _ => True)) (hB : b < B) (x : ByteArray) (hx : x.size ≤ 140737488355328) (hne : ∀ j (h : j < ks.length), ks[j] ≠ x)
    (h0 : ∀ j (h : j < ks.length), noByte 0 ks[j].data.toList = true ∧ noByte 35 ks[j].data.toList = true) (hsz : ∀ j (h : j < ks.length), ks[j].size ≤ 140737488355328) : Finds w B b x .nilIface false := by
  intro w' hk
  exact find_miss w' b nb ks us _ (h.same (hk.block b hB)) x hx (fun j hj _ => hne j hj) h0 hsz

set_option maxRecDepth 100000 in
theorem finds_hit (w : World) (B b nb : Nat) (ks : List ByteArray) (us : Nat → Value) (h : DM w b nb ks us (fun _ => True)) (hB : b < B) (hd : Distinct ks) (j : Nat) (hj : j < ks.length) (hx : ks[j].size ≤ 140737488355328) : Finds w B b ks[j] (us j) true := by
  intro w' hk
  have hl : (Instr.lookup 61 (.map (some b)) (.string ks[j]) true).run Tryz.prog w' = .ok (.tuple #[us j, .bool true]) w' := by
    rcases (h.same (hk.block b hB)).find ks[j] hx with ⟨_, hne⟩ | ⟨i, hi, _, he, hr⟩
    · exact absurd rfl (hne j hj trivial)
    · have := hd i j hi hj he
      subst this
      exact hr
  obtain ⟨s, hs⟩ : ∃ s, s = ks[j] := ⟨_, rfl⟩
  obtain ⟨u, hu⟩ : ∃ u, u = us j := ⟨_, rfl⟩
  rw [← hs, ← hu] at hl ⊢
  clear hs hu hk h hd hx
  go_enter Tryz.func51, Tryz.ntmps51
  go_wp2_with fail
  go_ret2
  exact ⟨rfl, Kept.refl _ _⟩

/-- Nothing of the kind `T` was found. -/
def NotOf (T : TypeId) (u : Value) (ok : Bool) : Prop := (u = .nilIface ∧ ok = false) ∨ (u = .nilIface ∧ ok = true) ∨ ∃ t v, u = .iface t v ∧ ok = true ∧ t ≠ T

theorem value52 (x : Bool) (w : World) : Calls Tryz.prog 52 #[.bool x] w fun e w' => e = .returned (.bool x) ∧ w' = w := by
  go_enter Tryz.func52, Tryz.ntmps52
  go_wp2_with fail
  go_ret
  exact ⟨rfl, rfl⟩
theorem string61 (x : ByteArray) (w : World) : Calls Tryz.prog 61 #[.string x] w fun e w' => e = .returned (.string x) ∧ w' = w := by
  go_enter Tryz.func61, Tryz.ntmps61
  go_wp2_with fail
  go_ret
  exact ⟨rfl, rfl⟩
theorem value53 (x : ByteArray) (w : World) : Calls Tryz.prog 53 #[.string x] w fun e w' => e = .returned (.string x) ∧ w' = w := by
  go_enter Tryz.func53, Tryz.ntmps53
  go_wp2_with fail
  refine (string61 x w).mono ?_
  rintro e w1 ⟨rfl, rfl⟩
  go_wp2_with fail
  go_ret
  exact ⟨rfl, rfl⟩

set_option maxRecDepth 100000 in
theorem ent25_not (w : World) (B b : Nat) (key : ByteArray) (u : Value) (ok : Bool) (h : Finds w B b key u ok) (hn : NotOf 66 u ok) : Calls Tryz.prog 25 #[.map (some b), .string key] w fun e w' => e = .returned (.pointer none) ∧ Kept (fun _ => False) w w' := by
  have H := Lib.hid (h w (Below.refl _ _))
  clear h
  rcases hn with ⟨rfl, rfl⟩ | ⟨rfl, rfl⟩ | ⟨t, v, rfl, rfl, ht⟩
  all_goals
    go_enter Tryz.func25, Tryz.ntmps25
    go_wp2_with fail
    refine H.out.mono ?_
    rintro e w1 ⟨rfl, hk⟩
    have HK := Lib.hid hk
    clear hk
    go_wp2_with fail
    go_ret
    first | exact ⟨rfl, HK.out⟩ | exact ⟨rfl, HK.out.alloc _⟩

set_option maxRecDepth 100000 in
theorem ent25_is (w : World) (B b : Nat) (key : ByteArray) (x : Bool) (h : Finds w B b key (.iface 66 (.bool x)) true) : Calls Tryz.prog 25 #[.map (some b), .string key] w fun e w' => ∃ p, e = .returned (.pointer (some ⟨p, 0, none⟩)) ∧ Kept (fun _ => False) w w' ∧ w'.cell? ⟨p, 0, none⟩ = some (.bool x) := by
  have H := Lib.hid (h w (Below.refl _ _))
  clear h
  go_enter Tryz.func25, Tryz.ntmps25
  go_wp2_with fail
  refine H.out.mono ?_
  rintro e w1 ⟨rfl, hk⟩
  have HK := Lib.hid hk
  clear hk
  go_wp2_with fail
  refine (value52 x w1).mono ?_
  rintro e w2 ⟨rfl, rfl⟩
  go_wp2_with fail
  go_ret
  exact ⟨_, rfl, HK.out.alloc _, by go_simp⟩

set_option maxRecDepth 100000 in
theorem ent26_not (w : World) (B b : Nat) (key : ByteArray) (u : Value) (ok : Bool) (h : Finds w B b key u ok) (hn : NotOf 68 u ok) : Calls Tryz.prog 26 #[.map (some b), .string key] w fun e w' => e = .returned (.pointer none) ∧ Kept (fun _ => False) w w' := by
  have H := Lib.hid (h w (Below.refl _ _))
  clear h
  rcases hn with ⟨rfl, rfl⟩ | ⟨rfl, rfl⟩ | ⟨t, v, rfl, rfl, ht⟩
  all_goals
    go_enter Tryz.func26, Tryz.ntmps26
    go_wp2_with fail
    refine H.out.mono ?_
    rintro e w1 ⟨rfl, hk⟩
    have HK := Lib.hid hk
    clear hk
    go_wp2_with fail
    go_ret
    first | exact ⟨rfl, HK.out⟩ | exact ⟨rfl, HK.out.alloc _⟩

set_option maxRecDepth 100000 in
theorem ent26_is (w : World) (B b : Nat) (key : ByteArray) (x : Int) (h : Finds w B b key (.iface 68 (.int .i64 x)) true) : Calls Tryz.prog 26 #[.map (some b), .string key] w fun e w' => ∃ p, e = .returned (.pointer (some ⟨p, 0, none⟩)) ∧ Kept (fun _ => False) w w' ∧ w'.cell? ⟨p, 0, none⟩ = some (.int .i64 x) := by
  have H := Lib.hid (h w (Below.refl _ _))
  clear h
  go_enter Tryz.func26, Tryz.ntmps26
  go_wp2_with fail
  refine H.out.mono ?_
  rintro e w1 ⟨rfl, hk⟩
  have HK := Lib.hid hk
  clear hk
  go_wp2_with fail
  go_ret
  exact ⟨_, rfl, HK.out.alloc _, by go_simp⟩

set_option maxRecDepth 100000 in
theorem ent27_not (w : World) (B b : Nat) (key : ByteArray) (u : Value) (ok : Bool) (h : Finds w B b key u ok) (hn : NotOf 68 u ok) : Calls Tryz.prog 27 #[.map (some b), .string key] w fun e w' => e = .returned (.pointer none) ∧ Kept (fun _ => False) w w' := by
  have H := Lib.hid (h w (Below.refl _ _))
  clear h
  rcases hn with ⟨rfl, rfl⟩ | ⟨rfl, rfl⟩ | ⟨t, v, rfl, rfl, ht⟩
  all_goals
    go_enter Tryz.func27, Tryz.ntmps27
    go_wp2_with fail
    refine H.out.mono ?_
    rintro e w1 ⟨rfl, hk⟩
    have HK := Lib.hid hk
    clear hk
    go_wp2_with fail
    go_ret
    first | exact ⟨rfl, HK.out⟩ | exact ⟨rfl, HK.out.alloc _⟩

set_option maxRecDepth 100000 in
theorem ent27_is (w : World) (B b : Nat) (key : ByteArray) (x : Int) (h : Finds w B b key (.iface 68 (.int .i64 x)) true) : Calls Tryz.prog 27 #[.map (some b), .string key] w fun e w' => ∃ p, e = .returned (.pointer (some ⟨p, 0, none⟩)) ∧ Kept (fun _ => False) w w' ∧ w'.cell? ⟨p, 0, none⟩ = some (.int .i64 x) := by
  have H := Lib.hid (h w (Below.refl _ _))
  clear h
  go_enter Tryz.func27, Tryz.ntmps27
  go_wp2_with fail
  refine H.out.mono ?_
  rintro e w1 ⟨rfl, hk⟩
  have HK := Lib.hid hk
  clear hk
  go_wp2_with fail
  go_ret
  exact ⟨_, rfl, HK.out.alloc _, by go_simp⟩

set_option maxRecDepth 100000 in
theorem ent28_not (w : World) (B b : Nat) (key : ByteArray) (u : Value) (ok : Bool) (h : Finds w B b key u ok) (hn : NotOf 73 u ok) : Calls Tryz.prog 28 #[.map (some b), .string key] w fun e w' => e = .returned (.pointer none) ∧ Kept (fun _ => False) w w' := by
  have H := Lib.hid (h w (Below.refl _ _))
  clear h
  rcases hn with ⟨rfl, rfl⟩ | ⟨rfl, rfl⟩ | ⟨t, v, rfl, rfl, ht⟩
  all_goals
    go_enter Tryz.func28, Tryz.ntmps28
    go_wp2_with fail
    refine H.out.mono ?_
    rintro e w1 ⟨rfl, hk⟩
    have HK := Lib.hid hk
    clear hk
    go_wp2_with fail
    go_ret
    first | exact ⟨rfl, HK.out⟩ | exact ⟨rfl, HK.out.alloc _⟩

set_option maxRecDepth 100000 in
theorem ent28_is (w : World) (B b : Nat) (key : ByteArray) (x : ByteArray) (h : Finds w B b key (.iface 73 (.string x)) true) : Calls Tryz.prog 28 #[.map (some b), .string key] w fun e w' => ∃ p, e = .returned (.pointer (some ⟨p, 0, none⟩)) ∧ Kept (fun _ => False) w w' ∧ w'.cell? ⟨p, 0, none⟩ = some (.string x) := by
  have H := Lib.hid (h w (Below.refl _ _))
  clear h
  go_enter Tryz.func28, Tryz.ntmps28
  go_wp2_with fail
  refine H.out.mono ?_
  rintro e w1 ⟨rfl, hk⟩
  have HK := Lib.hid hk
  clear hk
  go_wp2_with fail
  refine (value53 x w1).mono ?_
  rintro e w2 ⟨rfl, rfl⟩
  go_wp2_with fail
  go_ret
  exact ⟨_, rfl, HK.out.alloc _, by go_simp⟩

set_option maxRecDepth 100000 in
theorem ent29_not (w : World) (B b : Nat) (key : ByteArray) (u : Value) (ok : Bool) (h : Finds w B b key u ok) (hn : NotOf 76 u ok) : Calls Tryz.prog 29 #[.map (some b), .string key] w fun e w' => e = .returned (.pointer none) ∧ Kept (fun _ => False) w w' := by
  have H := Lib.hid (h w (Below.refl _ _))
  clear h
  rcases hn with ⟨rfl, rfl⟩ | ⟨rfl, rfl⟩ | ⟨t, v, rfl, rfl, ht⟩
  all_goals
    go_enter Tryz.func29, Tryz.ntmps29
    go_wp2_with fail
    refine H.out.mono ?_
    rintro e w1 ⟨rfl, hk⟩
    have HK := Lib.hid hk
    clear hk
    go_wp2_with fail
    go_ret
    first | exact ⟨rfl, HK.out⟩ | exact ⟨rfl, HK.out.alloc _⟩

set_option maxRecDepth 100000 in
theorem ent29_is (w : World) (B b : Nat) (key : ByteArray) (x : ByteArray) (h : Finds w B b key (.iface 76 (.string x)) true) : Calls Tryz.prog 29 #[.map (some b), .string key] w fun e w' => ∃ p, e = .returned (.pointer (some ⟨p, 0, none⟩)) ∧ Kept (fun _ => False) w w' ∧ w'.cell? ⟨p, 0, none⟩ = some (.string x) := by
  have H := Lib.hid (h w (Below.refl _ _))
  clear h
  go_enter Tryz.func29, Tryz.ntmps29
  go_wp2_with fail
  refine H.out.mono ?_
  rintro e w1 ⟨rfl, hk⟩
  have HK := Lib.hid hk
  clear hk
  go_wp2_with fail
  go_ret
  exact ⟨_, rfl, HK.out.alloc _, by go_simp⟩

set_option maxRecDepth 100000 in
theorem ent30_not (w : World) (B b : Nat) (key : ByteArray) (u : Value) (ok : Bool) (h : Finds w B b key u ok) (hn : NotOf 79 u ok) : Calls Tryz.prog 30 #[.map (some b), .string key] w fun e w' => e = .returned (.pointer none) ∧ Kept (fun _ => False) w w' := by
  have H := Lib.hid (h w (Below.refl _ _))
  clear h
  rcases hn with ⟨rfl, rfl⟩ | ⟨rfl, rfl⟩ | ⟨t, v, rfl, rfl, ht⟩
  all_goals
    go_enter Tryz.func30, Tryz.ntmps30
    go_wp2_with fail
    refine H.out.mono ?_
    rintro e w1 ⟨rfl, hk⟩
    have HK := Lib.hid hk
    clear hk
    go_wp2_with fail
    go_ret
    first | exact ⟨rfl, HK.out⟩ | exact ⟨rfl, HK.out.alloc _⟩

set_option maxRecDepth 100000 in
theorem ent30_is (w : World) (B b : Nat) (key : ByteArray) (x : ByteArray) (h : Finds w B b key (.iface 79 (.string x)) true) : Calls Tryz.prog 30 #[.map (some b), .string key] w fun e w' => ∃ p, e = .returned (.pointer (some ⟨p, 0, none⟩)) ∧ Kept (fun _ => False) w w' ∧ w'.cell? ⟨p, 0, none⟩ = some (.string x) := by
  have H := Lib.hid (h w (Below.refl _ _))
  clear h
  go_enter Tryz.func30, Tryz.ntmps30
  go_wp2_with fail
  refine H.out.mono ?_
  rintro e w1 ⟨rfl, hk⟩
  have HK := Lib.hid hk
  clear hk
  go_wp2_with fail
  go_ret
  exact ⟨_, rfl, HK.out.alloc _, by go_simp⟩

set_option maxRecDepth 100000 in
theorem ent31_not (w : World) (B b : Nat) (key : ByteArray) (u : Value) (ok : Bool) (h : Finds w B b key u ok) (hn : NotOf 80 u ok) : Calls Tryz.prog 31 #[.map (some b), .string key] w fun e w' => e = .returned (.slice none 0 0) ∧ Kept (fun _ => False) w w' := by
  have H := Lib.hid (h w (Below.refl _ _))
  clear h
  rcases hn with ⟨rfl, rfl⟩ | ⟨rfl, rfl⟩ | ⟨t, v, rfl, rfl, ht⟩
  all_goals
    go_enter Tryz.func31, Tryz.ntmps31
    go_wp2_with fail
    refine H.out.mono ?_
    rintro e w1 ⟨rfl, hk⟩
    have HK := Lib.hid hk
    clear hk
    go_wp2_with fail
    go_ret
    first | exact ⟨rfl, HK.out⟩ | exact ⟨rfl, HK.out.alloc _⟩

set_option maxRecDepth 100000 in
theorem ent31_is (w : World) (B b : Nat) (key : ByteArray) (v : Value) (h : Finds w B b key (.iface 80 v) true) : Calls Tryz.prog 31 #[.map (some b), .string key] w fun e w' => e = .returned v ∧ Kept (fun _ => False) w w' := by
  have H := Lib.hid (h w (Below.refl _ _))
  clear h
  go_enter Tryz.func31, Tryz.ntmps31
  go_wp2_with fail
  refine H.out.mono ?_
  rintro e w1 ⟨rfl, hk⟩
  have HK := Lib.hid hk
  clear hk
  go_wp2_with fail
  go_ret
  exact ⟨rfl, HK.out⟩

set_option maxRecDepth 100000 in
theorem ent32_not (w : World) (B b : Nat) (key : ByteArray) (u : Value) (ok : Bool) (h : Finds w B b key u ok) (hn : NotOf 61 u ok) : Calls Tryz.prog 32 #[.map (some b), .string key] w fun e w' => e = .returned (.map none) ∧ Kept (fun _ => False) w w' := by
  have H := Lib.hid (h w (Below.refl _ _))
  clear h
  rcases hn with ⟨rfl, rfl⟩ | ⟨rfl, rfl⟩ | ⟨t, v, rfl, rfl, ht⟩
  all_goals
    go_enter Tryz.func32, Tryz.ntmps32
    go_wp2_with fail
    refine H.out.mono ?_
    rintro e w1 ⟨rfl, hk⟩
    have HK := Lib.hid hk
    clear hk
    go_wp2_with fail
    go_ret
    first | exact ⟨rfl, HK.out⟩ | exact ⟨rfl, HK.out.alloc _⟩

set_option maxRecDepth 100000 in
theorem ent32_is (w : World) (B b : Nat) (key : ByteArray) (v : Value) (h : Finds w B b key (.iface 61 v) true) : Calls Tryz.prog 32 #[.map (some b), .string key] w fun e w' => e = .returned v ∧ Kept (fun _ => False) w w' := by
  have H := Lib.hid (h w (Below.refl _ _))
  clear h
  go_enter Tryz.func32, Tryz.ntmps32
  go_wp2_with fail
  refine H.out.mono ?_
  rintro e w1 ⟨rfl, hk⟩
  have HK := Lib.hid hk
  clear hk
  go_wp2_with fail
  go_ret
  exact ⟨rfl, HK.out⟩

set_option maxRecDepth 100000 in
theorem ent33_not (w : World) (B b : Nat) (key : ByteArray) (u : Value) (ok : Bool) (h : Finds w B b key u ok) (hn : NotOf 86 u ok) : Calls Tryz.prog 33 #[.map (some b), .string key] w fun e w' => e = .returned (.pointer none) ∧ Kept (fun _ => False) w w' := by
  have H := Lib.hid (h w (Below.refl _ _))
  clear h
  rcases hn with ⟨rfl, rfl⟩ | ⟨rfl, rfl⟩ | ⟨t, v, rfl, rfl, ht⟩
  all_goals
    go_enter Tryz.func33, Tryz.ntmps33
    go_wp2_with fail
    refine H.out.mono ?_
    rintro e w1 ⟨rfl, hk⟩
    have HK := Lib.hid hk
    clear hk
    go_wp2_with fail
    go_ret
    first | exact ⟨rfl, HK.out⟩ | exact ⟨rfl, HK.out.alloc _⟩

set_option maxRecDepth 100000 in
theorem ent33_is (w : World) (B b : Nat) (key : ByteArray) (x g : Int) (h : Finds w B b key (.iface 86 (.agg #[.int .i64 x, .int .i64 g])) true) : Calls Tryz.prog 33 #[.map (some b), .string key] w fun e w' => ∃ p, e = .returned (.pointer (some ⟨p, 0, none⟩)) ∧ Kept (fun _ => False) w w' ∧ w'.cell? ⟨p, 0, none⟩ = some (.int .i64 x) ∧ w'.cell? ⟨p, 1, none⟩ = some (.int .i64 g) := by
  have H := Lib.hid (h w (Below.refl _ _))
  clear h
  go_enter Tryz.func33, Tryz.ntmps33
  go_wp2_with fail
  refine H.out.mono ?_
  rintro e w1 ⟨rfl, hk⟩
  have HK := Lib.hid hk
  clear hk
  go_wp2_with fail
  go_ret
  exact ⟨_, rfl, HK.out.alloc _, by go_simp, by go_simp⟩

end Go.Proofs.YtcpijmbdibgdmaaGreatDoor
