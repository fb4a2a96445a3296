/-
  Plain laws for floatBits, and a scope that is left by one jump ahead.
-/
import Derived.Test.YtcpijmbdibgdmaaGreatDoorP7
import Derived.ScopeJumps
import Derived.WalkMore
namespace Go.Proofs.YtcpijmbdibgdmaaGreatDoor
open Go Go.RowKit

@[go_sem] theorem jump_normal {l : Nat} {J : Act → World → Prop} {Q : Exit → Act → World → Prop} {a : Act} {w : World} : Exit.jump l J Q .normal a w = Q .normal a w := rfl
@[go_sem] theorem jump_ret {l : Nat} {J : Act → World → Prop} {Q : Exit → Act → World → Prop} {a : Act} {w : World} : Exit.jump l J Q .ret a w = Q .ret a w := rfl
theorem jump_goto {l : Nat} {J : Act → World → Prop} {Q : Exit → Act → World → Prop} {a : Act} {w : World} (h : J a w) : Exit.jump l J Q (.goto l) a w := ⟨rfl, h⟩

theorem then_goto {K : Act → World → Prop} {Q : Exit → Act → World → Prop} {l : Nat} {a : Act} {w : World} (h : Q (.goto l) a w) : Exit.then K Q (.goto l) a w := h

/-- What follows the label is run once, from where the jump stands. -/
theorem wp_scope_ahead {P : Program} {a : Act} {w : World} {Q : Exit → Act → World → Prop} {c : Code} (rest : Code) (l : Nat) (hf : findLabel c l = some rest)
    (h : ∀ J : Act → World → Prop, (∀ a w, rest.wp P (Exit.noGoto Q) a w → J a w) → c.wp P (Exit.jump l J Q) a w) : (Code.scope c).wp P Q a w := by
  refine wp_scope_jumps l (fun a w => rest.wp P (Exit.noGoto Q) a w) (fun _ _ => 0) hf (h _ fun _ _ h => h) ?_
  intro a w hJ b k cs
  obtain ⟨e, a1, w1, hq, harr⟩ := hJ b k cs
  cases e with
  | goto l' => exact hq.elim
  | normal => exact ⟨.normal, a1, w1, hq, harr⟩
  | exit id => exact ⟨.exit id, a1, w1, hq, harr⟩
  | ret => exact ⟨.ret, a1, w1, hq, harr⟩
  | panic ch => exact ⟨.panic ch, a1, w1, hq, harr⟩
  | outgrown => exact ⟨.outgrown, a1, w1, hq, harr⟩

/-- By how many places floatBits shifts. -/
def pw (D : Nat) : Nat := if D = 1 then 3 else if D = 2 then 6 else if D = 3 then 9 else if D = 4 then 13 else if D = 5 then 16 else if D = 6 then 19 else if D = 7 then 23 else if D = 8 then 26 else 27

theorem pw_cases (D : Nat) (h1 : 1 ≤ D) : (D = 1 ∧ pw D = 3) ∨ (D = 2 ∧ pw D = 6) ∨ (D = 3 ∧ pw D = 9) ∨ (D = 4 ∧ pw D = 13) ∨ (D = 5 ∧ pw D = 16) ∨ (D = 6 ∧ pw D = 19) ∨ (D = 7 ∧ pw D = 23) ∨ (D = 8 ∧ pw D = 26) ∨ (9 ≤ D ∧ pw D = 27) := by
  unfold pw
  by_cases a1 : D = 1
  · simp [a1]
  by_cases a2 : D = 2
  · simp [a2]
  by_cases a3 : D = 3
  · simp [a3]
  by_cases a4 : D = 4
  · simp [a4]
  by_cases a5 : D = 5
  · simp [a5]
  by_cases a6 : D = 6
  · simp [a6]
  by_cases a7 : D = 7
  · simp [a7]
  by_cases a8 : D = 8
  · simp [a8]
  simp [a1, a2, a3, a4, a5, a6, a7, a8]
  omega

theorem pw_le (D : Nat) (h1 : 1 ≤ D) : 1 ≤ pw D ∧ pw D ≤ 27 ∧ 2 ^ pw D ≤ 10 ^ D ∧ (D = 1 ∨ 64 ≤ 2 ^ pw D) := by
  have h := pw_cases D h1
  rcases h with ⟨rfl, h⟩ | ⟨rfl, h⟩ | ⟨rfl, h⟩ | ⟨rfl, h⟩ | ⟨rfl, h⟩ | ⟨rfl, h⟩ | ⟨rfl, h⟩ | ⟨rfl, h⟩ | ⟨h9, h⟩ <;> rw [h] <;> refine ⟨by decide, by decide, ?_, ?_⟩
  all_goals first
    | decide
    | (left; rfl)
    | (right; decide)
    | exact Nat.le_trans (by decide) (Nat.pow_le_pow_right (show 0 < 10 by decide) h9)

/-- One if the first digit is eight or nine. -/
def fl (d : Nat) : Nat := if 56 ≤ d then 1 else 0
theorem fl_le (d : Nat) : fl d ≤ 1 := by unfold fl; split <;> omega

theorem shift_step {D d0 r n : Nat} (hD : 1 ≤ D) (hd : 49 ≤ d0 ∧ d0 ≤ 57) (hl : Lead (2 ^ pw D) (d0 - 48) r n) (hn : 2 ^ pw D ≤ n) :
    1 ≤ r ∧ r - 1 ≤ D ∧ 2 * (D - (r - 1)) + fl (48 + n / 2 ^ pw D) < 2 * D + fl d0 ∧ 49 ≤ 48 + n / 2 ^ pw D := by
  obtain ⟨h1, h2, h3, h4⟩ := pw_le D hD
  have hp : 0 < 2 ^ pw D := Nat.pow_pos (by decide)
  have h49 : 1 ≤ n / 2 ^ pw D := (Nat.one_le_div_iff hp).2 hn
  rcases hl with ⟨_, hz⟩ | ⟨r1, _, hu, he, hq⟩
  · omega
  · have hf := fl_le (48 + n / 2 ^ pw D)
    by_cases e : r = 1
    · subst e
      have hn9 := he rfl
      rcases h4 with rfl | h4
      · have h8 : 2 ^ pw 1 = 8 := by decide
        rw [h8] at hn h49 ⊢
        have e1 : fl d0 = 1 := by unfold fl; rw [if_pos (by omega)]
        have e2 : fl (48 + n / 8) = 0 := by unfold fl; rw [if_neg (by omega)]
        rw [e1, e2]
        omega
      · omega
    · have hlt : 10 ^ (r - 2) < 10 ^ D := Nat.lt_of_lt_of_le (hq (by omega)) h3
      have hrd : r - 2 < D := (Nat.pow_lt_pow_iff_right (by decide)).1 hlt
      omega

theorem powtab_pw (D : Nat) (h1 : 1 ≤ D) (h2 : D ≤ 8) : powtabL.getD D 0 = (pw D : Int) := by
  rcases pw_cases D h1 with ⟨rfl, h⟩ | ⟨rfl, h⟩ | ⟨rfl, h⟩ | ⟨rfl, h⟩ | ⟨rfl, h⟩ | ⟨rfl, h⟩ | ⟨rfl, h⟩ | ⟨rfl, h⟩ | ⟨h9, h⟩
  all_goals first
    | (rw [h]; rfl)
    | omega

end Go.Proofs.YtcpijmbdibgdmaaGreatDoor
