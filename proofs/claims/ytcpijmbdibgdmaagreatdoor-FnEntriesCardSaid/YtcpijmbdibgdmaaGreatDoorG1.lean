/-
  What the listed package-level variables hold, and that it stays where no old memory is written.
-/
import Derived.Test.YtcpijmbdibgdmaaGreatDoorProg
import Derived.Test.YtcpijmbdibgdmaaGreatDoorK1
import Derived.Lib.LaidTab
import Derived.Lib.ItoaNum
import Derived.KernelRfl
namespace Go.Proofs.YtcpijmbdibgdmaaGreatDoor
open Go Go.RowKit

def powtabL : List Int := [1, 3, 6, 9, 13, 16, 19, 23, 26]

/-- 5^53's digits. -/
def cut53 : List UInt8 := [49, 49, 49, 48, 50, 50, 51, 48, 50, 52, 54, 50, 53, 49, 53, 54, 53, 52, 48, 52, 50, 51, 54, 51, 49, 54, 54, 56, 48, 57, 48, 56, 50, 48, 51, 49, 50, 53]

structure Gl (w : World) : Prop where
  opt : w.cell? ⟨2, 0, none⟩ = some (.bool true)
  inf0 : w.cell? ⟨5, 0, none⟩ = some (.int .u64 52)
  inf1 : w.cell? ⟨5, 1, none⟩ = some (.int .u64 11)
  inf2 : w.cell? ⟨5, 2, none⟩ = some (.int .i64 (-1023))
  p10 : Lib.TabIs Tryz.prog w "internal/strconv.uint64pow10" .u64 Lib.pow10Tab
  ptab : ∃ b o c, w.cell? ⟨8, 0, none⟩ = some (.slice (some ⟨b, o, none⟩) 9 c) ∧ ∀ j, j < 9 → w.cell? ⟨b, o + j, none⟩ = some (.int .i64 (powtabL.getD j 0))
  f10 : ∃ b o c, w.cell? ⟨9, 0, none⟩ = some (.slice (some ⟨b, o, none⟩) 23 c) ∧ ∀ j, j < 23 → ∃ r : Nat, w.cell? ⟨b, o + j, none⟩ = some (.float .f64 r)
  tab : ∀ j, j < 1392 → ∃ n : Int, w.cell? ⟨10, j, none⟩ = some (.int .u64 n) ∧ 0 ≤ n ∧ n < 18446744073709551616
  lc : ∃ b o c, w.cell? ⟨11, 0, none⟩ = some (.slice (some ⟨b, o, none⟩) 61 c) ∧ w.cell? ⟨b, o + 2, none⟩ = some (.int .i64 1) ∧ w.cell? ⟨b, o + 3, none⟩ = some (.string ⟨#[53]⟩) ∧
    w.cell? ⟨b, o + 106, none⟩ = some (.int .i64 16) ∧ w.cell? ⟨b, o + 107, none⟩ = some (.string ⟨cut53.toArray⟩)

theorem global6 : Tryz.prog.globalNamed "internal/strconv.uint64pow10" = some 6 := by kernel_rfl

theorem keep_cell {w w' : World} (h : Below w.heap.size w w') {a : Addr} {v : Value} (hc : w.cell? a = some v) : w'.cell? a = some v :=
  (h.cell (World.block_lt_of_cell? w a hc)).trans hc

theorem Gl.below {w w' : World} (g : Gl w) (h : Below w.heap.size w w') : Gl w' := by
  refine ⟨keep_cell h g.opt, keep_cell h g.inf0, keep_cell h g.inf1, keep_cell h g.inf2, ?_, ?_, ?_, ?_, ?_⟩
  · have hp := g.p10
    unfold Lib.TabIs World.var? at hp ⊢
    rw [global6] at hp ⊢
    simp only [Option.bind_some] at hp ⊢
    have hlt : 6 < w.heap.size := by
      rcases Nat.lt_or_ge 6 w.heap.size with h' | h'
      · exact h'
      · rw [Array.getElem?_eq_none h'] at hp; simp at hp
    rw [h.block 6 hlt]
    exact hp
  · obtain ⟨b, o, c, h1, h2⟩ := g.ptab
    exact ⟨b, o, c, keep_cell h h1, fun j hj => keep_cell h (h2 j hj)⟩
  · obtain ⟨b, o, c, h1, h2⟩ := g.f10
    refine ⟨b, o, c, keep_cell h h1, fun j hj => ?_⟩
    obtain ⟨r, hr⟩ := h2 j hj
    exact ⟨r, keep_cell h hr⟩
  · intro j hj
    obtain ⟨n, hn, h0, h1⟩ := g.tab j hj
    exact ⟨n, keep_cell h hn, h0, h1⟩
  · obtain ⟨b, o, c, h1, h2, h3, h4, h5⟩ := g.lc
    exact ⟨b, o, c, keep_cell h h1, keep_cell h h2, keep_cell h h3, keep_cell h h4, keep_cell h h5⟩

theorem Gl.drewN {w : World} (g : Gl w) (n : Nat) : Gl (w.drewN n) := g.below ⟨rfl, rfl, rfl, Nat.le_refl _, fun _ _ => rfl⟩

theorem Gl.p10_cell {w : World} (g : Gl w) (j : Nat) (h : j < 20) : w.cell? ⟨6, j, none⟩ = some (.int .u64 ((10 ^ j : Nat) : Int)) := by
  rw [g.p10.cell global6 j (by rw [Lib.pow10Tab_length]; omega), Lib.pow10Tab_at _ (by omega)]

/-- A float that is a number. -/
def FinB (r : Nat) : Prop := FloatKind.f64.format.order r r = some Ordering.eq

/-- What is to be shown of spec.Twelve: it returns a bool, true only of a number. -/
def TwelveSaid : Prop := ∀ (r : Nat) (w : World), r < 18446744073709551616 → Gl w →
  Calls Tryz.prog 40 #[.float .f64 r] w fun e w' => (∃ x, e = .returned (.bool x) ∧ (x = true → FinB r)) ∧ Below w.heap.size w w'

end Go.Proofs.YtcpijmbdibgdmaaGreatDoor
