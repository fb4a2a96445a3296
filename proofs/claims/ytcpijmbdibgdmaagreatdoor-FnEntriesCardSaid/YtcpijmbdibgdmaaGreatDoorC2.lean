/-
  The law FnEntries holds of every input: an entry of a dictionary is what it is asked for if it is of that kind, and nothing otherwise. The listed package-level variables of Go's library hold what the program's text lays (the card ties them).
-/
import Derived.Test.YtcpijmbdibgdmaaGreatDoorL2
import Derived.Test.YtcpijmbdibgdmaaGreatDoorJ2
import Derived.Test.YtcpijmbdibgdmaaGreatDoorTie
import Derived.Test.YtcpijmbdibgdmaaGreatDoorCards
import Derived.Test.YtcpijmbdibgdmaaGreatDoorChecked
import Derived.WalkKit
import Derived.ProofKit
import Derived.OpenShut
import Derived.Carry
import Derived.Lay
import Derived.SevenTiedAt
namespace Go.Proofs.YtcpijmbdibgdmaaGreatDoor
open Go Go.RowKit Go.ChangeShapes Go.WideShapes Go.ChangeAt

theorem own : ownKnob Tryz.prog.godebug = none := by kernel_rfl
theorem laidOut : laidOutB Tryz.prog = true := by kernel_rfl
theorem readable26 : Tryz.prog.readableRec 26 = true := by kernel_rfl
theorem row26 : 26 < Tryz.prog.types.size := of_decide_eq_true (by kernel_rfl)

set_option maxRecDepth 100000 in
/-- The argument's memory. -/
theorem rep_of_arg {H : Type} {enc : TypeId × Value → H} {W : World} {b0 : Nat} {r : Reach} {v : Value} {d : DataW H} {ps : List MemPlace} (hv : Value.okWide Tryz.prog W r b0 26 v) (h : DataW.Trod enc Tryz.prog W 0 (fun _ => true) true 26 v d ps)
    (hw : ∀ k ∈ d.weights Tryz.prog 26, k ≤ reachBytes) : ∃ n o, Rep n W (fun k => k < W.heap.size) v o := by
  obtain ⟨cs, rfl, hsz⟩ := okWide_struct Tryz.underlying26 hv
  obtain ⟨fuel, ht⟩ := h
  obtain ⟨c0, c1, c2, c3, c4, c5, c6, o, hcs, ho⟩ := rep_of_trod fuel fuel (Nat.le_refl _) _ _ ht hw
  have : cs = #[c0, c1, c2, c3, c4, c5, c6] := by
    apply Array.ext'
    simpa [Value.cells] using hcs
  rw [this]
  exact ⟨fuel, o, ho⟩

theorem readable9 : Tryz.prog.readableRec 9 = true := by kernel_rfl
theorem row9 : 9 < Tryz.prog.types.size := of_decide_eq_true (by kernel_rfl)

set_option maxRecDepth 100000 in
theorem fnEntries_lifted (os : Os) (started : os.Started) (H : Type) (enc : TypeId × Value → H) :
    ReturnsInHanded {} Tryz.checked os 4 .any (fun w args => (Rows.fnEntriesSpec.pre enc Tryz.prog Tryz.f4 [] false w args ∧ laidMetH Tryz.prog Rows.fnEntriesRow.laid w) ∧ sizedMet enc Tryz.prog Tryz.f4 (OpenSpec.ofChange Rows.fnEntriesSpec) false w args)
      (Rows.fnEntriesSpec.post enc Tryz.prog Tryz.f4 false true false false) := by
  refine returnsInHanded_of_change_and (C := Tryz.checked) (X := fun w _ => laidMetH Tryz.prog Rows.fnEntriesRow.laid w) (fun _ _ _ hh h => h.of_heap hh) own started (by kernel_rfl) Tryz.func4
    (ChangeSpec.witness_shaped (enc := enc) (C := Tryz.checked) (os := os) (X := fun w _ => laidMetH Tryz.prog Rows.fnEntriesRow.laid w) false (World.laidAll Tryz.prog os Rows.fnEntriesRow.laid) #[.agg #[.int .i64 0, .int .i64 0, .int .i64 0, .float .f64 0, .string ⟨#[]⟩, .slice none 0 0, .slice none 0 0], .string ⟨#[]⟩] 8 (World.laidAll_os _ _ _)
      (World.shaped_of_ZipB (by kernel_rfl) (by kernel_rfl)) (by kernel_rfl) (by kernel_rfl) (by kernel_rfl)
      (by rw [MakeChecks.laidMetH_plain _ _ _ (by kernel_rfl)]; exact laidMet_laidAll _ (by kernel_rfl) (by kernel_rfl))) ?_
  intro W base args ds gs before hval0 hW _ hz hL _
  have hval : ∀ (j : Nat) t v, Tryz.f4.params[j]? = some t → args[j]? = some v → Value.okWide Tryz.prog W .any base t v := hval0
  have hz' : (DataW.weightsEach Tryz.prog (Tryz.f4.params.toList ++ Rows.fnEntriesSpec.plain.varTypes Tryz.prog) (ds ++ gs)).all (· ≤ reachBytes) = true := hz
  have hW' := hW
  have hlt := hW.lt
  obtain ⟨p, q, hA0, hV, rfl, _, _⟩ := hW
  have hA : DataW.TrodAll enc Tryz.prog W 0 (fun _ => true) true Tryz.f4.params.toList args.toList ds p := hA0
  rw [Tryz.params4] at hA hval hz'
  obtain ⟨v0, vs0, d0, ds0, p0, q0, hargs, rfl, rfl, h0, r0⟩ := trodAll_cons hA
  obtain ⟨v1, vs1, d1, ds1, p1, q1, hargs1, rfl, rfl, h1, r1⟩ := trodAll_cons r0
  obtain ⟨rfl, rfl, rfl⟩ := trodAll_nil r1
  obtain rfl : args = #[v0, v1] := by cases args; simp_all
  obtain ⟨rfl, rfl⟩ := trodVars_none hV
  simp only [List.append_nil] at hW'
  rw [MakeChecks.laidMetH_plain _ _ _ (by kernel_rfl)] at hL
  obtain ⟨n, o, ho⟩ := rep_of_arg (hval 0 26 v0 rfl rfl) h0 (fun k hk => by
    have h1 := DataW.weights_mem_each (P := Tryz.prog) (ts := [26, 9] ++ Rows.fnEntriesSpec.plain.varTypes Tryz.prog) (ds := [d0, d1] ++ []) (j := 0) rfl rfl k hk
    have h2 := List.all_eq_true.1 hz' k h1
    exact of_decide_eq_true h2)
  obtain ⟨s, rfl⟩ := okWide_string Tryz.underlying9 (hval 1 9 v1 rfl rfl)
  have hs : s.size ≤ 140737488355328 := by
    obtain ⟨fuel, ht⟩ := h1
    obtain ⟨s', he, hx, _⟩ := DataW.trod_string Tryz.underlying9 ht
    have hss : s' = s := by simpa [Value.cells] using he.symm
    subst hss
    injection hx with hd _
    have h3 := DataW.weights_mem_each (P := Tryz.prog) (ts := [26, 9] ++ Rows.fnEntriesSpec.plain.varTypes Tryz.prog) (ds := [d0, d1] ++ []) (j := 1) rfl rfl s'.size (by rw [hd]; simp [DataW.weights])
    have h4 := of_decide_eq_true (List.all_eq_true.1 hz' _ h3)
    unfold reachBytes at h4
    omega
  have hg : Gl W := gl_of_laid hL (by simp [Rows.fnEntriesRow]) (by simp [Rows.fnEntriesRow]) (by simp [Rows.fnEntriesRow]) (by simp [Rows.fnEntriesRow]) (by simp [Rows.fnEntriesRow]) (by simp [Rows.fnEntriesRow]) (by simp [Rows.fnEntriesRow, Rows.laid_internal_strconv_leftcheats])
  refine (fnEntries_any n v0 o s _ W ho (fun _ h => h) hg hs).mono fun e W' ⟨he, hb⟩ => ?_
  subst he
  exact ⟨_, rfl, _, _, _, [], _, [], hW', trodAll_mk1 (shut_bool Tryz.underlying4 _), trodAll_cons_mk (hb.trod laidOut readable26 row26 h0 (fun x hx => hlt x (by simp [hx]))) (trodAll_mk1 (hb.trod laidOut readable9 row9 h1 (fun x hx => hlt x (by simp [hx])))), rfl, hb.frame _, fun h => by cases h⟩

theorem fnEntries_said : Rows.FnEntriesSaid :=
  OpenClaim.holds_of_wide 4 Tryz.f4 rfl rfl rfl rfl rfl rfl rfl ⟨rfl, rfl, rfl, rfl, rfl⟩ rfl rfl rfl rfl rfl (by kernel_rfl) Tryz.func4 (by kernel_rfl)
    (of_decide_eq_true (by kernel_rfl)) (by unfold Func.isWrapper; first | (rw [if_pos (by decide +kernel)]; kernel_rfl) | (rw [if_neg (by decide +kernel)]; exact ⟨rfl, rfl⟩))
    (fun os started H enc _ => fnEntries_lifted os started H enc)

theorem fnEntries_card : Rows.FnEntriesCardSaid :=
  Claim7.holds_tied_plain_at .later [] _ _ _ _ fnEntries_said (fun _ h => by cases h) (by kernel_rfl) (fun _ h => by cases h) fnEntries_row_tie rfl ⟨rfl, rfl⟩ (by kernel_rfl) rfl
    (fun f fn hf hfn => by
      obtain rfl : f = 4 := Option.some.inj ((show Tryz.prog.funcNamed "given.example/pub-foolscap/laws.FnEntries" = some 4 by kernel_rfl).symm.trans hf) |>.symm
      obtain rfl : fn = Tryz.f4 := (Option.some.inj (Tryz.func4.symm.trans hfn)).symm
      exact ⟨by kernel_rfl, fun j t ht => by
        rw [Tryz.params4] at ht
        have hm : t ∈ [26, 9] := by simpa using Array.mem_of_getElem? ht
        have hall : ([26, 9].all fun u => !Tryz.prog.wantsStandIn u) = true := by kernel_rfl
        exact (show Tryz.prog.wantsStandIn t = false by simpa using List.all_eq_true.1 hall t hm)⟩)
    (by kernel_rfl)
#print axioms fnEntries_card

end Go.Proofs.YtcpijmbdibgdmaaGreatDoor
