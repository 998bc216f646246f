/- The row of FnMajorPrefix (two bytes in): the frame, the walk of the law inside it; the card that ties the listed variable to the program's text. -/
import Derived.Test.YtfpboapgfbehlaaDoorTie
import Derived.Test.YtfpboapgfbehlaaDoorCards
import Derived.Test.YtfpboapgfbehlaaDoorLaid
import Derived.Test.YtfpboapgfbehlaaDoorLwMajorPrefix
import Derived.WalkKit
import Derived.ProofKit
import Derived.OpenShut
import Derived.ShutString
import Derived.ChangeOld
import Derived.ChangeVars
import Derived.Below
import Derived.SizedLaws
import Derived.LaidMore
import Derived.Lay
import Derived.SevenTiedAt
import Derived.Stop.Joined
import Derived.OpenVars
namespace Go.Proofs.YtfpboapgfbehlaaDoor.fnMajorPrefix
open Go.ChangeShapes Go.WideShapes Go.ChangeAt Go.RowKit
open Go.ChangeMaps (open_string shut_string)
set_option linter.unusedVariables false
theorem own : ownKnob Tryd.prog.godebug = none := by kernel_rfl
set_option maxRecDepth 100000 in
theorem lifted (os : Os) (started : os.Started) (H : Type) (enc : TypeId × Value → H) :
    ReturnsInHanded {} Tryd.checked os 6 .any (fun w args => (Rows.fnMajorPrefixSpec.pre enc Tryd.prog Tryd.f6 Rows.fnMajorPrefixRow.domain false w args ∧ laidMetH Tryd.prog LAID w) ∧ sizedMet enc Tryd.prog Tryd.f6 (OpenSpec.ofChange Rows.fnMajorPrefixSpec) false w args)
      (Rows.fnMajorPrefixSpec.post enc Tryd.prog Tryd.f6 false true false false) := by
  refine returnsInHanded_of_change_and (C := Tryd.checked) (X := fun w _ => laidMetH Tryd.prog LAID w) (fun _ _ _ hh h => h.of_heap hh) own started (by kernel_rfl) Tryd.func6
    (ChangeSpec.witness_shaped (enc := enc) (C := Tryd.checked) (os := os) (X := fun w _ => laidMetH Tryd.prog LAID w) false (World.laidAll Tryd.prog os LAID) #[.int .u8 0, .int .u8 0] 8 (World.laidAll_os _ _ _)
      (World.shaped_of_ZipB (by kernel_rfl) (by kernel_rfl)) (by kernel_rfl) (by kernel_rfl) (by kernel_rfl)
      (by rw [MakeChecks.laidMetH_plain _ _ _ (by kernel_rfl)]; exact laidMet_laidAll _ (by kernel_rfl) (by kernel_rfl))) ?_
  intro W base args ds gs before hval0 hW hcnd hsz0 hL _
  have hval : ∀ (j : Nat) t v, Tryd.f6.params[j]? = some t → args[j]? = some v → Value.okWide Tryd.prog W .any base t v := hval0
  have hW' := hW
  obtain ⟨p, q, hA0, hV, rfl, hfz, hnd⟩ := hW
  have hA : DataW.TrodAll enc Tryd.prog W 0 (fun _ => true) true Tryd.f6.params.toList args.toList ds p := hA0
  rw [Tryd.params6] at hA hval
  obtain ⟨v0, vs0, d0, ds0, p0, q0, hargs, rfl, rfl, h0, r0⟩ := trodAll_cons hA
  obtain ⟨v1, vs1, d1, ds1, p1, q1, rfl, rfl, rfl, h1, r1⟩ := trodAll_cons r0
  obtain ⟨rfl, rfl, rfl⟩ := trodAll_nil r1
  obtain rfl : args = #[v0, v1] := by cases args; simp_all
  obtain ⟨_, _, _, _, g1, _, rfl, _⟩ := trodVars_one hV
  obtain ⟨x0, rfl, rfl, rfl, y0⟩ := open_int Tryd.underlying5 (hval 0 5 v0 rfl rfl) h0
  have w0 : 0 ≤ x0 ∧ x0 ≤ 255 := by simpa [Lit.wf, IntKind.min, IntKind.max, IntKind.signed, IntKind.bits] using y0
  obtain ⟨a0, rfl⟩ : ∃ a : Nat, x0 = a := ⟨x0.toNat, by omega⟩
  obtain ⟨x1, rfl, rfl, rfl, y1⟩ := open_int Tryd.underlying5 (hval 1 5 v1 rfl rfl) h1
  have w1 : 0 ≤ x1 ∧ x1 ≤ 255 := by simpa [Lit.wf, IntKind.min, IntKind.max, IntKind.signed, IntKind.bits] using y1
  obtain ⟨a1, rfl⟩ : ∃ a : Nat, x1 = a := ⟨x1.toNat, by omega⟩
  clear hA0 hval0 hsz0
  refine (law_FnMajorPrefix a0 a1 W (bad_of_laid hL) (by omega) (by omega)).mono fun e W' ⟨he, bel⟩ => ?_
  subst he
  exact ⟨_, rfl, _, _, _, [], _, q, hW', trodAll_mk1 (shut_bool Tryd.underlying4 _), (trodAll_cons_mk (shut_int Tryd.underlying5 y0) (trodAll_cons_mk (shut_int Tryd.underlying5 y1) trodAll_mk0)), bel.trodVars laidOut (by kernel_rfl) hV, bel.frame _, fun h => by cases h⟩
theorem over : Rows.fnMajorPrefixRow.holds Tryd.pinned (OpenSpec.ofChange Rows.fnMajorPrefixSpec) :=
  OpenClaim.holds_of_wide 6 Tryd.f6 rfl rfl rfl rfl rfl rfl rfl ⟨rfl, rfl, rfl, rfl, rfl⟩ rfl rfl rfl rfl rfl (by kernel_rfl) Tryd.func6 (by kernel_rfl)
    (of_decide_eq_true (by kernel_rfl)) (by unfold Func.isWrapper; first | (rw [if_pos (by decide +kernel)]; kernel_rfl) | (rw [if_neg (by decide +kernel)]; exact ⟨rfl, rfl⟩))
    (fun os started H enc _ => lifted os started H enc)
theorem card : Rows.FnMajorPrefixCardSaid :=
  Claim7.holds_tied_plain_at .later [] [.data] true (true, "56f641eee9871936753319964fce589029ad9bc3f39f81846d701b5ea321dccc") false over (fun _ h => by cases h) (by kernel_rfl) (fun _ h => by cases h) fnMajorPrefix_row_tie rfl ⟨rfl, rfl⟩ (by kernel_rfl) rfl
    (fun f fn hf hfn => by
      obtain rfl : f = 6 := Option.some.inj ((show Tryd.prog.funcNamed "loop.example/pub-g03259/laws.FnMajorPrefix" = some 6 by kernel_rfl).symm.trans hf) |>.symm
      obtain rfl : fn = Tryd.f6 := (Option.some.inj (Tryd.func6.symm.trans hfn)).symm
      exact ⟨by kernel_rfl, fun j t ht => by
        rw [Tryd.params6] at ht
        have hm : t ∈ [5, 5] := by simpa using Array.mem_of_getElem? ht
        have hall : ([5, 5].all fun u => !Tryd.prog.wantsStandIn u) = true := by kernel_rfl
        exact (show Tryd.prog.wantsStandIn t = false by simpa using List.all_eq_true.1 hall t hm)⟩)
    (by kernel_rfl)
#print axioms card
end Go.Proofs.YtfpboapgfbehlaaDoor.fnMajorPrefix
namespace Go.Proofs.YtfpboapgfbehlaaDoor
/-- The card of the row, under a short name, for the claim. -/
theorem fnMajorPrefix_holds : Rows.FnMajorPrefixCardSaid := fnMajorPrefix.card
end Go.Proofs.YtfpboapgfbehlaaDoor
