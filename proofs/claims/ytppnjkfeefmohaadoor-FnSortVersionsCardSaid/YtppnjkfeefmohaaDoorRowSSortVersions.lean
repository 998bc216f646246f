/- The row of FnSortVersions (a list of texts in): the frame, the walk of the law inside it; the card that ties the listed variable to the program's text. -/
import Derived.Test.YtppnjkfeefmohaaDoorTie
import Derived.Test.YtppnjkfeefmohaaDoorCards
import Derived.Test.YtppnjkfeefmohaaDoorLaid
import Derived.Test.YtppnjkfeefmohaaDoorLwSortVersions
import Derived.WalkKit
import Derived.ProofKit
import Derived.OpenShut
import Derived.ShutString
import Derived.ChangeOld
import Derived.ChangeVars
import Derived.Below
import Derived.SizedLaws
import Derived.LaidMore
import Derived.Lay
import Derived.SevenTiedAt
import Derived.Stop.Joined
import Derived.OpenVars
import Derived.SliceStrings
import Derived.Carry
namespace Go.Proofs.YtppnjkfeefmohaaDoor.fnSortVersions
open Go.ChangeShapes Go.WideShapes Go.ChangeAt Go.RowKit
open Go.ChangeMaps (open_string shut_string)
set_option linter.unusedVariables false
theorem own : ownKnob Tryd.prog.godebug = none := by kernel_rfl
/-- a list of texts that came in, nil or not, as the walk wants it -/
theorem open_arg {H : Type} {enc : TypeId × Value → H} {W : World} {a0 : Option Addr} {len cap fuel : Nat} {x : DataW H × List MemPlace}
    (hf : DataW.trod enc Tryd.prog W 0 (fun _ => true) true fuel 32 [.slice a0 len cap] = some x) :
    ∃ (b off : Nat) (Xs : List ByteArray), Xs.length = len ∧ (0 < len → a0 = some ⟨b, off, none⟩ ∧ b < W.heap.size) ∧ (∀ (j : Nat) X, Xs[j]? = some X → W.cell? ⟨b, off + j, none⟩ = some (.string X)) ∧ len ≤ maxLen := by
  rcases open_strings Tryd.underlying32 Tryd.underlying9 (by kernel_rfl) hf with ⟨hcs, hx⟩ | ⟨a, len', cap', ss, hcs, _, hl, hm, hz, hx, hcell, _⟩
  · simp at hcs
    obtain ⟨rfl, rfl, rfl⟩ := hcs
    exact ⟨0, 0, [], rfl, fun h => absurd h (by omega), fun j X h => by simp at h, Nat.zero_le _⟩
  · simp at hcs
    obtain ⟨rfl, rfl, rfl⟩ := hcs
    simp only [if_true] at hz
    obtain ⟨b, off, spot⟩ := a
    refine ⟨b, off, ss.take len, by simp; omega, fun h0 => ?_, fun j X hX => ?_, by omega⟩
    · have hspot : spot = none := by simpa [Addr.add] using World.cell?_spot (hcell 0 (by omega))
      subst hspot
      exact ⟨rfl, World.block_lt_of_cell? _ _ (hcell 0 (by omega))⟩
    · have hj : j < len := by
        have := (List.getElem?_eq_some_iff.1 hX).1
        simp at this
        omega
      have hspot : spot = none := by simpa [Addr.add] using World.cell?_spot (hcell 0 (by omega))
      subst hspot
      have hX' : ss.getD j ByteArray.empty = X := by
        rw [List.getElem?_take_of_lt hj] at hX
        simp [List.getD, hX]
      rw [← add_plain, ← hX']
      exact hcell j (by omega)
set_option maxRecDepth 100000 in
theorem lifted (os : Os) (started : os.Started) (H : Type) (enc : TypeId × Value → H) :
    ReturnsInHanded {} Tryd.checked os 4 .any (fun w args => (Rows.fnSortVersionsSpec.pre enc Tryd.prog Tryd.f4 Rows.fnSortVersionsRow.domain false w args ∧ laidMetH Tryd.prog LAID w) ∧ sizedMet enc Tryd.prog Tryd.f4 (OpenSpec.ofChange Rows.fnSortVersionsSpec) false w args)
      (Rows.fnSortVersionsSpec.post enc Tryd.prog Tryd.f4 false true false false) := by
  refine returnsInHanded_of_change_and (C := Tryd.checked) (X := fun w _ => laidMetH Tryd.prog LAID w) (fun _ _ _ hh h => h.of_heap hh) own started (by kernel_rfl) Tryd.func4
    (ChangeSpec.witness_shaped (enc := enc) (C := Tryd.checked) (os := os) (X := fun w _ => laidMetH Tryd.prog LAID w) false (World.laidAll Tryd.prog os LAID) #[.slice none 0 0] 8 (World.laidAll_os _ _ _)
      (World.shaped_of_ZipB (by kernel_rfl) (by kernel_rfl)) (by kernel_rfl) (by kernel_rfl) (by kernel_rfl)
      (by rw [MakeChecks.laidMetH_plain _ _ _ (by kernel_rfl)]; exact laidMet_laidAll _ (by kernel_rfl) (by kernel_rfl))) ?_
  intro W base args ds gs before hval0 hW hcnd hsz0 hL _
  have hsz : (DataW.weightsEach Tryd.prog (Tryd.f4.params.toList ++ Rows.fnSortVersionsSpec.plain.varTypes Tryd.prog) (ds ++ gs)).all (· ≤ reachBytes) = true := hsz0
  have hval : ∀ (j : Nat) t v, Tryd.f4.params[j]? = some t → args[j]? = some v → Value.okWide Tryd.prog W .any base t v := hval0
  have hW' := hW
  obtain ⟨p, q, hA0, hV, rfl, hfz, hnd⟩ := hW
  have hA : DataW.TrodAll enc Tryd.prog W 0 (fun _ => true) true Tryd.f4.params.toList args.toList ds p := hA0
  rw [Tryd.params4] at hA hval hsz
  obtain ⟨v0, vs0, d0, ds0, p0, q0, hargs, rfl, rfl, h0, r0⟩ := trodAll_cons hA
  obtain ⟨rfl, rfl, rfl⟩ := trodAll_nil r0
  obtain rfl : args = #[v0] := by cases args; simp_all
  obtain ⟨_, _, _, _, g1, _, rfl, _⟩ := trodVars_one hV
  obtain ⟨a0, len, cap, rfl⟩ := okWide_slice Tryd.underlying32 (hval 0 32 v0 rfl rfl)
  have h0k := h0
  obtain ⟨fuel, hf⟩ := h0
  obtain ⟨b, off, Xs, hXl, hat, hXc, hXm⟩ := open_arg hf
  have hlt : ∀ x ∈ p0 ++ [], x.block < W.heap.size := fun x hx => hW'.lt x (by simp at hx ⊢; exact .inl hx)
  clear hA0 hval0 hsz0 hsz
  refine (law_FnSortVersions a0 b off len cap Xs W (bad_of_laid hL) hXl hat hXc hXm).mono fun e W' ⟨he, bel⟩ => ?_
  subst he
  exact ⟨_, rfl, _, _, _, [], _, q, hW', trodAll_mk1 (shut_bool Tryd.underlying4 _), (trodAll_cons_mk (Below.trod laidOut (by kernel_rfl) (of_decide_eq_true (by kernel_rfl)) h0k bel (fun x hx => hlt x (by simp [hx]))) trodAll_mk0), bel.trodVars laidOut (by kernel_rfl) hV, bel.frame _, fun h => by cases h⟩
theorem over : Rows.fnSortVersionsRow.holds Tryd.pinned (OpenSpec.ofChange Rows.fnSortVersionsSpec) :=
  OpenClaim.holds_of_wide 4 Tryd.f4 rfl rfl rfl rfl rfl rfl rfl ⟨rfl, rfl, rfl, rfl, rfl⟩ rfl rfl rfl rfl rfl (by kernel_rfl) Tryd.func4 (by kernel_rfl)
    (of_decide_eq_true (by kernel_rfl)) (by unfold Func.isWrapper; first | (rw [if_pos (by decide +kernel)]; kernel_rfl) | (rw [if_neg (by decide +kernel)]; exact ⟨rfl, rfl⟩))
    (fun os started H enc _ => lifted os started H enc)
theorem card : Rows.FnSortVersionsCardSaid :=
  Claim7.holds_tied_plain_at .later [] [.data] true (true, "df67f3eced06ba2b4b9dbe56352b67f0a684cad577d5f5a042474d503fb4e3c1") false over (fun _ h => by cases h) (by kernel_rfl) (fun _ h => by cases h) fnSortVersions_row_tie rfl ⟨rfl, rfl⟩ (by kernel_rfl) rfl
    (fun f fn hf hfn => by
      obtain rfl : f = 4 := Option.some.inj ((show Tryd.prog.funcNamed "loop.example/pub-g03259/laws.FnSortVersions" = some 4 by kernel_rfl).symm.trans hf) |>.symm
      obtain rfl : fn = Tryd.f4 := (Option.some.inj (Tryd.func4.symm.trans hfn)).symm
      exact ⟨by kernel_rfl, fun j t ht => by
        rw [Tryd.params4] at ht
        have hm : t ∈ [32] := by simpa using Array.mem_of_getElem? ht
        have hall : ([32].all fun u => !Tryd.prog.wantsStandIn u) = true := by kernel_rfl
        exact (show Tryd.prog.wantsStandIn t = false by simpa using List.all_eq_true.1 hall t hm)⟩)
    (by kernel_rfl)
#print axioms card
end Go.Proofs.YtppnjkfeefmohaaDoor.fnSortVersions
namespace Go.Proofs.YtppnjkfeefmohaaDoor
/-- The card of the row, under a short name, for the claim. -/
theorem fnSortVersions_holds : Rows.FnSortVersionsCardSaid := fnSortVersions.card
end Go.Proofs.YtppnjkfeefmohaaDoor
