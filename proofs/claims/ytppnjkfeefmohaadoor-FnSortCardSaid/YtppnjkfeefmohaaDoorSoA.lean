/- Lists of paths and versions in memory; the guard on their sizes. -/
import Derived.Test.YtppnjkfeefmohaaDoorMdU
namespace Go.Proofs.YtppnjkfeefmohaaDoor
open Go.RowKit Str
set_option linter.unusedVariables false

/-- paths and versions in a row -/
def LieV (W : World) (g off : Nat) (L : List (ByteArray × ByteArray)) : Prop := (L ≠ [] → g < W.heap.size) ∧ ∀ j X, L[j]? = some X → W.cell? ⟨g, off + j * 2, none⟩ = some (.string X.1) ∧ W.cell? ⟨g, off + j * 2 + 1, none⟩ = some (.string X.2)
theorem LieV.keep {W W' : World} {g off : Nat} {L : List (ByteArray × ByteArray)} (h : LieV W g off L) (k : Bl W W') : LieV W' g off L := by
  refine ⟨fun hn => Nat.lt_of_lt_of_le (h.1 hn) k.size, fun j X hj => ?_⟩
  have hn : L ≠ [] := by rintro rfl; simp at hj
  exact ⟨(k.cell (h.1 hn)).trans (h.2 j X hj).1, (k.cell (h.1 hn)).trans (h.2 j X hj).2⟩

theorem zzFits2_calls (p v : ByteArray) (w : World) : Calls Tryd.prog 12 #[.agg #[.string p, .string v]] w fun e w' => e = .returned (.bool (decide (p.size ≤ 2147483647) && decide (v.size ≤ 2147483647))) ∧ Gr w w' := by
  by_cases h1 : 2147483647 < p.size
  · rw [show decide (p.size ≤ 2147483647) = false from decide_eq_false (by omega), Bool.false_and]
    go_enter Tryd.func12, Tryd.ntmps12
    go_wp2
    go_ret
    exact ⟨rfl, (Gr.refl _).alloc _⟩
  · rw [show decide (p.size ≤ 2147483647) = true from decide_eq_true (by omega), Bool.true_and]
    by_cases h2 : 2147483647 < v.size
    · rw [show decide (v.size ≤ 2147483647) = false from decide_eq_false (by omega)]
      go_enter Tryd.func12, Tryd.ntmps12
      go_wp2
      go_ret
      exact ⟨rfl, (Gr.refl _).alloc _⟩
    · rw [show decide (v.size ≤ 2147483647) = true from decide_eq_true (by omega)]
      go_enter Tryd.func12, Tryd.ntmps12
      go_wp2
      go_ret
      exact ⟨rfl, (Gr.refl _).alloc _⟩

/-- what the guard tells -/
def FitE (L : List (ByteArray × ByteArray)) (e : Ending) : Prop := ∃ r, e = .returned (.bool r) ∧ (r = true → ∀ x ∈ L, x.1.size ≤ 2147483647 ∧ x.2.size ≤ 2147483647)
theorem FitE.no (L : List (ByteArray × ByteArray)) : FitE L (.returned (.bool false)) := ⟨false, rfl, fun h => by cases h⟩

theorem zzFits1_calls (ga : Option Addr) (b off n c : Nat) (L : List (ByteArray × ByteArray)) (hL : L.length = n) (hga : 0 < n → ga = some ⟨b, off, none⟩) (w : World) (hlie : LieV w b off L) (hn : n ≤ maxLen) :
    Calls Tryd.prog 5 #[.slice ga n c] w fun e w' => FitE L e ∧ Gr w w' := by
  have hn' : n ≤ 9223372036854775807 := by unfold maxLen at hn; omega
  have LIE := Lib.hid hlie
  clear hlie hn
  by_cases h1 : 2147483647 < n
  · have h1' : (2147483647 : Int) < n := by omega
    go_enter Tryd.func5, Tryd.ntmps5
    go_wp2
    go_ret
    exact ⟨FitE.no L, Gr.refl _⟩
  have h1' : ¬ (2147483647 : Int) < n := by omega
  go_enter Tryd.func5, Tryd.ntmps5
  go_wp2
  go_loopg [10] (n + 1) (fun g v10 wr => ∃ k : Nat, v10 = .int .i64 k ∧ n < k + g ∧ k ≤ n ∧ Hid (Gr w wr ∧ ∀ j x, j < k → L[j]? = some x → x.1.size ≤ 2147483647 ∧ x.2.size ≤ 2147483647))
  case atStart => exact ⟨0, rfl, by omega, by omega, ⟨Gr.refl _, fun j x h => absurd h (by omega)⟩⟩
  case round =>
    obtain ⟨k, rfl, hg, hk, HK⟩ := hrel
    by_cases hlt : k < n
    · obtain rfl := hga (by omega)
      obtain ⟨x, hx⟩ : ∃ x, L[k]? = some x := ⟨_, List.getElem?_eq_getElem (by omega)⟩
      have hcells := (LIE.out.keep (Bl.of_gr HK.out.1)).2 k x hx
      obtain ⟨hc1, hc2⟩ := hcells
      have hlt' : (k : Int) < (n : Int) := by omega
      obtain ⟨p, v⟩ := x
      have hc1' : wr.cell? ⟨b, off + k * 2, none⟩ = some (.string p) := hc1
      have hc2' : wr.cell? ⟨b, off + k * 2 + 1, none⟩ = some (.string v) := hc2
      have CF := Lib.hid fun w => zzFits2_calls p v w
      have HX := Lib.hid hx
      clear hc1 hc2 hx
      obtain ⟨r, hr⟩ : ∃ r, (decide (p.size ≤ 2147483647) && decide (v.size ≤ 2147483647)) = r := ⟨_, rfl⟩
      rw [hr] at CF
      have HR := Lib.hid hr
      clear hr
      go_wp2_with fail
      refine (CF.out _).mono ?_
      rintro e w3 ⟨rfl, g3⟩
      have HG3 : Hid (Gr w w3) := (HK.out.1.alloc _).trans g3
      clear g3 hc1' hc2'
      cases r with
      | false =>
        clear hg
        go_wp2
        go_ret
        exact ⟨FitE.no L, HG3.out⟩
      | true =>
        have HN : Hid (∀ j x, j < k + 1 → L[j]? = some x → x.1.size ≤ 2147483647 ∧ x.2.size ≤ 2147483647) := fun j y hj hy => by
          by_cases e : j = k
          · subst e
            rw [HX.out] at hy; cases hy
            have := HR.out
            rw [Bool.and_eq_true, decide_eq_true_eq, decide_eq_true_eq] at this
            exact this
          · exact HK.out.2 j y (by omega) hy
        clear HK
        go_wp2
        go_roundg (gk - 1)
        case measure => omega
        case rel => exact ⟨k + 1, by go_num, by omega, by omega, ⟨HG3.out, HN.out⟩⟩
    · have hlt' : ¬ (k : Int) < (n : Int) := by omega
      have HA : Hid (∀ x ∈ L, x.1.size ≤ 2147483647 ∧ x.2.size ≤ 2147483647) := fun x hx => by
        obtain ⟨j, hj, rfl⟩ := List.getElem_of_mem hx
        exact HK.out.2 j _ (by omega) (List.getElem?_eq_getElem hj)
      clear hg
      go_wp2
      go_ret
      exact ⟨⟨true, rfl, fun _ => HA.out⟩, HK.out.1⟩
end Go.Proofs.YtppnjkfeefmohaaDoor
