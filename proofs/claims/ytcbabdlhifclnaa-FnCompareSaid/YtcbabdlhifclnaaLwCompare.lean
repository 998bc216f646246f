/- The order of two versions: the walk of the law, for all texts. -/
import Derived.Test.YtcbabdlhifclnaaSpF
namespace Go.Proofs.Ytcbabdlhifclnaa
open Go.RowKit Str Ver
set_option linter.unusedVariables false

/-- the answers are -1, 0, 1 -/
def Rng {α : Type} (c : α → α → Int) : Prop := ∀ a b, -1 ≤ c a b ∧ c a b ≤ 1
theorem Rng.lex {α : Type} {c d : α → α → Int} (h1 : Rng c) (h2 : Rng d) : Rng (Cmp.lex c d) := fun a b => by
  unfold Cmp.lex; split
  · exact h2 a b
  · exact h1 a b
theorem Rng.list {α : Type} {c : α → α → Int} (h : Rng c) : Rng (Cmp.list c) := fun l => by
  induction l with
  | nil => intro m; cases m <;> simp [Cmp.list]
  | cons a l ih =>
    intro m
    cases m with
    | nil => simp [Cmp.list]
    | cons b m =>
      unfold Cmp.list; split
      · exact ih m
      · exact h a b
theorem num_rng (a b : Int) : -1 ≤ Cmp.num a b ∧ Cmp.num a b ≤ 1 := by unfold Cmp.num; split <;> (try split) <;> omega
theorem bytes_rng : Rng Ver.bytes := Rng.list fun a b => num_rng _ _
theorem figures_rng : Rng Ver.figures := Rng.lex (fun a b => num_rng _ _) bytes_rng
theorem one_rng : Rng Ver.one := fun a b => by
  have h1 := figures_rng a b
  have h2 := bytes_rng a b
  unfold Ver.one; split <;> split <;> omega
theorem pre_rng : Rng Ver.pre := fun a b => by
  have h1 := Rng.list one_rng (split 46 a.tail) (split 46 b.tail)
  unfold Ver.pre; split <;> split <;> omega
theorem cmpV_rng : Rng cmpV := Rng.lex (fun a b => figures_rng _ _) (Rng.lex (fun a b => figures_rng _ _) (Rng.lex (fun a b => figures_rng _ _) (fun a b => pre_rng _ _)))
theorem cmp_range (l m : List UInt8) : -1 ≤ Ver.cmp l m ∧ Ver.cmp l m ≤ 1 := by
  unfold Ver.cmp
  cases parse l <;> cases parse m <;> simp [Cmp.opt]
  exact cmpV_rng _ _

theorem iCompare_calls (s t : ByteArray) (w : World) (hs : s.size ≤ 140737488351232) (ht : t.size ≤ 140737488351232) :
    Calls Try.prog 13 #[.string s, .string t] w fun e w' => e = .returned (.int .i64 (Ver.cmp s.data.toList t.data.toList)) ∧ Gr w w' := by
  generalize hX : Ver.cmp s.data.toList t.data.toList = X
  have HC := Compare_calls s t w hs ht
  rw [hX] at HC
  clear hX
  have H := Lib.hid HC
  clear HC
  go_enter Try.func13, Try.ntmps13
  go_wp2_with fail
  refine H.out.mono ?_
  rintro e w1 ⟨rfl, hg⟩
  go_wp2
  go_ret
  exact ⟨rfl, hg⟩

set_option maxHeartbeats 4000000 in
theorem law_FnCompare (s t : ByteArray) (w : World) (hs : s.size ≤ 140737488351232) (ht : t.size ≤ 140737488351232) :
    Calls Try.prog 5 #[.string s, .string t] w fun e w' => e = .returned (.bool true) ∧ Below w.heap.size w w' := by
  by_cases h1 : 2147483647 < s.size
  · go_enter Try.func5, Try.ntmps5
    go_wp2
    go_ret
    exact ⟨rfl, Below.refl _ _⟩
  by_cases h1' : 2147483647 < t.size
  · go_enter Try.func5, Try.ntmps5
    go_wp2
    go_ret
    exact ⟨rfl, Below.refl _ _⟩
  by_cases h2 : 200 < s.size
  · go_enter Try.func5, Try.ntmps5
    go_wp2
    go_ret
    exact ⟨rfl, Below.refl _ _⟩
  by_cases h2' : 200 < t.size
  · go_enter Try.func5, Try.ntmps5
    go_wp2
    go_ret
    exact ⟨rfl, Below.refl _ _⟩
  obtain ⟨c, hc⟩ : ∃ c, Ver.cmp s.data.toList t.data.toList = c := ⟨_, rfl⟩
  have C0 : ∀ w, Calls Try.prog 12 #[.string s, .string t] w fun e w' => e = .returned (.int .i64 c) ∧ Gr w w' := fun w => hc ▸ spCompare_calls s t w hs ht
  have C1 : ∀ w, Calls Try.prog 13 #[.string s, .string t] w fun e w' => e = .returned (.int .i64 c) ∧ Gr w w' := fun w => hc ▸ iCompare_calls s t w hs ht
  have C2 : ∀ w, Calls Try.prog 13 #[.string t, .string s] w fun e w' => e = .returned (.int .i64 (-c)) ∧ Gr w w' := fun w => by
    have e : -c = Ver.cmp t.data.toList s.data.toList := by rw [← hc, good_cmp.anti, Int.neg_neg]
    rw [e]; exact iCompare_calls t s w ht hs
  have C3 : ∀ w, Calls Try.prog 13 #[.string ⟨#[118, 49, 46, 48, 46, 48]⟩, .string ⟨#[118, 49, 46, 48, 46, 48, 45, 97]⟩] w fun e w' => e = .returned (.int .i64 1) ∧ Gr w w' := fun w => by
    have := iCompare_calls ⟨#[118, 49, 46, 48, 46, 48]⟩ ⟨#[118, 49, 46, 48, 46, 48, 45, 97]⟩ w (by decide) (by decide)
    have e : Ver.cmp (⟨#[118, 49, 46, 48, 46, 48]⟩ : ByteArray).data.toList (⟨#[118, 49, 46, 48, 46, 48, 45, 97]⟩ : ByteArray).data.toList = 1 := by kernel_rfl
    rw [e] at this; exact this
  have hr : -1 ≤ c ∧ c ≤ 1 := hc ▸ cmp_range _ _
  have b0 : (c == c) = true := beq_self_eq_true _
  have b1 : IntKind.i64.wrap (-c) = -c := by
    rcases (by omega : c = -1 ∨ c = 0 ∨ c = 1) with rfl | rfl | rfl <;> rfl
  have b2 : (-c == -c) = true := beq_self_eq_true _
  have H0 := Lib.hid C0; have H1 := Lib.hid C1; have H2 := Lib.hid C2; have H3 := Lib.hid C3
  clear hc C0 C1 C2 C3
  go_enter Try.func5, Try.ntmps5
  go_wp2_with fail
  refine (H0.out _).mono ?_
  rintro e w1 ⟨rfl, g1⟩
  go_wp2_with fail
  refine (H1.out _).mono ?_
  rintro e w2 ⟨rfl, g2⟩
  go_wp2_with fail
  refine (H2.out _).mono ?_
  rintro e w3 ⟨rfl, g3⟩
  go_wp2_with fail
  refine (H3.out _).mono ?_
  rintro e w4 ⟨rfl, g4⟩
  go_wp2
  go_ret
  exact ⟨ret_bool (by first | rfl | (simp; done)), (((g1.trans g2).trans g3).trans g4).below⟩
end Go.Proofs.Ytcbabdlhifclnaa
