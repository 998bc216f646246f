/- Walks of the laws' figure and major: a path's version out of two small numbers. -/
import Derived.Test.YtfpboapgfbehlaaDoorSvI
import Derived.Laws.IdiomStrings
import Derived.Lib.Hide
namespace Go.Proofs.YtfpboapgfbehlaaDoor
open Go.RowKit Str
set_option linter.unusedVariables false

/-- a number below 12 in decimal figures -/
def fig (n : Nat) : List UInt8 := if n < 10 then [UInt8.ofNat (48 + n)] else [49, UInt8.ofNat (38 + n)]
/-- a path's version -/
def majL (q r : Nat) : List UInt8 := match q with | 1 => 47 :: 118 :: fig r | 2 => 46 :: 118 :: fig r | 3 => 46 :: 118 :: fig r ++ [45, 117, 110, 115, 116, 97, 98, 108, 101] | _ => []

theorem conv_one (w : World) (x : UInt8) (c : Int) (hc : c = (x.toNat : Int)) :
    (convert 43 9 (.slice (some ⟨w.heap.size, 0, none⟩) 1 1)).run Tryd.prog (w.alloc (.cells #[.int .u8 c] 5)) = .ok (.string ⟨#[x]⟩) (w.alloc (.cells #[.int .u8 c] 5)) := by
  refine run_convert_bytes_back (P := Tryd.prog) (w.alloc (.cells #[.int .u8 c] 5)) 43 9 5 ⟨w.heap.size, 0, none⟩ 1 [x] Tryd.underlying43 Tryd.underlying5 Tryd.underlying9 ?_
  intro j hj
  match j, hj with
  | 0, _ => rw [hc]; simp [Addr.add]

set_option maxRecDepth 100000 in
set_option maxHeartbeats 4000000 in
theorem figure_calls (n : Nat) (h : n < 12) (w : World) :
    Calls Tryd.prog 20 #[.int .i64 n] w fun e w' => e = .returned (.string (B (fig n))) ∧ Gr w w' := by
  have c48 := fun w => conv_one w 48 48 rfl
  have c49 := fun w => conv_one w 49 49 rfl
  have c50 := fun w => conv_one w 50 50 rfl
  have c51 := fun w => conv_one w 51 51 rfl
  have c52 := fun w => conv_one w 52 52 rfl
  have c53 := fun w => conv_one w 53 53 rfl
  have c54 := fun w => conv_one w 54 54 rfl
  have c55 := fun w => conv_one w 55 55 rfl
  have c56 := fun w => conv_one w 56 56 rfl
  have c57 := fun w => conv_one w 57 57 rfl
  have c49b : ∀ (w : World) (o : Obj), (convert 43 9 (.slice (some ⟨w.heap.size + 1, 0, none⟩) 1 1)).run Tryd.prog ((w.alloc o).alloc (.cells #[.int .u8 49] 5)) = .ok (.string ⟨#[49]⟩) ((w.alloc o).alloc (.cells #[.int .u8 49] 5)) := fun w o => by
    have := conv_one (w.alloc o) 49 49 rfl
    rw [show (w.alloc o).heap.size = w.heap.size + 1 by simp] at this; exact this
  rcases (by omega : n = 0 ∨ n = 1 ∨ n = 2 ∨ n = 3 ∨ n = 4 ∨ n = 5 ∨ n = 6 ∨ n = 7 ∨ n = 8 ∨ n = 9 ∨ n = 10 ∨ n = 11) with rfl | rfl | rfl | rfl | rfl | rfl | rfl | rfl | rfl | rfl | rfl | rfl
  case' inr.inr.inr.inr.inr.inr.inr.inr.inr.inr.inl | inr.inr.inr.inr.inr.inr.inr.inr.inr.inr.inr =>
    go_enter Tryd.func20, Tryd.ntmps20
    go_wp2
    refine wp_loop_rounds 2 ?_
    rw [rounds_succ]
    go_wp2
    rw [rounds_succ]
    go_wp2
    go_ret
    exact ⟨ret_str (of_data (by simp only [Go.Joins.data_append]; rfl)), ((Gr.refl _).alloc _).alloc _⟩
  all_goals
    go_enter Tryd.func20, Tryd.ntmps20
    go_wp2
    refine wp_loop_rounds 1 ?_
    rw [rounds_succ]
    go_wp2
    go_ret
    exact ⟨ret_str (of_data (by simp only [Go.Joins.data_append]; rfl)), (Gr.refl _).alloc _⟩

theorem fig_len {n : Nat} (h : n < 12) : (fig n).length ≤ 2 := by unfold fig; split <;> simp

set_option maxHeartbeats 4000000 in
theorem major_calls (k n : Nat) (hk : k ≤ 255) (hn : n ≤ 255) (w : World) :
    Calls Tryd.prog 18 #[.int .u8 k, .int .u8 n] w fun e w' => e = .returned (.string (B (majL (k % 4) (n % 12)))) ∧ Gr w w' := by
  obtain ⟨r, hr⟩ : ∃ r, n % 12 = r := ⟨_, rfl⟩
  have hr12 : r < 12 := by omega
  have e1 : (n : Int) % 12 = (r : Int) := by omega
  obtain ⟨q, hq⟩ : ∃ q, k % 4 = q := ⟨_, rfl⟩
  have CF := Lib.hid fun w => figure_calls r hr12 w
  have hl := fig_len hr12
  obtain ⟨a0, h0⟩ : ∃ a, a = B (fig r) := ⟨_, rfl⟩
  obtain ⟨a1, h1⟩ : ∃ a, a = B (118 :: fig r) := ⟨_, rfl⟩
  obtain ⟨a2, h2⟩ : ∃ a, a = B (47 :: 118 :: fig r) := ⟨_, rfl⟩
  obtain ⟨a3, h3⟩ : ∃ a, a = B (46 :: 118 :: fig r) := ⟨_, rfl⟩
  obtain ⟨a4, h4⟩ : ∃ a, a = B (46 :: 118 :: fig r ++ [45, 117, 110, 115, 116, 97, 98, 108, 101]) := ⟨_, rfl⟩
  have k1 : (⟨#[118]⟩ : ByteArray).size = 1 := rfl
  have k2 : (⟨#[47]⟩ : ByteArray).size = 1 := rfl
  have k3 : (⟨#[46]⟩ : ByteArray).size = 1 := rfl
  have k4 : (⟨#[45, 117, 110, 115, 116, 97, 98, 108, 101]⟩ : ByteArray).size = 9 := rfl
  have p1 : Op.stringOp .add (⟨#[118]⟩ : ByteArray) a0 = pure (.string a1) := str_add (by rw [h0, h1]; exact B_append [118] _) (by rw [h0, B_size]; omega)
  have p2 : Op.stringOp .add (⟨#[47]⟩ : ByteArray) a1 = pure (.string a2) := str_add (by rw [h1, h2]; exact B_append [47] _) (by rw [h1, B_size]; simp; omega)
  have p3 : Op.stringOp .add (⟨#[46]⟩ : ByteArray) a1 = pure (.string a3) := str_add (by rw [h1, h3]; exact B_append [46] _) (by rw [h1, B_size]; simp; omega)
  have p4 : Op.stringOp .add a3 (⟨#[45, 117, 110, 115, 116, 97, 98, 108, 101]⟩ : ByteArray) = pure (.string a4) := str_add (by rw [h3, h4]; exact B_append _ _) (by rw [h3, B_size]; simp; omega)
  have HV : Hid (B (majL 0 r) = ⟨#[]⟩ ∧ B (majL 1 r) = a2 ∧ B (majL 2 r) = a3 ∧ B (majL 3 r) = a4) := ⟨rfl, h2.symm, h3.symm, h4.symm⟩
  rw [hr, hq]
  rw [← h0] at CF
  have hk4 : (k : Int) % 4 = (q : Int) := by omega
  have hq4 : q < 4 := by omega
  clear hr hq hl h0 h1 h2 h3 h4 k1 k2 k3 k4
  rcases (by omega : q = 0 ∨ q = 1 ∨ q = 2 ∨ q = 3) with rfl | rfl | rfl | rfl
  all_goals
    go_enter Tryd.func18, Tryd.ntmps18
    go_wp2_with fail
    refine (CF.out _).mono ?_
    rintro e w1 ⟨rfl, g1⟩
    go_wp2
    go_ret
    exact ⟨by first | (rw [HV.out.1]; rfl) | (rw [HV.out.2.1]; rfl) | (rw [HV.out.2.2.1]; rfl) | (rw [HV.out.2.2.2]; rfl), g1⟩
end Go.Proofs.YtfpboapgfbehlaaDoor
