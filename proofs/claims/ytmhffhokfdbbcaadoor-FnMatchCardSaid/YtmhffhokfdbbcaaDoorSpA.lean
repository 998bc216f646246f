/- Walks of the reference's small functions on versions: number, Cut, part, figures, series. -/
import Derived.Test.YtmhffhokfdbbcaaDoorSvG
namespace Go.Proofs.YtmhffhokfdbbcaaDoor
open Go.RowKit Str Ver
set_option linter.unusedVariables false

def numV (a : Nat) (m : List UInt8) : Int := match num m with
  | some (d, _) => ((a + d.length : Nat) : Int)
  | none => -1

/-- a text cut at a byte -/
def cutV (b : UInt8) (l : List UInt8) : Value :=
  .tuple #[.string (B (l.takeWhile (· != b))), .string (B (l.dropWhile (· != b)).tail), .bool (!(l.dropWhile (· != b)).isEmpty)]

set_option maxHeartbeats 2000000 in
theorem Cut_calls (s : ByteArray) (b : UInt8) (w : World) (hs : s.size ≤ 140737488351232) :
    Calls Tryd.prog 8 #[.string s, .int .u8 b.toNat] w fun e w' => e = .returned (cutV b s.data.toList) ∧ Drew w w' := by
  go_enter Tryd.func8, Tryd.ntmps8
  go_wp2
  go_loopg [7, 10] (s.size + 1) (fun g v7 v10 wr => ∃ k : Nat, v10 = .int .i64 k ∧ s.size < k + g ∧ w = wr ∧ Scan (· != b) s.data.toList k)
  case atStart => exact ⟨0, rfl, by omega, rfl, Scan.zero _ _⟩
  case round =>
    obtain ⟨k, rfl, hg, rfl, HS⟩ := hrel
    have hk : k ≤ s.size := by have := HS.1; rw [← Lib.size_eq] at this; exact this
    by_cases hlt : k < s.size
    · obtain ⟨d, hd⟩ : ∃ d : UInt8, s[k]'hlt = d := ⟨_, rfl⟩
      have HD := Lib.hid (byte_at' s k hlt hd)
      by_cases hp : d = b
      · have h46 : ((d.toNat : Int) == (b.toNat : Int)) = true := by rw [hp]; exact beq_self_eq_true _
        obtain ⟨e1, e2⟩ := HS.stop (fun x hx => by rw [HD.out] at hx; cases hx; rw [hp]; simp)
        have HV : Hid (cutV b s.data.toList = .tuple #[.string (s.extract 0 k), .string (s.extract (k + 1) s.size), .bool true]) := by
          show _ = _; unfold cutV; rw [e1, e2, cut_take, cut_drop, List.tail_drop, drop_at HD.out]; rfl
        clear hp e1 e2 HD hg HS
        go_wp2
        go_quiet (fail)
        go_wp2
        go_ret3
        exact ⟨by rw [HV.out]; rfl, ⟨_, rfl⟩⟩
      · have h46 : ((d.toNat : Int) == (b.toNat : Int)) = false := ne_nat hp
        have SN := HS.next HD.out (show (d != b) = true by rw [bne_iff_ne]; exact hp)
        clear hp HD
        go_wp2
        go_roundg (gk - 1)
        case measure => omega
        case rel => exact ⟨k + 1, by go_num, by omega, rfl, SN⟩
    · obtain ⟨e1, e2⟩ := HS.stop (fun x hx => by rw [byte_none s k hlt] at hx; cases hx)
      have HV : Hid (cutV b s.data.toList = .tuple #[.string s, .string (B []), .bool false]) := by
        show _ = _; unfold cutV
        rw [e1, e2, List.take_of_length_le (by rw [← Lib.size_eq]; omega), List.drop_eq_nil_of_le (by rw [← Lib.size_eq]; omega), B_of]; rfl
      clear e1 e2 hg HS
      go_wp2
      go_ret3
      exact ⟨by rw [HV.out]; rfl, Drew.refl _⟩
end Go.Proofs.YtmhffhokfdbbcaaDoor
