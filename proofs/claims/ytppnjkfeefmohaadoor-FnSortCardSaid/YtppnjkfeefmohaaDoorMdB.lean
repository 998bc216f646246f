/- Walks of package module's tests of one rune. -/
import Derived.Test.YtppnjkfeefmohaaDoorMdA
namespace Go.Proofs.YtppnjkfeefmohaaDoor
open Go.RowKit Str
set_option linter.unusedVariables false

def firstOk (n : Nat) : Bool := decide (n = 45 ∨ n = 46 ∨ (48 ≤ n ∧ n ≤ 57) ∨ (97 ≤ n ∧ n ≤ 122))
def modOk (n : Nat) : Bool := decide (n = 45 ∨ n = 46 ∨ n = 95 ∨ n = 126 ∨ (48 ≤ n ∧ n ≤ 57) ∨ (65 ≤ n ∧ n ≤ 90) ∨ (97 ≤ n ∧ n ≤ 122))
def alnum (n : Nat) : Bool := decide ((48 ≤ n ∧ n ≤ 57) ∨ (65 ≤ n ∧ n ≤ 90) ∨ (97 ≤ n ∧ n ≤ 122))
def allowed : List UInt8 := [33, 35, 36, 37, 38, 40, 41, 43, 44, 45, 46, 61, 64, 91, 93, 94, 95, 123, 125, 126, 32]
def fileOk (n : Nat) : Bool := alnum n || allowed.any (fun c => c.toNat == n)
/-- what may stand in a part of a path: kind 0 of a module, 1 of an import, 2 of a file -/
def runeOk (kind n : Nat) : Bool := match kind with | 0 => modOk n | 1 => modOk n || n == 43 | _ => fileOk n

theorem eqb_t {n m : Nat} (h : n = m) : ((n : Int) == (m : Int)) = true := beq_iff_eq.2 (by omega)
theorem eqb_f {n m : Nat} (h : n ≠ m) : ((n : Int) == (m : Int)) = false := beq_eq_false_iff_ne.2 (by omega)

set_option maxRecDepth 100000 in
set_option maxHeartbeats 2000000 in
theorem firstPathOK_calls (n : Nat) (b : Bool) (h : firstOk n = b) (hn : n < 128) (w : World) :
    Calls Tryd.prog 47 #[.int .i32 n] w fun e w' => e = .returned (.bool b) ∧ w = w' := by
  unfold firstOk at h
  cases b with
  | true =>
    rw [decide_eq_true_eq] at h
    rcases h with rfl | rfl | h | h
    case inl => go_enter Tryd.func47, Tryd.ntmps47; go_wp2; go_ret; exact ⟨rfl, rfl⟩
    case inr.inl => go_enter Tryd.func47, Tryd.ntmps47; go_wp2; go_ret; exact ⟨rfl, rfl⟩
    all_goals
      have e1 : ((n : Int) == 45) = false := eqb_f (m := 45) (by omega)
      have e2 : ((n : Int) == 46) = false := eqb_f (m := 46) (by omega)
      obtain ⟨h1, h2⟩ := h
      go_enter Tryd.func47, Tryd.ntmps47
      go_wp2
      go_ret
      exact ⟨ret_bool (by first | rfl | (simp; omega)), rfl⟩
  | false =>
    rw [decide_eq_false_iff_not] at h
    have e1 : ((n : Int) == 45) = false := eqb_f (m := 45) (by omega)
    have e2 : ((n : Int) == 46) = false := eqb_f (m := 46) (by omega)
    rcases (by omega : n < 48 ∨ (57 < n ∧ n < 97) ∨ 122 < n) with h' | h' | h'
    all_goals
      clear h
      go_enter Tryd.func47, Tryd.ntmps47
      go_wp2
      go_ret
      exact ⟨ret_bool (by first | rfl | (simp; omega)), rfl⟩

set_option maxRecDepth 100000 in
set_option maxHeartbeats 4000000 in
theorem modPathOK_calls (n : Nat) (b : Bool) (h : modOk n = b) (hn : n < 128) (w : World) :
    Calls Tryd.prog 87 #[.int .i32 n] w fun e w' => e = .returned (.bool b) ∧ w = w' := by
  unfold modOk at h
  cases b with
  | true =>
    rw [decide_eq_true_eq] at h
    rcases h with rfl | rfl | rfl | rfl | h | h | h
    case inl => go_enter Tryd.func87, Tryd.ntmps87; go_wp2; go_ret; exact ⟨rfl, rfl⟩
    case inr.inl => go_enter Tryd.func87, Tryd.ntmps87; go_wp2; go_ret; exact ⟨rfl, rfl⟩
    case inr.inr.inl => go_enter Tryd.func87, Tryd.ntmps87; go_wp2; go_ret; exact ⟨rfl, rfl⟩
    case inr.inr.inr.inl => go_enter Tryd.func87, Tryd.ntmps87; go_wp2; go_ret; exact ⟨rfl, rfl⟩
    all_goals
      have e1 : ((n : Int) == 45) = false := eqb_f (m := 45) (by omega)
      have e2 : ((n : Int) == 46) = false := eqb_f (m := 46) (by omega)
      have e3 : ((n : Int) == 95) = false := eqb_f (m := 95) (by omega)
      have e4 : ((n : Int) == 126) = false := eqb_f (m := 126) (by omega)
      obtain ⟨h1, h2⟩ := h
      go_enter Tryd.func87, Tryd.ntmps87
      go_wp2
      go_ret
      exact ⟨ret_bool (by first | rfl | (simp; omega)), rfl⟩
  | false =>
    rw [decide_eq_false_iff_not] at h
    have e1 : ((n : Int) == 45) = false := eqb_f (m := 45) (by omega)
    have e2 : ((n : Int) == 46) = false := eqb_f (m := 46) (by omega)
    have e3 : ((n : Int) == 95) = false := eqb_f (m := 95) (by omega)
    have e4 : ((n : Int) == 126) = false := eqb_f (m := 126) (by omega)
    rcases (by omega : n < 48 ∨ (57 < n ∧ n < 65) ∨ (90 < n ∧ n < 97) ∨ 122 < n) with h' | h' | h' | h'
    all_goals
      clear h
      go_enter Tryd.func87, Tryd.ntmps87
      go_wp2
      go_ret
      exact ⟨ret_bool (by first | rfl | (simp; omega)), rfl⟩

set_option maxRecDepth 100000 in
set_option maxHeartbeats 2000000 in
theorem importPathOK_calls (n : Nat) (b : Bool) (h : (modOk n || n == 43) = b) (hn : n < 128) (w : World) :
    Calls Tryd.prog 88 #[.int .i32 n] w fun e w' => e = .returned (.bool b) ∧ w = w' := by
  cases hm : modOk n with
  | true =>
    have HM := Lib.hid hm
    rw [hm] at h
    obtain rfl : true = b := h
    clear hm
    go_enter Tryd.func88, Tryd.ntmps88
    go_wp2_with (first | (go_at_call 87; refine (modPathOK_calls n _ HM.out hn _).mono ?_; rintro e w' ⟨rfl, rfl⟩))
    go_ret
    exact ⟨rfl, rfl⟩
  | false =>
    have HM := Lib.hid hm
    rw [hm, Bool.false_or] at h
    have e1 : ((n : Int) == 43) = b := by
      rw [← h, Bool.eq_iff_iff, beq_iff_eq, beq_iff_eq]; omega
    clear hm h
    cases b
    all_goals
      go_enter Tryd.func88, Tryd.ntmps88
      go_wp2_with (first | (go_at_call 87; refine (modPathOK_calls n _ HM.out hn _).mono ?_; rintro e w' ⟨rfl, rfl⟩))
      go_ret
      exact ⟨ret_bool (by first | rfl | assumption), rfl⟩

set_option maxRecDepth 100000 in
set_option maxHeartbeats 2000000 in
theorem zzRune_calls (s : ByteArray) (n : Nat) (b : Bool) (ha : Asc s.data.toList) (h : s.data.toList.any (fun c => c.toNat == n) = b) (w : World) (hs : s.size ≤ 140737488351232) :
    Calls Tryd.prog 98 #[.string s, .int .i32 n] w fun e w' => e = .returned (.bool b) ∧ Gr w w' := by
  have HB : Hid ((s.data.toList.drop 0).any (fun c => c.toNat == n) = b) := h
  have HA := Lib.hid ha
  clear h ha
  go_enter Tryd.func98, Tryd.ntmps98
  go_wp2
  go_loopg [6] (s.size + 1) (fun g v6 wr => ∃ k : Nat, s.size < k + g ∧ IterAt wr w.heap.size s k ∧ Gr w wr ∧ Hid ((s.data.toList.drop k).any (fun c => c.toNat == n) = b))
  case atStart => exact ⟨0, by omega, IterAt.start w s, (Gr.refl w).iter s, HB⟩
  case round =>
    obtain ⟨k, hg, hi, hgr, HR⟩ := hrel
    have HI := Lib.hid hi
    have HG := Lib.hid hgr
    clear HB
    by_cases hlt : k < s.size
    · obtain ⟨d, hd⟩ : ∃ d : UInt8, s[k]'hlt = d := ⟨_, rfl⟩
      have hd128 := HA.out.at k hlt hd
      have hnx : ∀ ty, (Instr.next (.pointer (some ⟨w.heap.size, 0, none⟩)) true ty).run Tryd.prog wr = .ok (.tuple #[.bool true, .int .i64 k, .int .i32 d.toNat]) (setIter wr w.heap.size s (k + 1)) := fun ty => by
        have := next_ascii (P := Tryd.prog) hi hlt (by rw [hd]; exact hd128) ty
        rw [hd] at this; exact this
      have hl : k < s.data.toList.length := by rw [← Lib.size_eq]; exact hlt
      have hdd : s.data.toList[k] = d := Option.some.inj ((List.getElem?_eq_getElem hl).symm.trans (byte_at' s k hlt hd))
      have T := List.drop_eq_getElem_cons hl
      rw [hdd] at T
      by_cases hb : d.toNat = n
      · have e1 : ((d.toNat : Int) == (n : Int)) = true := eqb_t hb
        obtain rfl : true = b := by rw [← HR.out, T, List.any_cons, beq_iff_eq.2 hb]; rfl
        clear HR T hb hg hi hgr hl hdd
        go_wp2
        go_ret
        exact ⟨rfl, HG.out.setIter (Nat.le_refl _)⟩
      · have e1 : ((d.toNat : Int) == (n : Int)) = false := eqb_f hb
        have HN : Hid ((s.data.toList.drop (k + 1)).any (fun c => c.toNat == n) = b) := by
          show _ = _
          rw [← HR.out, T, List.any_cons, beq_eq_false_iff_ne.2 hb]; rfl
        clear HR T hb hi hgr hl hdd
        go_wp2
        go_roundg (gk - 1)
        case measure => omega
        case rel => exact ⟨k + 1, by omega, HI.out.set, HG.out.setIter (Nat.le_refl _), HN⟩
    · have hnx : ∀ ty, (Instr.next (.pointer (some ⟨w.heap.size, 0, none⟩)) true ty).run Tryd.prog wr = .ok (.tuple #[.bool false]) wr := fun ty => next_end hi hlt ty
      obtain rfl : false = b := by rw [← HR.out, List.drop_eq_nil_of_le (by rw [← Lib.size_eq]; omega)]; rfl
      clear HR hg hi hgr
      go_wp2
      go_ret
      exact ⟨rfl, HG.out⟩

theorem allowed_asc : Asc allowed := by unfold Asc allowed; decide

set_option maxRecDepth 100000 in
set_option maxHeartbeats 2000000 in
theorem fileNameOK_calls (n : Nat) (b : Bool) (h : fileOk n = b) (hn : n < 128) (w : World) :
    Calls Tryd.prog 89 #[.int .i32 n] w fun e w' => e = .returned (.bool b) ∧ Gr w w' := by
  unfold fileOk at h
  cases hm : alnum n with
  | true =>
    rw [hm] at h
    obtain rfl : true = b := h
    unfold alnum at hm
    rw [decide_eq_true_eq] at hm
    rcases hm with hm | hm | hm
    all_goals
      obtain ⟨h1, h2⟩ := hm
      go_enter Tryd.func89, Tryd.ntmps89
      go_wp2
      go_ret
      exact ⟨rfl, Gr.refl _⟩
  | false =>
    rw [hm, Bool.false_or] at h
    have HZ : Hid (∀ w, Calls Tryd.prog 98 #[.string ⟨#[33, 35, 36, 37, 38, 40, 41, 43, 44, 45, 46, 61, 64, 91, 93, 94, 95, 123, 125, 126, 32]⟩, .int .i32 n] w fun e w' => e = .returned (.bool b) ∧ Gr w w') := fun w =>
      zzRune_calls (B allowed) n b (by rw [B_data]; exact allowed_asc) (by rw [B_data]; exact h) w (by decide)
    unfold alnum at hm
    rw [decide_eq_false_iff_not] at hm
    rcases (by omega : n < 48 ∨ (57 < n ∧ n < 65) ∨ (90 < n ∧ n < 97) ∨ 122 < n) with h' | h' | h' | h'
    all_goals
      clear h hm
      go_enter Tryd.func89, Tryd.ntmps89
      go_wp2_with fail
      refine (HZ.out _).mono ?_
      rintro e w' ⟨rfl, hg⟩
      go_wp2
      go_ret
      exact ⟨rfl, hg⟩
end Go.Proofs.YtppnjkfeefmohaaDoor
