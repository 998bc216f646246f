/- The walk of the reference's Compare. -/
import Derived.Test.YtppnjkfeefmohaaDoorSpE
import Derived.Deep.RegionHeld3
namespace Go.Proofs.YtppnjkfeefmohaaDoor
open Go.RowKit Str Ver
set_option linter.unusedVariables false

theorem spParse_bad {s : ByteArray} (w : World) (hs : s.size ≤ 140737488351232) (h : Ver.parse s.data.toList = none) :
    Calls Tryd.prog 15 #[.string s] w fun e w' => e = .returned (.tuple #[.agg #[.string (B []), .string (B []), .string (B []), .string (B []), .string (B []), .string (B [])], .bool false]) ∧ Gr w w' :=
  (Parse_calls s w hs).mono fun e w' ⟨h1, h2⟩ => by
    unfold ParseS at h1; rw [h] at h1; exact ⟨h1, h2⟩
theorem spParse_good {s : ByteArray} {v : V} (w : World) (hs : s.size ≤ 140737488351232) (h : Ver.parse s.data.toList = some v) :
    Calls Tryd.prog 15 #[.string s] w fun e w' => e = .returned (.tuple #[.agg #[.string (B v.major), .string (B v.minor), .string (B v.patch), .string (B v.short), .string (B v.pre), .string (B v.build)], .bool true]) ∧ Gr w w' :=
  (Parse_calls s w hs).mono fun e w' ⟨h1, h2⟩ => by
    unfold ParseS at h1; rw [h] at h1; exact ⟨h1, h2⟩

theorem order_B (l m : List UInt8) (w : World) (hs : l.length ≤ 140737488351232) (ht : m.length ≤ 140737488351232) :
    Calls Tryd.prog 16 #[.string (B l), .string (B m)] w fun e w' => e = .returned (.int .i64 (Ver.figures l m)) ∧ w = w' := by
  have := order_calls (B l) (B m) w (by rw [B_size]; exact hs) (by rw [B_size]; exact ht)
  rw [B_data, B_data] at this
  exact this
theorem Pre_B (l m : List UInt8) (w : World) (hs : l.length ≤ 140737488351232) (ht : m.length ≤ 140737488351232) :
    Calls Tryd.prog 17 #[.string (B l), .string (B m)] w fun e w' => e = .returned (.int .i64 (Ver.pre l m)) ∧ Drew w w' := by
  have := Pre_calls (B l) (B m) w (by rw [B_size]; exact hs) (by rw [B_size]; exact ht)
  rw [B_data, B_data] at this
  exact this

/-- what both versions' cells hold -/
@[reducible] def Two (a b : Nat) (v u : V) (w W : World) : Prop :=
  W.cell? ⟨a, 0, none⟩ = some (.string (B v.major)) ∧ W.cell? ⟨a, 1, none⟩ = some (.string (B v.minor)) ∧ W.cell? ⟨a, 2, none⟩ = some (.string (B v.patch)) ∧ W.cell? ⟨a, 4, none⟩ = some (.string (B v.pre)) ∧
  W.cell? ⟨b, 0, none⟩ = some (.string (B u.major)) ∧ W.cell? ⟨b, 1, none⟩ = some (.string (B u.minor)) ∧ W.cell? ⟨b, 2, none⟩ = some (.string (B u.patch)) ∧ W.cell? ⟨b, 4, none⟩ = some (.string (B u.pre)) ∧
  a < W.heap.size ∧ b < W.heap.size ∧ Gr w W
theorem Two.keep {a b : Nat} {v u : V} {w W1 W2 : World} (h : Two a b v u w W1) (g : Gr W1 W2) : Two a b v u w W2 := by
  obtain ⟨h0, h1, h2, h3, h4, h5, h6, h7, h8, h9, h10⟩ := h
  exact ⟨(g.cells.1 _ _ h8).trans h0, (g.cells.1 _ _ h8).trans h1, (g.cells.1 _ _ h8).trans h2, (g.cells.1 _ _ h8).trans h3, (g.cells.1 _ _ h9).trans h4, (g.cells.1 _ _ h9).trans h5, (g.cells.1 _ _ h9).trans h6, (g.cells.1 _ _ h9).trans h7, Nat.lt_of_lt_of_le h8 g.cells.2.2, Nat.lt_of_lt_of_le h9 g.cells.2.2, h10.trans g⟩

/-- the order, from one of the three numbers on -/
def left (f1 f2 f3 f4 : Int) : Nat → Int
  | 0 => if f1 = 0 then if f2 = 0 then if f3 = 0 then f4 else f3 else f2 else f1
  | 1 => if f2 = 0 then if f3 = 0 then f4 else f3 else f2
  | 2 => if f3 = 0 then f4 else f3
  | _ => f4

set_option maxHeartbeats 8000000 in
theorem spCompare_calls (s t : ByteArray) (w : World) (hs : s.size ≤ 140737488351232) (ht : t.size ≤ 140737488351232) :
    Calls Tryd.prog 8 #[.string s, .string t] w fun e w' => e = .returned (.int .i64 (Ver.cmp s.data.toList t.data.toList)) ∧ Gr w w' := by
  unfold Ver.cmp
  cases hp : Ver.parse s.data.toList with
  | none =>
    have HP := Lib.hid hp
    clear hp
    cases hq : Ver.parse t.data.toList with
    | none =>
      have HQ := Lib.hid hq
      clear hq
      go_enter Tryd.func8, Tryd.ntmps8
      go_wp2_with fail
      refine (spParse_bad _ hs HP.out).mono ?_
      rintro e w1 ⟨rfl, hg⟩
      go_wp2_with fail
      refine (spParse_bad _ ht HQ.out).mono ?_
      rintro e w2 ⟨rfl, hg2⟩
      go_wp2
      go_ret
      exact ⟨rfl, ((hg.alloc _).trans hg2).alloc _⟩
    | some u =>
      have HQ := Lib.hid hq
      clear hq
      go_enter Tryd.func8, Tryd.ntmps8
      go_wp2_with fail
      refine (spParse_bad _ hs HP.out).mono ?_
      rintro e w1 ⟨rfl, hg⟩
      go_wp2_with fail
      refine (spParse_good _ ht HQ.out).mono ?_
      rintro e w2 ⟨rfl, hg2⟩
      go_wp2
      go_ret
      exact ⟨rfl, ((hg.alloc _).trans hg2).alloc _⟩
  | some v =>
    have HP := Lib.hid hp
    cases hq : Ver.parse t.data.toList with
    | none =>
      have HQ := Lib.hid hq
      clear hq hp
      go_enter Tryd.func8, Tryd.ntmps8
      go_wp2_with fail
      refine (spParse_good _ hs HP.out).mono ?_
      rintro e w1 ⟨rfl, hg⟩
      go_wp2_with fail
      refine (spParse_bad _ ht HQ.out).mono ?_
      rintro e w2 ⟨rfl, hg2⟩
      go_wp2
      go_ret
      exact ⟨rfl, ((hg.alloc _).trans hg2).alloc _⟩
    | some u =>
      have HQ := Lib.hid hq
      obtain ⟨l1, l2, l3, l4, _⟩ := parse_lens hp (by rw [← Lib.size_eq]; exact hs)
      obtain ⟨m1, m2, m3, m4, _⟩ := parse_lens hq (by rw [← Lib.size_eq]; exact ht)
      have C4 : ∀ w, Calls Tryd.prog 17 #[.string (B v.pre), .string (B u.pre)] w fun e w' => e = .returned (.int .i64 (Ver.pre v.pre u.pre)) ∧ Drew w w' := fun w => Pre_B _ _ w l4 m4
      obtain ⟨R, hR⟩ : ∃ R, cmpV v u = R := ⟨_, rfl⟩
      have HR : Hid (R = if Ver.figures v.major u.major = 0 then (if Ver.figures v.minor u.minor = 0 then (if Ver.figures v.patch u.patch = 0 then Ver.pre v.pre u.pre else Ver.figures v.patch u.patch) else Ver.figures v.minor u.minor) else Ver.figures v.major u.major) := hR.symm.trans (cmpV_tell v u)
      have hfin : Cmp.opt cmpV (some v) (some u) = R := hR
      rw [hfin]
      clear hfin hR hp hq l4 m4
      generalize Ver.pre v.pre u.pre = f4 at *
      have D4 := Lib.hid C4
      clear C4
      go_enter Tryd.func8, Tryd.ntmps8
      go_wp2_with fail
      refine (spParse_good _ hs HP.out).mono ?_
      rintro e w1 ⟨rfl, hg⟩
      go_wp2_with fail
      refine (spParse_good _ ht HQ.out).mono ?_
      rintro e w2 ⟨rfl, hg2⟩
      have hz : w1.heap.size < w2.heap.size := by have := hg2.below.size; simp at this; omega
      have HT : Hid (Two w1.heap.size w2.heap.size v u w (w2.alloc (.cells #[.string (B u.major), .string (B u.minor), .string (B u.patch), .string (B u.short), .string (B u.pre), .string (B u.build)] 43))) := by
        have cc : ∀ j : Nat, w2.cell? ⟨w1.heap.size, j, none⟩ = _ := fun j => hg2.cells.1 w1.heap.size j (by simp)
        have hgg := (hg.alloc (.cells #[.string (B v.major), .string (B v.minor), .string (B v.patch), .string (B v.short), .string (B v.pre), .string (B v.build)] 43)).trans hg2
        have g3 : Gr w2 (w2.alloc (.cells #[.string (B u.major), .string (B u.minor), .string (B u.patch), .string (B u.short), .string (B u.pre), .string (B u.build)] 43)) := (Gr.refl _).alloc _
        refine ⟨(g3.cells.1 _ _ hz).trans ((cc 0).trans ?_), (g3.cells.1 _ _ hz).trans ((cc 1).trans ?_), (g3.cells.1 _ _ hz).trans ((cc 2).trans ?_), (g3.cells.1 _ _ hz).trans ((cc 4).trans ?_), ?_, ?_, ?_, ?_, ?_, ?_, hgg.alloc _⟩ <;> simp
        omega
      clear hz hg hg2
      go_wp2_with fail
      go_region_held3 (fun W => W.cell? ⟨w1.heap.size, 0, none⟩ = some (.string (B v.major)) ∧ W.cell? ⟨w1.heap.size, 1, none⟩ = some (.string (B v.minor)) ∧ W.cell? ⟨w1.heap.size, 2, none⟩ = some (.string (B v.patch)) ∧ W.cell? ⟨w1.heap.size, 4, none⟩ = some (.string (B v.pre)) ∧ W.cell? ⟨w2.heap.size, 0, none⟩ = some (.string (B u.major)) ∧ W.cell? ⟨w2.heap.size, 1, none⟩ = some (.string (B u.minor)) ∧ W.cell? ⟨w2.heap.size, 2, none⟩ = some (.string (B u.patch)) ∧ W.cell? ⟨w2.heap.size, 4, none⟩ = some (.string (B u.pre)) ∧ w1.heap.size < W.heap.size ∧ w2.heap.size < W.heap.size ∧ Gr w W)
        (first
          | (with_reducible assumption)
          | (with_reducible exact Two.keep HT.out (Gr.refl _).drew)
          | (with_reducible exact Two.keep HT.out ((Gr.refl _).alloc _).drew)
          | (with_reducible (refine Two.keep ?_ ((Gr.refl _).alloc _); assumption)))
        (first
          | (go_at_call 16; refine (order_B _ _ _ (by assumption) (by assumption)).mono ?_; rintro e w' ⟨rfl, rfl⟩))
      rename_i hHeld
      clear hHeld
      generalize Ver.figures v.major u.major = f1 at *
      generalize Ver.figures v.minor u.minor = f2 at *
      generalize Ver.figures v.patch u.patch = f3 at *
      generalize hW1 : w2.alloc (.cells #[.string (B u.major), .string (B u.minor), .string (B u.patch), .string (B u.short), .string (B u.pre), .string (B u.build)] 43) = W1 at *
      have hn : W1.heap.size = w2.heap.size + 1 := by rw [← hW1]; simp
      have HT2 := HT.out.keep (((Gr.refl _).alloc (.cells #[.int .i64 f1, .int .i64 f2, .int .i64 f3] 3)).drew)
      have k0 : ((W1.alloc (.cells #[.int .i64 f1, .int .i64 f2, .int .i64 f3] 3)).drew).cell? ⟨W1.heap.size, 0, none⟩ = some (.int .i64 f1) := by simp
      have k1 : ((W1.alloc (.cells #[.int .i64 f1, .int .i64 f2, .int .i64 f3] 3)).drew).cell? ⟨W1.heap.size, 1, none⟩ = some (.int .i64 f2) := by simp
      have k2 : ((W1.alloc (.cells #[.int .i64 f1, .int .i64 f2, .int .i64 f3] 3)).drew).cell? ⟨W1.heap.size, 2, none⟩ = some (.int .i64 f3) := by simp
      generalize hW : (W1.alloc (.cells #[.int .i64 f1, .int .i64 f2, .int .i64 f3] 3)).drew = W at *
      rw [hn] at k0 k1 k2
      obtain ⟨_, _, _, t3, _, _, _, t7, _, _, tg⟩ := HT2
      have TG := Lib.hid tg
      clear HT hW hW1 hn tg
      go_wp2
      go_loopg [10, 51] 4 (fun g v10 v51 wr => ∃ k : Nat, v51 = .int .i64 k ∧ 3 < k + g ∧ k ≤ 3 ∧ W = wr ∧ Hid (R = left f1 f2 f3 f4 k))
      case atStart => exact ⟨0, rfl, by omega, by omega, rfl, HR⟩
      case round =>
        clear HR
        obtain ⟨k, rfl, hg, hk, rfl, HV⟩ := hrel
        rcases (by omega : k = 3 ∨ k = 0 ∨ k = 1 ∨ k = 2) with rfl | hk3
        · obtain rfl : R = f4 := HV.out
          go_wp2_with fail
          refine (D4.out _).mono ?_
          rintro e w' ⟨rfl, n1, rfl⟩
          go_wp2
          go_ret
          exact ⟨rfl, TG.out.drewN _⟩
        rcases hk3 with rfl | rfl | rfl
        · by_cases hf : f1 = 0
          · have hb : (f1 != 0) = false := bne_eq_false_iff_eq.2 hf
            have HN : Hid (R = left f1 f2 f3 f4 1) := HV.out.trans (if_pos hf)
            clear HV hf
            go_wp2
            go_roundg (gk - 1)
            case measure => omega
            case rel => exact ⟨1, by go_num, by omega, by omega, rfl, HN⟩
          · have hb : (f1 != 0) = true := bne_iff_ne.2 hf
            obtain rfl : R = f1 := HV.out.trans (if_neg hf)
            clear HV hf
            go_wp2
            go_ret
            exact ⟨rfl, TG.out⟩
        · by_cases hf : f2 = 0
          · have hb : (f2 != 0) = false := bne_eq_false_iff_eq.2 hf
            have HN : Hid (R = left f1 f2 f3 f4 2) := HV.out.trans (if_pos hf)
            clear HV hf
            go_wp2
            go_roundg (gk - 1)
            case measure => omega
            case rel => exact ⟨2, by go_num, by omega, by omega, rfl, HN⟩
          · have hb : (f2 != 0) = true := bne_iff_ne.2 hf
            obtain rfl : R = f2 := HV.out.trans (if_neg hf)
            clear HV hf
            go_wp2
            go_ret
            exact ⟨rfl, TG.out⟩
        · by_cases hf : f3 = 0
          · have hb : (f3 != 0) = false := bne_eq_false_iff_eq.2 hf
            have HN : Hid (R = left f1 f2 f3 f4 3) := HV.out.trans (if_pos hf)
            clear HV hf
            go_wp2
            go_roundg (gk - 1)
            case measure => omega
            case rel => exact ⟨3, by go_num, by omega, by omega, rfl, HN⟩
          · have hb : (f3 != 0) = true := bne_iff_ne.2 hf
            obtain rfl : R = f3 := HV.out.trans (if_neg hf)
            clear HV hf
            go_wp2
            go_ret
            exact ⟨rfl, TG.out⟩
end Go.Proofs.YtppnjkfeefmohaaDoor
