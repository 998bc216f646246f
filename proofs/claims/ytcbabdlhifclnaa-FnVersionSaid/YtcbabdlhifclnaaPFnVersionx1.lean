-- PRINTED BY print.sh 35421559b90ae4d0a3588c463048766b98c2df88dd9212a6774a882060cdf62d: not written by this session
import Derived.Test.YtcbabdlhifclnaaPFnVersionx0
namespace Go.Proofs.Ytcbabdlhifclnaa.PFnVersion
open Go.RowKit Go.Proofs.YtcbabdlhifclnaaW.PrintWords Go.Proofs.YtcbabdlhifclnaaW.PrintLast Go.Proofs.YtcbabdlhifclnaaW.PrintMore
attribute [local go_sem] max2_int min2_int max_two min_two max_three min_three max_four min_four   -- for this text's walks alone
set_option linter.unusedVariables false
set_option linter.unusedSimpArgs false

/-! ### module_Version_String: function 14 -/
def module_Version_String.f (a0_0 : ByteArray) (a0_1 : ByteArray) : Option (ByteArray) := if a0_1.toList = ([] : List UInt8) then (some a0_0) else (if a0_0.size + 1 ≤ 9223372036854775807 then (if (a0_0 ++ (⟨#[64]⟩ : ByteArray)).size + a0_1.size ≤ 9223372036854775807 then (some ((a0_0 ++ (⟨#[64]⟩ : ByteArray)) ++ a0_1)) else (none)) else (none))
set_option maxHeartbeats 8000000 in
set_option maxRecDepth 100000 in
theorem module_Version_String.calls (a0_0 : ByteArray) (a0_1 : ByteArray) (r : ByteArray) (w : World) (h : module_Version_String.f a0_0 a0_1 = some r) :
    Calls Try.prog 14 #[.agg #[.string a0_0, .string a0_1]] w fun e w' => e = .returned (.string r) ∧ Below w.heap.size w w' := by
  have hu34 := Try.underlying34
  have HB := Aside0.mk (Below.refl w.heap.size w)
  have H : (if a0_1.toList = ([] : List UInt8) then (some a0_0) else (if a0_0.size + 1 ≤ 9223372036854775807 then (if (a0_0 ++ (⟨#[64]⟩ : ByteArray)).size + a0_1.size ≤ 9223372036854775807 then (some ((a0_0 ++ (⟨#[64]⟩ : ByteArray)) ++ a0_1)) else (none)) else (none))) = some r := h
  clear h
  by_cases c2 : a0_1.toList = ([] : List UInt8)
  · rw [if_pos c2] at H
    have c2b0 : (a0_1.toList == ([] : List UInt8)) = true := beq_iff_eq.mpr c2
    have c2b1 : (a0_1.toList != ([] : List UInt8)) = false := bne_eq_false_iff_eq.mpr c2
    clear c2
    obtain rfl := Option.some.inj H
    go_enter Try.func14, Try.ntmps14
    go_wp2_with (first | ((with_reducible refine gate_dst (N := 1) rfl ?_); refine box_event ?hg (N := 1) ?hd (cs := #[.string a0_0, .string a0_1]) (t := 34) ?hr ?_; (case hd => rfl); (case hg => rfl); (case hr => first | (go_simp; done) | (go_simp; rfl)); intro gb101 hg w3 hbox hb; have n0_ := Aside0.mk (below_step (by repeat (first | (with_reducible first | exact HB.out | apply below_alloc | apply pw_below_drewN | apply below_drew1) | exact HB.out)) hb); have n1_ := Aside0.mk (hbox); have n2_ := Aside0.mk ((by rw [hg]; exact (below_size (by repeat (first | (with_reducible first | exact HB.out | apply below_alloc | apply pw_below_drewN | apply below_drew1) | exact HB.out))) : w.heap.size ≤ gb101)); have n3_ := Aside0.mk ((by rw [hg]; exact (below_size (by repeat (first | (with_reducible first | exact HB.out | apply below_alloc | apply pw_below_drewN | apply below_drew1) | exact HB.out))) : w.heap.size ≤ gb101)); clear HB; have HB := n0_; have BK101 := n1_; have GW101 := n2_; have GE101 := n3_; clear n0_ n1_ n2_ n3_; clear hb hbox hg; have hcz4_0 : w3.cell? ⟨gb101, 0, none⟩ = some (.string a0_0) := (blk_cell BK101.out 0).trans rfl; have hcz4_1 : w3.cell? ⟨gb101, 1, none⟩ = some (.string a0_1) := (blk_cell BK101.out 1).trans rfl; have hfz4_0 := blk_frozen BK101.out 0; have hfz4_1 := blk_frozen BK101.out 1))
    go_ret
    exact ⟨by first | rfl | (simp [errW_none, errW_some] <;> rfl) | (simp [*, errW_none, errW_some] <;> rfl), by repeat (first | (with_reducible first | exact HB.out | apply below_alloc | apply pw_below_drewN | apply below_drew1 | refine below_set ?_ GE101.out) | exact HB.out)⟩
  · rw [if_neg c2] at H
    have c2b0 : (a0_1.toList == ([] : List UInt8)) = false := beq_eq_false_iff_ne.mpr c2
    have c2b1 : (a0_1.toList != ([] : List UInt8)) = true := bne_iff_ne.mpr c2
    by_cases c5 : a0_0.size + 1 ≤ 9223372036854775807
    · rw [if_pos c5] at H
      have c5b0 := eq_true c5
      have c5b1 : decide (a0_0.size + 1 ≤ 9223372036854775807) = true := decide_eq_true c5
      try have c5b2 : (9223372036854775807 < a0_0.size + 1) = False := eq_false (Nat.not_lt.2 c5)
      by_cases c6 : (a0_0 ++ (⟨#[64]⟩ : ByteArray)).size + a0_1.size ≤ 9223372036854775807
      · rw [if_pos c6] at H
        have c6b0 := eq_true c6
        have c6b1 : decide ((a0_0 ++ (⟨#[64]⟩ : ByteArray)).size + a0_1.size ≤ 9223372036854775807) = true := decide_eq_true c6
        try have c6b2 : (9223372036854775807 < (a0_0 ++ (⟨#[64]⟩ : ByteArray)).size + a0_1.size) = False := eq_false (Nat.not_lt.2 c6)
        obtain rfl := Option.some.inj H
        go_enter Try.func14, Try.ntmps14
        go_wp2_with (first | ((with_reducible refine gate_dst (N := 1) rfl ?_); refine box_event ?hg (N := 1) ?hd (cs := #[.string a0_0, .string a0_1]) (t := 34) ?hr ?_; (case hd => rfl); (case hg => rfl); (case hr => first | (go_simp; done) | (go_simp; rfl)); intro gb101 hg w7 hbox hb; have n0_ := Aside0.mk (below_step (by repeat (first | (with_reducible first | exact HB.out | apply below_alloc | apply pw_below_drewN | apply below_drew1) | exact HB.out)) hb); have n1_ := Aside0.mk (hbox); have n2_ := Aside0.mk ((by rw [hg]; exact (below_size (by repeat (first | (with_reducible first | exact HB.out | apply below_alloc | apply pw_below_drewN | apply below_drew1) | exact HB.out))) : w.heap.size ≤ gb101)); have n3_ := Aside0.mk ((by rw [hg]; exact (below_size (by repeat (first | (with_reducible first | exact HB.out | apply below_alloc | apply pw_below_drewN | apply below_drew1) | exact HB.out))) : w.heap.size ≤ gb101)); clear HB; have HB := n0_; have BK101 := n1_; have GW101 := n2_; have GE101 := n3_; clear n0_ n1_ n2_ n3_; clear hb hbox hg; have hcz8_0 : w7.cell? ⟨gb101, 0, none⟩ = some (.string a0_0) := (blk_cell BK101.out 0).trans rfl; have hcz8_1 : w7.cell? ⟨gb101, 1, none⟩ = some (.string a0_1) := (blk_cell BK101.out 1).trans rfl; have hfz8_0 := blk_frozen BK101.out 0; have hfz8_1 := blk_frozen BK101.out 1))
        go_ret
        exact ⟨by first | rfl | (simp [errW_none, errW_some] <;> rfl) | (simp [*, errW_none, errW_some] <;> rfl), by repeat (first | (with_reducible first | exact HB.out | apply below_alloc | apply pw_below_drewN | apply below_drew1 | refine below_set ?_ GE101.out) | exact HB.out)⟩
      · rw [if_neg c6] at H
        exact absurd H (by simp)
    · rw [if_neg c5] at H
      exact absurd H (by simp)

/-! ### impl_String: function 6 -/
def impl_String.f (a0_0 : ByteArray) (a0_1 : ByteArray) : Option (ByteArray) := (module_Version_String.f a0_0 a0_1).bind fun t103 => (some t103)
set_option maxHeartbeats 8000000 in
set_option maxRecDepth 100000 in
theorem impl_String.calls (a0_0 : ByteArray) (a0_1 : ByteArray) (r : ByteArray) (w : World) (h : impl_String.f a0_0 a0_1 = some r) :
    Calls Try.prog 6 #[.agg #[.string a0_0, .string a0_1]] w fun e w' => e = .returned (.string r) ∧ Below w.heap.size w w' := by
  have hu24 := Try.underlying24
  have hu34 := Try.underlying34
  have HB := Aside0.mk (Below.refl w.heap.size w)
  have H : ((module_Version_String.f a0_0 a0_1).bind fun t103 => (some t103)) = some r := h
  clear h
  replace H := Option.bind_eq_some_iff.mp H
  obtain ⟨t103, A20, H⟩ := H
  replace H : (some t103) = some r := H
  have A2 := Aside0.mk A20
  clear A20
  obtain rfl := Option.some.inj H
  go_enter Try.func6, Try.ntmps6
  go_wp2_with (first | ((with_reducible refine gate_dst (N := 1) rfl ?_); refine box_event ?hg (N := 1) ?hd (cs := #[.string a0_0, .string a0_1]) (t := 24) ?hr ?_; (case hd => rfl); (case hg => rfl); (case hr => first | (go_simp; done) | (go_simp; rfl)); intro gb102 hg w3 hbox hb; have n0_ := Aside0.mk (below_step (by repeat (first | (with_reducible first | exact HB.out | apply below_alloc | apply pw_below_drewN | apply below_drew1) | exact HB.out)) hb); have n1_ := Aside0.mk (hbox); have n2_ := Aside0.mk ((by rw [hg]; exact (below_size (by repeat (first | (with_reducible first | exact HB.out | apply below_alloc | apply pw_below_drewN | apply below_drew1) | exact HB.out))) : w.heap.size ≤ gb102)); have n3_ := Aside0.mk ((by rw [hg]; exact (below_size (by repeat (first | (with_reducible first | exact HB.out | apply below_alloc | apply pw_below_drewN | apply below_drew1) | exact HB.out))) : w.heap.size ≤ gb102)); clear HB; have HB := n0_; have BK102 := n1_; have GW102 := n2_; have GE102 := n3_; clear n0_ n1_ n2_ n3_; clear hb hbox hg; have hcz4_0 : w3.cell? ⟨gb102, 0, none⟩ = some (.string a0_0) := (blk_cell BK102.out 0).trans rfl; have hcz4_1 : w3.cell? ⟨gb102, 1, none⟩ = some (.string a0_1) := (blk_cell BK102.out 1).trans rfl; have hfz4_0 := blk_frozen BK102.out 0; have hfz4_1 := blk_frozen BK102.out 1) | ((with_reducible refine gate_callee (f := 14) rfl ?_); refine goesL_ (some 8) rfl rfl Try.func14 (by kernel_rfl) rfl #[.agg #[.string a0_0, .string a0_1]] rfl (by (try simp only [List.map_toArray, List.map_cons, List.map_nil]); first | done | rfl | (simp only [List.length_drop, List.length_take]; rfl)) ?_; (with_reducible refine (module_Version_String.calls a0_0 a0_1 t103 _ A2.out).mono ?_); rintro e w5 ⟨rfl, hb⟩; refine ⟨_, rfl, ?_⟩; have n0_ := Aside0.mk (blk_below (g := gb102) (o := .cells #[.string a0_0, .string a0_1] 24 (0, 0)) (by (with_reducible repeat (first | refine blk_drewN ?_ _ | refine blk_drew ?_ | refine blk_alloc ?_ _)); exact BK102.out) hb); have n1_ := Aside0.mk (below_step (by repeat (first | (with_reducible first | exact HB.out | apply below_alloc | apply pw_below_drewN | apply below_drew1 | refine below_set ?_ GE102.out) | exact HB.out)) hb); clear BK102; clear HB; have BK102 := n0_; have HB := n1_; clear n0_ n1_; (try clear hb); (try clear hb2); (try clear hk); (try clear hi)))
  go_ret
  exact ⟨by first | rfl | (simp [errW_none, errW_some] <;> rfl) | (simp [*, errW_none, errW_some] <;> rfl), by repeat (first | (with_reducible first | exact HB.out | apply below_alloc | apply pw_below_drewN | apply below_drew1 | refine below_set ?_ GE102.out) | exact HB.out)⟩

/-! ### laws_FnVersion: function 3 -/
def laws_FnVersion.j0 : Nat → ByteArray → ByteArray → Bool → Option (Bool)
  | 0, _, _, _ => none
  | k + 1, x0, x1, x13 => if x13 = true then (some true) else (if x1.toList = ([] : List UInt8) then (if (x0.size : Int) > 100 then (some true) else (if (x1.size : Int) > 100 then (some true) else ((impl_String.f x0 x1).bind fun t104 => (if t104.toList = x0.toList then ((impl_String.f (⟨#[97]⟩ : ByteArray) (⟨#[]⟩ : ByteArray)).bind fun t105 => (some (t105.toList == ([97] : List UInt8)))) else (some false))))) else (if 1 + x1.size ≤ 9223372036854775807 then (if x0.size + ((⟨#[64]⟩ : ByteArray) ++ x1).size ≤ 9223372036854775807 then (if (x0.size : Int) > 100 then (some true) else (if (x1.size : Int) > 100 then (some true) else ((impl_String.f x0 x1).bind fun t106 => (if t106.toList = (x0 ++ ((⟨#[64]⟩ : ByteArray) ++ x1)).toList then ((impl_String.f (⟨#[97]⟩ : ByteArray) (⟨#[]⟩ : ByteArray)).bind fun t107 => (some (t107.toList == ([97] : List UInt8)))) else (some false))))) else (none)) else (none)))
def laws_FnVersion.f (k : Nat) (a0 : ByteArray) (a1 : ByteArray) : Option (Bool) := if (a0.size : Int) > 2147483647 then (laws_FnVersion.j0 k a0 a1 true) else (laws_FnVersion.j0 k a0 a1 (decide ((a1.size : Int) > 2147483647)))
theorem laws_FnVersion.mono_l : ∀ k, (∀ y0 y1 y2, LeO (laws_FnVersion.j0 k y0 y1 y2) (laws_FnVersion.j0 (k + 1) y0 y1 y2))
  | 0 => fun _ _ _ r h => by simp [laws_FnVersion.j0] at h
  | k + 1 => by
    have ih0 := laws_FnVersion.mono_l k
    · intro y0 y1 y2
      unfold laws_FnVersion.j0
      repeat' first
      | (with_reducible exact ih0 _ _ _)
      | (with_reducible exact LeO.refl _)
      | (with_reducible exact LeO.none _)
      | (with_reducible refine LeO.ite ?_ ?_)
      | (with_reducible refine LeO.bind ?_ (fun _ => ?_))
      | exact ih0 _ _ _
      | exact LeO.none _
      | refine LeO.ite ?_ ?_
      | refine LeO.bind ?_ (fun _ => ?_)
theorem laws_FnVersion.mono : ∀ a0 a1 k, LeO (laws_FnVersion.f k a0 a1) (laws_FnVersion.f (k + 1) a0 a1) := by
  intro a0 a1 k
  have ih0 := laws_FnVersion.mono_l k
  unfold laws_FnVersion.f
  repeat' first
      | (with_reducible exact ih0 _ _ _)
      | (with_reducible exact LeO.refl _)
      | (with_reducible exact LeO.none _)
      | (with_reducible refine LeO.ite ?_ ?_)
      | (with_reducible refine LeO.bind ?_ (fun _ => ?_))
      | exact ih0 _ _ _
      | exact LeO.none _
      | refine LeO.ite ?_ ?_
      | refine LeO.bind ?_ (fun _ => ?_)
set_option maxHeartbeats 8000000 in
set_option maxRecDepth 100000 in
theorem laws_FnVersion.calls (k : Nat) (a0 : ByteArray) (a1 : ByteArray) (r : Bool) (w : World) (h : laws_FnVersion.f k a0 a1 = some r) :
    Calls Try.prog 3 #[.string a0, .string a1] w fun e w' => e = .returned (.bool r) ∧ Below w.heap.size w w' := by
  have hu24 := Try.underlying24
  have HB := Aside0.mk (Below.refl w.heap.size w)
  have H : (if (a0.size : Int) > 2147483647 then (laws_FnVersion.j0 k a0 a1 true) else (laws_FnVersion.j0 k a0 a1 (decide ((a1.size : Int) > 2147483647)))) = some r := h
  clear h
  have HC3 := Aside0.mk H
  clear H
  go_enter Try.func3, Try.ntmps3
  go_upto_region 1 with (fail)
  go_cut [13] (fun v13 wc => ∃ (kq : Nat) (x13_2 : Bool), v13 = .bool x13_2 ∧ Aside0 (laws_FnVersion.j0 kq a0 a1 x13_2 = some r) ∧ Aside0 (kq ≤ k) ∧ Aside0 (Below w.heap.size w wc))
  case first =>
    have H := HC3.out
    clear HC3
    by_cases c4 : (a0.size : Int) > 2147483647
    · rw [if_pos c4] at H
      have c4b0 : decide (2147483647 < (a0.size : Int)) = true := decide_eq_true c4
      have c4b1 : decide (2147483647 < a0.size) = true := decide_eq_true (by omega)
      clear c4
      (first | rw [c4b0] | (simp only [i64_w, i32_w]; rw [c4b0]) | skip)
      have H' := Aside0.mk H
      clear H
      go_wp2
      go_meet
      case rel => exact ⟨_, (true), (by first | rfl | (simp; done) | (simp [*]; done)), H', ⟨by first | omega | exact Nat.le_refl _⟩, ⟨by repeat (first | (with_reducible first | exact HB.out | apply below_alloc | apply pw_below_drewN | apply below_drew1) | exact HB.out)⟩⟩
    · rw [if_neg c4] at H
      have c4b0 : decide (2147483647 < (a0.size : Int)) = false := decide_eq_false c4
      have c4b1 : decide (2147483647 < a0.size) = false := decide_eq_false (by omega)
      clear c4
      (first | rw [c4b0] | (simp only [i64_w, i32_w]; rw [c4b0]) | skip)
      have H' := Aside0.mk H
      clear H
      go_wp2
      go_meet
      case rel => exact ⟨_, (decide ((a1.size : Int) > 2147483647)), (by first | rfl | (simp; done) | (simp [*]; done)), H', ⟨by first | omega | exact Nat.le_refl _⟩, ⟨by repeat (first | (with_reducible first | exact HB.out | apply below_alloc | apply pw_below_drewN | apply below_drew1) | exact HB.out)⟩⟩
  case rest =>
    clear HC3
    try clear p2
    try clear c3
    try clear c4
    try clear c4b0
    try clear c4b1
    obtain ⟨kq, x13_2, rfl, HA, HJ2, HB⟩ := hcut
    cases kq with
    | zero => exact absurd HA.out (by simp [laws_FnVersion.j0])
    | succ kj2 =>
      have H := HA.out
      clear HA
      simp only [laws_FnVersion.j0] at H
      by_cases c5 : x13_2 = true
      · subst c5
        have H1 : (some true) = some r := by rw [if_pos rfl] at H; exact H
        clear H
        have H := H1
        clear H1
        obtain rfl := Option.some.inj H
        go_wp2
        go_ret
        exact ⟨by first | rfl | (simp [errW_none, errW_some] <;> rfl) | (simp [*, errW_none, errW_some] <;> rfl), by repeat (first | (with_reducible first | exact HB.out | apply below_alloc | apply pw_below_drewN | apply below_drew1) | exact HB.out)⟩
      · replace c5 := Bool.eq_false_iff.mpr c5
        subst c5
        have H1 : (if a1.toList = ([] : List UInt8) then (if (a0.size : Int) > 100 then (some true) else (if (a1.size : Int) > 100 then (some true) else ((impl_String.f a0 a1).bind fun t104 => (if t104.toList = a0.toList then ((impl_String.f (⟨#[97]⟩ : ByteArray) (⟨#[]⟩ : ByteArray)).bind fun t105 => (some (t105.toList == ([97] : List UInt8)))) else (some false))))) else (if 1 + a1.size ≤ 9223372036854775807 then (if a0.size + ((⟨#[64]⟩ : ByteArray) ++ a1).size ≤ 9223372036854775807 then (if (a0.size : Int) > 100 then (some true) else (if (a1.size : Int) > 100 then (some true) else ((impl_String.f a0 a1).bind fun t106 => (if t106.toList = (a0 ++ ((⟨#[64]⟩ : ByteArray) ++ a1)).toList then ((impl_String.f (⟨#[97]⟩ : ByteArray) (⟨#[]⟩ : ByteArray)).bind fun t107 => (some (t107.toList == ([97] : List UInt8)))) else (some false))))) else (none)) else (none))) = some r := by rw [if_neg (show ¬ (false = true) by decide)] at H; exact H
        clear H
        have H := H1
        clear H1
        by_cases c6 : a1.toList = ([] : List UInt8)
        · rw [if_pos c6] at H
          have c6b0 : (a1.toList == ([] : List UInt8)) = true := beq_iff_eq.mpr c6
          have c6b1 : (a1.toList != ([] : List UInt8)) = false := bne_eq_false_iff_eq.mpr c6
          clear c6
          by_cases c7 : (a0.size : Int) > 100
          · rw [if_pos c7] at H
            have c7b0 : decide (100 < (a0.size : Int)) = true := decide_eq_true c7
            have c7b1 : decide (100 < a0.size) = true := decide_eq_true (by omega)
            clear c7
            obtain rfl := Option.some.inj H
            go_wp2
            go_ret
            exact ⟨by first | rfl | (simp [errW_none, errW_some] <;> rfl) | (simp [*, errW_none, errW_some] <;> rfl), by repeat (first | (with_reducible first | exact HB.out | apply below_alloc | apply pw_below_drewN | apply below_drew1) | exact HB.out)⟩
          · rw [if_neg c7] at H
            have c7b0 : decide (100 < (a0.size : Int)) = false := decide_eq_false c7
            have c7b1 : decide (100 < a0.size) = false := decide_eq_false (by omega)
            clear c7
            by_cases c8 : (a1.size : Int) > 100
            · rw [if_pos c8] at H
              have c8b0 : decide (100 < (a1.size : Int)) = true := decide_eq_true c8
              have c8b1 : decide (100 < a1.size) = true := decide_eq_true (by omega)
              clear c8
              obtain rfl := Option.some.inj H
              go_wp2
              go_ret
              exact ⟨by first | rfl | (simp [errW_none, errW_some] <;> rfl) | (simp [*, errW_none, errW_some] <;> rfl), by repeat (first | (with_reducible first | exact HB.out | apply below_alloc | apply pw_below_drewN | apply below_drew1) | exact HB.out)⟩
            · rw [if_neg c8] at H
              have c8b0 : decide (100 < (a1.size : Int)) = false := decide_eq_false c8
              have c8b1 : decide (100 < a1.size) = false := decide_eq_false (by omega)
              clear c8
              replace H := Option.bind_eq_some_iff.mp H
              obtain ⟨t104, A90, H⟩ := H
              replace H : (if t104.toList = a0.toList then ((impl_String.f (⟨#[97]⟩ : ByteArray) (⟨#[]⟩ : ByteArray)).bind fun t105 => (some (t105.toList == ([97] : List UInt8)))) else (some false)) = some r := H
              have A9 := Aside0.mk A90
              clear A90
              by_cases c10 : t104.toList = a0.toList
              · rw [if_pos c10] at H
                have c10b0 : (t104.toList == a0.toList) = true := beq_iff_eq.mpr c10
                have c10b1 : (t104.toList != a0.toList) = false := bne_eq_false_iff_eq.mpr c10
                clear c10
                replace H := Option.bind_eq_some_iff.mp H
                obtain ⟨t105, A110, H⟩ := H
                replace H : (some (t105.toList == ([97] : List UInt8))) = some r := H
                have A11 := Aside0.mk A110
                clear A110
                obtain rfl := Option.some.inj H
                go_wp2_with (first | (go_at_call 6; (with_reducible refine (impl_String.calls a0 a1 t104 _ A9.out).mono ?_); rintro e w12 ⟨rfl, hb⟩; have n0_ := Aside0.mk (below_step (by repeat (first | (with_reducible first | exact HB.out | apply below_alloc | apply pw_below_drewN | apply below_drew1) | exact HB.out)) hb); clear HB; have HB := n0_; clear n0_; (try clear hb); (try clear hb2); (try clear hk); (try clear hi)) | (go_at_call 6; (with_reducible refine (impl_String.calls (⟨#[97]⟩ : ByteArray) (⟨#[]⟩ : ByteArray) t105 _ A11.out).mono ?_); rintro e w13 ⟨rfl, hb⟩; have n0_ := Aside0.mk (below_step (by repeat (first | (with_reducible first | exact HB.out | apply below_alloc | apply pw_below_drewN | apply below_drew1) | exact HB.out)) hb); clear HB; have HB := n0_; clear n0_; (try clear hb); (try clear hb2); (try clear hk); (try clear hi)))
                go_ret
                exact ⟨by first | rfl | (simp [errW_none, errW_some] <;> rfl) | (simp [*, errW_none, errW_some] <;> rfl), by repeat (first | (with_reducible first | exact HB.out | apply below_alloc | apply pw_below_drewN | apply below_drew1) | exact HB.out)⟩
              · rw [if_neg c10] at H
                have c10b0 : (t104.toList == a0.toList) = false := beq_eq_false_iff_ne.mpr c10
                have c10b1 : (t104.toList != a0.toList) = true := bne_iff_ne.mpr c10
                obtain rfl := Option.some.inj H
                go_wp2_with (first | (go_at_call 6; (with_reducible refine (impl_String.calls a0 a1 t104 _ A9.out).mono ?_); rintro e w14 ⟨rfl, hb⟩; have n0_ := Aside0.mk (below_step (by repeat (first | (with_reducible first | exact HB.out | apply below_alloc | apply pw_below_drewN | apply below_drew1) | exact HB.out)) hb); clear HB; have HB := n0_; clear n0_; (try clear hb); (try clear hb2); (try clear hk); (try clear hi)))
                go_ret
                exact ⟨by first | rfl | (simp [errW_none, errW_some] <;> rfl) | (simp [*, errW_none, errW_some] <;> rfl), by repeat (first | (with_reducible first | exact HB.out | apply below_alloc | apply pw_below_drewN | apply below_drew1) | exact HB.out)⟩
        · rw [if_neg c6] at H
          have c6b0 : (a1.toList == ([] : List UInt8)) = false := beq_eq_false_iff_ne.mpr c6
          have c6b1 : (a1.toList != ([] : List UInt8)) = true := bne_iff_ne.mpr c6
          by_cases c15 : 1 + a1.size ≤ 9223372036854775807
          · rw [if_pos c15] at H
            have c15b0 := eq_true c15
            have c15b1 : decide (1 + a1.size ≤ 9223372036854775807) = true := decide_eq_true c15
            try have c15b2 : (9223372036854775807 < 1 + a1.size) = False := eq_false (Nat.not_lt.2 c15)
            by_cases c16 : a0.size + ((⟨#[64]⟩ : ByteArray) ++ a1).size ≤ 9223372036854775807
            · rw [if_pos c16] at H
              have c16b0 := eq_true c16
              have c16b1 : decide (a0.size + ((⟨#[64]⟩ : ByteArray) ++ a1).size ≤ 9223372036854775807) = true := decide_eq_true c16
              try have c16b2 : (9223372036854775807 < a0.size + ((⟨#[64]⟩ : ByteArray) ++ a1).size) = False := eq_false (Nat.not_lt.2 c16)
              by_cases c17 : (a0.size : Int) > 100
              · rw [if_pos c17] at H
                have c17b0 : decide (100 < (a0.size : Int)) = true := decide_eq_true c17
                have c17b1 : decide (100 < a0.size) = true := decide_eq_true (by omega)
                clear c17
                obtain rfl := Option.some.inj H
                go_wp2
                go_ret
                exact ⟨by first | rfl | (simp [errW_none, errW_some] <;> rfl) | (simp [*, errW_none, errW_some] <;> rfl), by repeat (first | (with_reducible first | exact HB.out | apply below_alloc | apply pw_below_drewN | apply below_drew1) | exact HB.out)⟩
              · rw [if_neg c17] at H
                have c17b0 : decide (100 < (a0.size : Int)) = false := decide_eq_false c17
                have c17b1 : decide (100 < a0.size) = false := decide_eq_false (by omega)
                clear c17
                by_cases c18 : (a1.size : Int) > 100
                · rw [if_pos c18] at H
                  have c18b0 : decide (100 < (a1.size : Int)) = true := decide_eq_true c18
                  have c18b1 : decide (100 < a1.size) = true := decide_eq_true (by omega)
                  clear c18
                  obtain rfl := Option.some.inj H
                  go_wp2
                  go_ret
                  exact ⟨by first | rfl | (simp [errW_none, errW_some] <;> rfl) | (simp [*, errW_none, errW_some] <;> rfl), by repeat (first | (with_reducible first | exact HB.out | apply below_alloc | apply pw_below_drewN | apply below_drew1) | exact HB.out)⟩
                · rw [if_neg c18] at H
                  have c18b0 : decide (100 < (a1.size : Int)) = false := decide_eq_false c18
                  have c18b1 : decide (100 < a1.size) = false := decide_eq_false (by omega)
                  clear c18
                  replace H := Option.bind_eq_some_iff.mp H
                  obtain ⟨t106, A190, H⟩ := H
                  replace H : (if t106.toList = (a0 ++ ((⟨#[64]⟩ : ByteArray) ++ a1)).toList then ((impl_String.f (⟨#[97]⟩ : ByteArray) (⟨#[]⟩ : ByteArray)).bind fun t107 => (some (t107.toList == ([97] : List UInt8)))) else (some false)) = some r := H
                  have A19 := Aside0.mk A190
                  clear A190
                  by_cases c20 : t106.toList = (a0 ++ ((⟨#[64]⟩ : ByteArray) ++ a1)).toList
                  · rw [if_pos c20] at H
                    have c20b0 : (t106.toList == (a0 ++ ((⟨#[64]⟩ : ByteArray) ++ a1)).toList) = true := beq_iff_eq.mpr c20
                    have c20b1 : (t106.toList != (a0 ++ ((⟨#[64]⟩ : ByteArray) ++ a1)).toList) = false := bne_eq_false_iff_eq.mpr c20
                    clear c20
                    replace H := Option.bind_eq_some_iff.mp H
                    obtain ⟨t107, A210, H⟩ := H
                    replace H : (some (t107.toList == ([97] : List UInt8))) = some r := H
                    have A21 := Aside0.mk A210
                    clear A210
                    obtain rfl := Option.some.inj H
                    go_wp2_with (first | (go_at_call 6; (with_reducible refine (impl_String.calls a0 a1 t106 _ A19.out).mono ?_); rintro e w22 ⟨rfl, hb⟩; have n0_ := Aside0.mk (below_step (by repeat (first | (with_reducible first | exact HB.out | apply below_alloc | apply pw_below_drewN | apply below_drew1) | exact HB.out)) hb); clear HB; have HB := n0_; clear n0_; (try clear hb); (try clear hb2); (try clear hk); (try clear hi)) | (go_at_call 6; (with_reducible refine (impl_String.calls (⟨#[97]⟩ : ByteArray) (⟨#[]⟩ : ByteArray) t107 _ A21.out).mono ?_); rintro e w23 ⟨rfl, hb⟩; have n0_ := Aside0.mk (below_step (by repeat (first | (with_reducible first | exact HB.out | apply below_alloc | apply pw_below_drewN | apply below_drew1) | exact HB.out)) hb); clear HB; have HB := n0_; clear n0_; (try clear hb); (try clear hb2); (try clear hk); (try clear hi)))
                    go_ret
                    exact ⟨by first | rfl | (simp [errW_none, errW_some] <;> rfl) | (simp [*, errW_none, errW_some] <;> rfl), by repeat (first | (with_reducible first | exact HB.out | apply below_alloc | apply pw_below_drewN | apply below_drew1) | exact HB.out)⟩
                  · rw [if_neg c20] at H
                    have c20b0 : (t106.toList == (a0 ++ ((⟨#[64]⟩ : ByteArray) ++ a1)).toList) = false := beq_eq_false_iff_ne.mpr c20
                    have c20b1 : (t106.toList != (a0 ++ ((⟨#[64]⟩ : ByteArray) ++ a1)).toList) = true := bne_iff_ne.mpr c20
                    obtain rfl := Option.some.inj H
                    go_wp2_with (first | (go_at_call 6; (with_reducible refine (impl_String.calls a0 a1 t106 _ A19.out).mono ?_); rintro e w24 ⟨rfl, hb⟩; have n0_ := Aside0.mk (below_step (by repeat (first | (with_reducible first | exact HB.out | apply below_alloc | apply pw_below_drewN | apply below_drew1) | exact HB.out)) hb); clear HB; have HB := n0_; clear n0_; (try clear hb); (try clear hb2); (try clear hk); (try clear hi)))
                    go_ret
                    exact ⟨by first | rfl | (simp [errW_none, errW_some] <;> rfl) | (simp [*, errW_none, errW_some] <;> rfl), by repeat (first | (with_reducible first | exact HB.out | apply below_alloc | apply pw_below_drewN | apply below_drew1) | exact HB.out)⟩
            · rw [if_neg c16] at H
              exact absurd H (by simp)
          · rw [if_neg c15] at H
            exact absurd H (by simp)

/-- THE ONE PURE STATEMENT of laws_FnVersion: yours. -/
def laws_FnVersion.Pure : Prop := ∀ (a0 : ByteArray) (a1 : ByteArray), a0.size ≤ 140737488351232 → a1.size ≤ 140737488351232 → ∃ k, laws_FnVersion.f k a0 a1 = some true
theorem laws_FnVersion.walk (P : laws_FnVersion.Pure) (a0 : ByteArray) (a1 : ByteArray) (w : World) (w0 : a0.size ≤ 140737488351232) (w1 : a1.size ≤ 140737488351232) :
    Calls Try.prog 3 #[.string a0, .string a1] w fun e w' => e = .returned (.bool true) ∧ Below w.heap.size w w' := by
  obtain ⟨k, h⟩ := P a0 a1 w0 w1
  refine (laws_FnVersion.calls k a0 a1 true w h).mono ?_
  rintro e w' ⟨rfl, hd⟩
  exact ⟨rfl, hd⟩

end Go.Proofs.Ytcbabdlhifclnaa.PFnVersion
