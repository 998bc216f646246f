/- The walk of package module's CheckPath over a text of bytes below 128, with the call that it defers. -/
import Derived.Test.YtppnjkfeefmohaaDoorMdP
import Derived.Test.YtppnjkfeefmohaaDoorMdS
import Derived.Test.YtppnjkfeefmohaaDoorSvG
import Derived.Defers
namespace Go.Proofs.YtppnjkfeefmohaaDoor
open Go.RowKit Str
set_option linter.unusedVariables false

theorem close_ok (pe pp : Addr) (u : FrameMode) (w : World) (hc : w.cell? pe = some .nilIface) :
    CallsD Tryd.prog 44 #[.pointer (some pe), .pointer (some pp)] u w fun e u' w' => u' = u ∧ (e = .returned (.tuple #[]) ∧ w' = w) := by
  go_enter_d Tryd.func44, Tryd.ntmps44
  go_wp2
  go_end0
  exact ⟨rfl, rfl⟩

theorem close_bad (be : Nat) (pp : Addr) (s : ByteArray) (t : TypeId) (a : Addr) (u : FrameMode) (w : World) (hb : be < w.heap.size) (hc : w.cell? ⟨be, 0, none⟩ = some (.iface t (.pointer (some a)))) (hs : w.cell? pp = some (.string s)) (hf : w.frozen? ⟨be, 0, none⟩ = false) :
    CallsD Tryd.prog 44 #[.pointer (some ⟨be, 0, none⟩), .pointer (some pp)] u w fun e u' w' => u' = u ∧ (e = .returned (.tuple #[]) ∧ ∃ o T, w' = (w.setCell ⟨be, 0, none⟩ (.iface T (.pointer (some ⟨w.heap.size, 0, none⟩)))).alloc o) := by
  have hfa : ∀ o, (w.alloc o).frozen? ⟨be, 0, none⟩ = false := fun o => (((Gr.refl w).alloc o).cells.2.1 be 0 hb).trans hf
  have hca : ∀ o, (w.alloc o).cell? ⟨be, 0, none⟩ = some (.iface t (.pointer (some a))) := fun o => (((Gr.refl w).alloc o).cells.1 be 0 hb).trans hc
  go_enter_d Tryd.func44, Tryd.ntmps44
  go_wp2
  go_end0
  exact ⟨rfl, _, _, rfl⟩

theorem takeWhile_all {p : UInt8 → Bool} : ∀ l : List UInt8, (∀ c ∈ l, p c = true) → l.takeWhile p = l
  | [], _ => rfl
  | c :: l, h => by rw [List.takeWhile_cons, if_pos (h c List.mem_cons_self), takeWhile_all l fun x hx => h x (List.mem_cons_of_mem _ hx)]

/-- what CheckPath asks -/
def modI (l : List UInt8) : Bool := pathOk 0 l && ((l.takeWhile (· != 47)).contains 46 && ((l.takeWhile (· != 47)).all (fun c => firstOk c.toNat) && (Pth.splitI l).2.2))

/-- the two variables of CheckPath's call in a later world -/
structure Vars (w : World) (s : ByteArray) (W : World) : Prop where
  p : W.cell? ⟨w.heap.size, 0, none⟩ = some (.string s)
  e : W.cell? ⟨w.heap.size + 1, 0, none⟩ = some .nilIface
  f : W.frozen? ⟨w.heap.size + 1, 0, none⟩ = false
  z : w.heap.size + 1 < W.heap.size
  g : Gr w W
theorem Vars.keep {w W W' : World} {s : ByteArray} (h : Vars w s W) (g : Gr W W') : Vars w s W' :=
  ⟨(g.cells.1 _ _ (by have := h.z; omega)).trans h.p, (g.cells.1 _ _ h.z).trans h.e, (g.cells.2.1 _ _ h.z).trans h.f, Nat.lt_of_lt_of_le h.z g.cells.2.2, h.g.trans g⟩

theorem Vars.door_bad {w W : World} {s : ByteArray} (h : Vars w s W) (t : TypeId) (a : Addr) (u : FrameMode) :
    CallsD Tryd.prog 44 #[.pointer (some ⟨w.heap.size + 1, 0, none⟩), .pointer (some ⟨w.heap.size, 0, none⟩)] u (W.setCell ⟨w.heap.size + 1, 0, none⟩ (.iface t (.pointer (some a)))) fun e u' w' =>
      u' = u ∧ (e = .returned (.tuple #[]) ∧ (∃ T b, w'.cell? ⟨w.heap.size + 1, 0, none⟩ = some (.iface T (.pointer (some b)))) ∧ Gr w w') := by
  have he := World.cell?_setCell_same W _ (.iface t (.pointer (some a))) h.e
  have hp : (W.setCell ⟨w.heap.size + 1, 0, none⟩ (.iface t (.pointer (some a)))).cell? ⟨w.heap.size, 0, none⟩ = some (.string s) :=
    (World.cell?_setCell_other _ _ _ _ (by intro e; injection e with e1; omega)).trans h.p
  have hg : Gr w (W.setCell ⟨w.heap.size + 1, 0, none⟩ (.iface t (.pointer (some a)))) := h.g.setCell (by show w.heap.size ≤ w.heap.size + 1; omega) _
  have hz : w.heap.size + 1 < (W.setCell ⟨w.heap.size + 1, 0, none⟩ (.iface t (.pointer (some a)))).heap.size := by simpa using h.z
  have hf : (W.setCell ⟨w.heap.size + 1, 0, none⟩ (.iface t (.pointer (some a)))).frozen? ⟨w.heap.size + 1, 0, none⟩ = false := by rw [World.frozen?_setCell]; exact h.f
  generalize W.setCell ⟨w.heap.size + 1, 0, none⟩ (.iface t (.pointer (some a))) = W' at *
  refine (close_bad (w.heap.size + 1) ⟨w.heap.size, 0, none⟩ s t a u W' hz he hp hf).mono ?_
  rintro e u' w' ⟨h1, h2, o, T, rfl⟩
  refine ⟨h1, h2, ⟨T, ⟨W'.heap.size, 0, none⟩, ?_⟩, (hg.setCell (by show w.heap.size ≤ w.heap.size + 1; omega) _).alloc _⟩
  have hz2 : w.heap.size + 1 < (W'.setCell ⟨w.heap.size + 1, 0, none⟩ (.iface T (.pointer (some ⟨W'.heap.size, 0, none⟩)))).heap.size := by simpa using hz
  exact ((((Gr.refl _).alloc o).cells).1 _ _ hz2).trans (World.cell?_setCell_same _ _ _ he)
theorem Vars.door_ok {w W : World} {s : ByteArray} (h : Vars w s W) (u : FrameMode) :
    CallsD Tryd.prog 44 #[.pointer (some ⟨w.heap.size + 1, 0, none⟩), .pointer (some ⟨w.heap.size, 0, none⟩)] u (W.setCell ⟨w.heap.size + 1, 0, none⟩ .nilIface) fun e u' w' =>
      u' = u ∧ (e = .returned (.tuple #[]) ∧ w'.cell? ⟨w.heap.size + 1, 0, none⟩ = some .nilIface ∧ Gr w w') := by
  have he := World.cell?_setCell_same W _ .nilIface h.e
  have hg : Gr w (W.setCell ⟨w.heap.size + 1, 0, none⟩ .nilIface) := h.g.setCell (by show w.heap.size ≤ w.heap.size + 1; omega) _
  refine (close_ok ⟨w.heap.size + 1, 0, none⟩ ⟨w.heap.size, 0, none⟩ u _ he).mono ?_
  rintro e u' w' ⟨h1, h2, rfl⟩
  exact ⟨h1, h2, he, hg⟩

set_option maxRecDepth 100000 in
set_option maxHeartbeats 8000000 in
theorem CheckPath_calls (s : ByteArray) (ha : Asc s.data.toList) (w : World) (hb : Bad w) (hs : s.size ≤ 140737488351232) :
    Calls Tryd.prog 32 #[.string s] w fun e w' => (∃ x, e = .returned x ∧ Err (modI s.data.toList) x) ∧ Gr w w' := by
  have hmf : ∀ (fn : Fn) (first cap : Array Value) (w : World), (Instr.makeFunc fn first cap).run Tryd.prog w = .ok (.func fn first cap) w := fun _ _ _ _ => rfl
  obtain ⟨R, hR⟩ : ∃ R, modI s.data.toList = R := ⟨_, rfl⟩
  have HR : Hid (R = modI s.data.toList) := hR.symm
  rw [hR]
  obtain ⟨b, hb0⟩ : ∃ b, pathOk 0 s.data.toList = b := ⟨_, rfl⟩
  have HB := Lib.hid hb
  have HA := Lib.hid ha
  have CP : Hid (∀ W, Bad W → Calls Tryd.prog 45 #[.string s, .int .i64 0] W fun e w' => (∃ x, e = .returned x ∧ Err b x) ∧ Gr W w') := fun W hW => by
    have := checkPath_calls s 0 (by omega) ha W hW hs
    rw [hb0] at this; exact this
  have V0 : Hid (∀ W : World, Vars W s ((W.alloc (.cells #[.string s] 9)).alloc (.cells #[.nilIface] 54))) := fun W =>
    ⟨by simp, by simp, by simp, by simp, ((Gr.refl W).alloc _).alloc _⟩
  clear hR hb ha
  cases b with
  | false =>
    obtain rfl : R = false := by rw [HR.out]; unfold modI; rw [hb0]; rfl
    clear HR hb0
    go_enter_defers Tryd.func32, Tryd.ntmps32
    go_wp2_with fail
    have v0 := V0.out w
    refine (CP.out _ (HB.out.keep v0.g)).mono ?_
    rintro e w1 ⟨⟨x, rfl, hx⟩, g1⟩
    obtain ⟨t, a, rfl⟩ : ∃ t a, x = .iface t (.pointer (some a)) := hx
    have VV := Lib.hid (v0.keep g1)
    obtain ⟨c1, c2, c3, c4, c5⟩ := VV.out
    clear g1 v0 V0 c5
    go_wp2
    refine leaves_cons (f := 44) (args := #[.pointer (some ⟨w.heap.size + 1, 0, none⟩), .pointer (some ⟨w.heap.size, 0, none⟩)]) (by simp) (by simp [go_sem]) ?_
    refine (VV.out.door_bad _ _ _).mono ?_
    rintro e u' w'' ⟨rfl, rfl, ⟨T, b, hcell⟩, hg⟩
    simp [Leaves, settle, results, Tryd.results32, go_sem, hcell]
    exact ⟨⟨_, _, rfl⟩, hg⟩
  | true =>
    have HR1 : Hid (R = ((s.data.toList.takeWhile (· != 47)).contains 46 && ((s.data.toList.takeWhile (· != 47)).all (fun c => firstOk c.toNat) && (Pth.splitI s.data.toList).2.2))) := by
      show _ = _; rw [HR.out]; unfold modI; rw [hb0, Bool.true_and]
    have hp : 0 < s.size := by
      rcases Nat.eq_zero_or_pos s.size with h | h
      · obtain rfl := size_zero h
        rw [B_data] at hb0; cases hb0
      · exact h
    obtain ⟨c0, hc0⟩ : ∃ c0 : UInt8, s[0]'hp = c0 := ⟨_, rfl⟩
    have H0 : s.data.toList.head? = some c0 := by rw [head_eq hp, hc0]
    have hsplit := Ver.split_cons_eq 47 s.data.toList
    have hpo : (s.data.toList.head? == some 45 && (0 : Nat) != 2) = false ∧ (Ver.split 47 s.data.toList).all (elemOk 0) = true := by
      unfold pathOk at hb0
      rw [Bool.and_eq_true, Bool.not_eq_true'] at hb0; exact hb0
    have e45 : ((c0.toNat : Int) == 45) = false := ne_nat (d := 45) (fun h : c0 = 45 => by
      have := hpo.1; rw [H0, h] at this; cases this)
    have hfp : s.data.toList.takeWhile (· != 47) ≠ [] := fun h => by
      have := hpo.2
      rw [hsplit, h, List.all_cons, elemOk_nil] at this; cases this
    -- the first part
    have hcut : ∃ i : Nat, (s.extract 0 i).data.toList = s.data.toList.takeWhile (· != 47) ∧ 0 < i ∧ i ≤ s.size ∧ ((idxV [47] s.data.toList = -1 ∧ i = s.size) ∨ idxV [47] s.data.toList = (i : Int)) := by
      unfold idxV
      rw [idx_one]
      have hpos : 0 < (s.data.toList.takeWhile (· != 47)).length := List.length_pos_iff.2 hfp
      have hle := (List.takeWhile_sublist (· != 47) (l := s.data.toList)).length_le
      by_cases h : (47 : UInt8) ∈ s.data.toList
      · rw [if_pos h]
        refine ⟨(s.data.toList.takeWhile (· != 47)).length, ?_, hpos, by rw [Lib.size_eq]; exact hle, .inr rfl⟩
        rw [ext_front]
        exact (List.prefix_iff_eq_take.1 (List.takeWhile_prefix _)).symm
      · rw [if_neg h]
        have hall : s.data.toList.takeWhile (· != 47) = s.data.toList := takeWhile_all _ fun c hc => by
          rw [bne_iff_ne]; rintro rfl; exact h hc
        refine ⟨s.size, ?_, hp, Nat.le_refl _, .inl ⟨rfl, rfl⟩⟩
        rw [ext_front, hall, List.take_of_length_le (by rw [← Lib.size_eq]; omega)]
    obtain ⟨i, hP, hi0, his, hcase⟩ := hcut
    obtain ⟨P, hPe⟩ : ∃ P, s.extract 0 i = P := ⟨_, rfl⟩
    rw [hPe] at hP
    have HPA : Hid (Asc P.data.toList) := by rw [← hPe]; exact HA.out.cut _ _
    have hPs : P.size ≤ s.size := by rw [← hPe]; exact extract_le _ _ _
    rw [← hP] at HR1
    have ZI : Hid (∀ w, Calls Tryd.prog 25 #[.string s, .string ⟨#[47]⟩] w fun e w' => e = .returned (.int .i64 (idxV [47] s.data.toList)) ∧ w = w') := fun w => zzIndex_calls s ⟨#[47]⟩ w hs (by decide) (by decide)
    have ZD : Hid (∀ w, Calls Tryd.prog 25 #[.string P, .string ⟨#[46]⟩] w fun e w' => e = .returned (.int .i64 (idxV [46] P.data.toList)) ∧ w = w') := fun w => zzIndex_calls P ⟨#[46]⟩ w (by omega) (by decide) (by decide)
    have SP : Hid (∀ w, Calls Tryd.prog 48 #[.string s] w fun e w' => e = .returned (splitVal (Pth.splitI s.data.toList)) ∧ Drew w w') := fun w => SplitPathVersion_calls s w hs
    have ei : ((i : Int) == 0) = false := beq_eq_false_iff_ne.2 (by omega)
    obtain ⟨q, hq⟩ : ∃ q, P.data.toList.contains 46 = q := ⟨_, rfl⟩
    have hzd : (q = true → ∃ j : Nat, idxV [46] P.data.toList = (j : Int)) ∧ (q = false → idxV [46] P.data.toList = -1) := by
      unfold idxV
      rw [idx_one]
      constructor
      · intro h
        rw [h, List.contains_iff_mem] at hq
        rw [if_pos hq]; exact ⟨_, rfl⟩
      · intro h
        rw [h] at hq
        have : ¬ (46 : UInt8) ∈ P.data.toList := fun hm => by rw [List.contains_iff_mem.2 hm] at hq; cases hq
        rw [if_neg this]
    rw [hq] at HR1
    obtain ⟨⟨x1, x2, x3⟩, hx⟩ : ∃ x, Pth.splitI s.data.toList = x := ⟨_, rfl⟩
    rw [hx] at SP HR1
    unfold splitVal at SP
    have hi1 : (i : Int) ≤ (s.size : Int) := by omega
    clear HR hb0 hpo hsplit hfp H0 hP hx hq
    rcases hcase with ⟨hidx, rfl⟩ | hidx
    all_goals
      rw [hidx] at ZI
      clear hidx
      cases q with
      | false =>
        obtain rfl : R = false := HR1.out
        have hzv := hzd.2 rfl
        rw [hzv] at ZD
        clear HR1 hzd hzv
        go_enter_defers Tryd.func32, Tryd.ntmps32
        go_wp2_with fail
        have v0 := V0.out w
        refine (CP.out _ (HB.out.keep v0.g)).mono ?_
        rintro e w1 ⟨⟨x, rfl, hx⟩, g1⟩
        obtain rfl : x = .nilIface := hx
        have V1 := Lib.hid (v0.keep g1)
        obtain ⟨c1, c2, c3, c4, c5⟩ := V1.out
        clear g1 v0 V0 c5
        go_wp2_with fail
        refine (ZI.out _).mono ?_
        rintro e w' ⟨rfl, rfl⟩
        go_wp2_with fail
        refine (ZD.out _).mono ?_
        rintro e w' ⟨rfl, rfl⟩
        go_wp2_with fail
        refine (errorsNew_calls _ _).mono ?_
        rintro e w2 ⟨⟨a, rfl⟩, g2⟩
        have VV := Lib.hid (V1.out.keep g2)
        clear c1 c2 c3 c4
        obtain ⟨c1, c2, c3, c4, c5⟩ := VV.out
        clear g2 c5
        go_wp2
        refine leaves_cons (f := 44) (args := #[.pointer (some ⟨w.heap.size + 1, 0, none⟩), .pointer (some ⟨w.heap.size, 0, none⟩)]) (by simp) (by simp [go_sem]) ?_
        refine (VV.out.door_bad _ _ _).mono ?_
        rintro e u' w'' ⟨rfl, rfl, ⟨T, b, hcell⟩, hg⟩
        simp [Leaves, settle, results, Tryd.results32, go_sem, hcell]
        exact ⟨⟨_, _, rfl⟩, hg⟩
      | true =>
        obtain ⟨jd, hzv⟩ := hzd.1 rfl
        rw [hzv] at ZD
        have HR2 : Hid (R = ((P.data.toList.drop 0).all (fun c => firstOk c.toNat) && x3)) := by show _ = _; rw [HR1.out, Bool.true_and]; rfl
        clear HR1 hzd hzv
        go_enter_defers Tryd.func32, Tryd.ntmps32
        go_wp2_with fail
        have v0 := V0.out w
        refine (CP.out _ (HB.out.keep v0.g)).mono ?_
        rintro e w1 ⟨⟨x, rfl, hx⟩, g1⟩
        obtain rfl : x = .nilIface := hx
        have V1 := Lib.hid (v0.keep g1)
        obtain ⟨c1, c2, c3, c4, c5⟩ := V1.out
        clear g1 v0 V0 c5 CP
        go_wp2_with fail
        refine (ZI.out _).mono ?_
        rintro e w' ⟨rfl, rfl⟩
        go_wp2_with fail
        refine (ZD.out _).mono ?_
        rintro e w' ⟨rfl, rfl⟩
        clear ZI ZD
        go_wp2
        go_loopg [6] (P.size + 1) (fun g v6 wr => ∃ k : Nat, P.size < k + g ∧ IterAt wr w1.heap.size P k ∧ Gr w1 wr ∧ Hid (R = ((P.data.toList.drop k).all (fun c => firstOk c.toNat) && x3)))
        case atStart => exact ⟨0, by omega, IterAt.start w1 P, (Gr.refl w1).iter P, HR2⟩
        case round =>
          clear HR2 c1 c2 c3 c4
          obtain ⟨k, hg, hi, hgr, HK⟩ := hrel
          have HI := Lib.hid hi
          have HG := Lib.hid hgr
          by_cases hlt : k < P.size
          · obtain ⟨d, hd⟩ : ∃ d : UInt8, P[k]'hlt = d := ⟨_, rfl⟩
            have hd128 := HPA.out.at k hlt hd
            have hnx : ∀ ty, (Instr.next (.pointer (some ⟨w1.heap.size, 0, none⟩)) true ty).run Tryd.prog wr = .ok (.tuple #[.bool true, .int .i64 k, .int .i32 d.toNat]) (setIter wr w1.heap.size P (k + 1)) := fun ty => by
              have := next_ascii (P := Tryd.prog) hi hlt (by rw [hd]; exact hd128) ty
              rw [hd] at this; exact this
            have hl : k < P.data.toList.length := by rw [← Lib.size_eq]; exact hlt
            have hdd : P.data.toList[k] = d := Option.some.inj ((List.getElem?_eq_getElem hl).symm.trans (byte_at' P k hlt hd))
            have T := List.drop_eq_getElem_cons hl
            rw [hdd] at T
            obtain ⟨f, hf⟩ : ∃ f, firstOk d.toNat = f := ⟨_, rfl⟩
            have HN : Hid (R = (f && (P.data.toList.drop (k + 1)).all (fun c => firstOk c.toNat) && x3)) := by
              show _ = _; rw [HK.out, T, List.all_cons, hf]
            have HF := Lib.hid hf
            have HI2 := Lib.hid (HI.out.set (pos' := k + 1))
            have HG2 := Lib.hid (HG.out.setIter (b := w1.heap.size) (s := P) (pos := k + 1) (Nat.le_refl _))
            clear HK T hdd hl hi hgr HI HG hd hf
            generalize setIter wr w1.heap.size P (k + 1) = W at *
            cases f with
            | true =>
              have HN2 : Hid (R = ((P.data.toList.drop (k + 1)).all (fun c => firstOk c.toNat) && x3)) := by show _ = _; rw [HN.out, Bool.true_and]
              clear HN
              go_wp2_with (first | (go_at_call 47; refine (firstPathOK_calls _ _ HF.out hd128 _).mono ?_; rintro e w' ⟨rfl, rfl⟩))
              go_roundg (gk - 1)
              case measure => omega
              case rel => exact ⟨k + 1, by omega, HI2.out, HG2.out, HN2⟩
            | false =>
              obtain rfl : R = false := by rw [HN.out]; rfl
              clear HN hg
              go_wp2_with (first | (go_at_call 47; refine (firstPathOK_calls _ _ HF.out hd128 _).mono ?_; rintro e w' ⟨rfl, rfl⟩))
              refine (errorsNew_calls _ _).mono ?_
              rintro e w2 ⟨⟨a, rfl⟩, g2⟩
              have VV := Lib.hid ((V1.out.keep HG2.out).keep g2)
              obtain ⟨c1, c2, c3, c4, c5⟩ := VV.out
              clear g2 c5
              go_wp2
              refine leaves_cons (f := 44) (args := #[.pointer (some ⟨w.heap.size + 1, 0, none⟩), .pointer (some ⟨w.heap.size, 0, none⟩)]) (by simp) (by simp [go_sem]) ?_
              refine (VV.out.door_bad _ _ _).mono ?_
              rintro e u' w'' ⟨rfl, rfl, ⟨T, b, hcell⟩, hg⟩
              simp [Leaves, settle, results, Tryd.results32, go_sem, hcell]
              exact ⟨⟨_, _, rfl⟩, hg⟩
          · have hnx : ∀ ty, (Instr.next (.pointer (some ⟨w1.heap.size, 0, none⟩)) true ty).run Tryd.prog wr = .ok (.tuple #[.bool false]) wr := fun ty => next_end hi hlt ty
            obtain rfl : R = x3 := by rw [HK.out, List.drop_eq_nil_of_le (by rw [← Lib.size_eq]; omega)]; rfl
            have V2 := Lib.hid (V1.out.keep HG.out)
            obtain ⟨c1, c2, c3, c4, c5⟩ := V2.out
            clear HK hi hgr hg c5 HI HG
            go_wp2_with fail
            refine (SP.out _).mono ?_
            rintro e w2 ⟨rfl, hd2⟩
            have VV := Lib.hid (V2.out.keep (Gr.of_drew hd2))
            have VW := VV
            clear c1 c2 c3 c4 hd2
            obtain ⟨c1, c2, c3, c4, c5⟩ := VV.out
            clear c5
            cases R with
            | true =>
              go_wp2
              refine leaves_cons (f := 44) (args := #[.pointer (some ⟨w.heap.size + 1, 0, none⟩), .pointer (some ⟨w.heap.size, 0, none⟩)]) (by simp) (by simp [go_sem]) ?_
              refine (VV.out.door_ok _).mono ?_
              rintro e u' w'' ⟨rfl, rfl, hcell, hg⟩
              simp [Leaves, settle, results, Tryd.results32, go_sem, hcell]
              exact ⟨rfl, hg⟩
            | false =>
              clear VV
              go_wp2_with fail
              refine (errorsNew_calls _ _).mono ?_
              rintro e w3 ⟨⟨a, rfl⟩, g3⟩
              have VV := Lib.hid (VW.out.keep g3)
              clear c1 c2 c3 c4
              obtain ⟨c1, c2, c3, c4, c5⟩ := VV.out
              clear g3 c5
              go_wp2
              refine leaves_cons (f := 44) (args := #[.pointer (some ⟨w.heap.size + 1, 0, none⟩), .pointer (some ⟨w.heap.size, 0, none⟩)]) (by simp) (by simp [go_sem]) ?_
              refine (VV.out.door_bad _ _ _).mono ?_
              rintro e u' w'' ⟨rfl, rfl, ⟨T, b, hcell⟩, hg⟩
              simp [Leaves, settle, results, Tryd.results32, go_sem, hcell]
              exact ⟨⟨_, _, rfl⟩, hg⟩
end Go.Proofs.YtppnjkfeefmohaaDoor
