/- The walks of package module's Sort and of the thin package's Sort. -/
import Derived.Test.YtppnjkfeefmohaaDoorSoA
namespace Go.Proofs.YtppnjkfeefmohaaDoor
open Go.RowKit Str Go.Sort
set_option linter.unusedVariables false

@[reducible] def Vp : Type := {x : ByteArray × ByteArray // x.1.size ≤ 2147483647 ∧ x.2.size ≤ 2147483647}
instance : Inhabited Vp := ⟨⟨(⟨#[]⟩, ⟨#[]⟩), by decide⟩⟩
def encV (x : Vp) : List Value := [.string x.1.1, .string x.1.2]
def keyV (x : ByteArray × ByteArray) : List UInt8 × List UInt8 := (x.1.data.toList, x.2.data.toList)
def cfV (x y : Vp) : Int := Srt.ordM (keyV x.1) (keyV y.1)
theorem cmpV_lays (blk off size : Nat) (w : World) : CmpLays Tryd.prog 23 #[] encV 2 cfV blk off size w :=
  fun m os dk hs x y => less_calls x.1.1 x.1.2 y.1.1 y.1.2 _ (Nat.le_trans x.2.1 (by decide)) (Nat.le_trans x.2.2 (by decide)) (Nat.le_trans y.2.1 (by decide)) (Nat.le_trans y.2.2 (by decide))
theorem hlenV (n : Nat) (W : World) (h : n ≤ 12) : Calls Tryd.prog 36 #[.int .u64 n] W fun e w' => (∃ l : Int, e = .returned (.int .i64 l)) ∧ w' = W :=
  (bits_Len n W (by omega) (by omega)).mono fun _ _ ⟨he, hw⟩ => ⟨⟨_, he⟩, hw⟩

theorem mdSort_calls (blk off cap : Nat) (d : Array Vp) (w : World) (hH : HoldsK encV 2 w blk off d) (hblk : blk < w.heap.size) (h12 : d.size ≤ 12) :
    Calls Tryd.prog 13 #[.slice (some ⟨blk, off, none⟩) d.size cap] w fun e w' => e = .returned (.tuple #[]) ∧ ∃ n os, w' = sortWorldK encV 2 w blk off n (insertionSort (ltOf cfV) d 0 d.size) os := by
  have eg : ∀ args w, (callFunc 23 args).run Tryd.prog w = .ok (.enter 23 args) w := enters_of Tryd.func23 (by kernel_rfl) rfl
  have hcon := AnyQ.slices_SortFunc_small layVer 2 Tryd.isAgg38 Tryd.sizeOf38 encV (fun _ => rfl) (fun x v hv => by simp [encV] at hv; rcases hv with rfl | rfl <;> rfl) cfV 23 #[] blk off cap d w eg (cmpV_lays blk off d.size w) hH hblk h12 hlenV
  change Calls Tryd.prog 22 _ _ _ at hcon
  have HC := Lib.hid hcon
  clear hH hcon
  generalize insertionSort (ltOf cfV) d 0 d.size = r at *
  go_enter Tryd.func13, Tryd.ntmps13
  go_wp2_with fail
  refine HC.out.mono ?_
  rintro e w' ⟨rfl, n, os, rfl⟩
  go_wp2
  go_end0
  exact ⟨rfl, n, os, rfl⟩

theorem mdSort_none (p : Option Addr) (cap : Nat) (w : World) :
    Calls Tryd.prog 13 #[.slice p 0 cap] w fun e w' => e = .returned (.tuple #[]) ∧ w' = w := by
  have hS := Lib.hid fun W => AnyF.slices_SortFunc_none (P := Tryd.prog) (ρ := layVer_ren) { layVer with } p cap (.func (.func 23) #[] #[]) W
  change Hid (∀ W, Calls Tryd.prog 22 _ _ _) at hS
  go_enter Tryd.func13, Tryd.ntmps13
  go_wp2_with fail
  refine (hS.out _).mono ?_
  rintro e w' ⟨rfl, rfl⟩
  go_wp2
  go_end0
  exact ⟨rfl, rfl⟩

theorem sort_belowK {α : Type} [Inhabited α] (enc : α → List Value) (k : Nat) (w : World) (blk off n : Nat) (d : Array α) (os : Array Obj) (B : Nat) (hB : B ≤ blk) (hs : B ≤ w.heap.size) : Below B w (sortWorldK enc k w blk off n d os) := by
  refine ⟨rfl, rfl, rfl, size_sortWorldK_c enc k w blk off n d os, fun k' hk => ?_⟩
  show ((w.heap.modify blk _) ++ os)[k']? = w.heap[k']?
  rw [Array.getElem?_append_left (by simp; omega), Array.getElem?_modify, if_neg (by omega)]

/-- the cells of paths and versions -/
def cellsV (L : List (ByteArray × ByteArray)) : List Value := L.flatMap fun x => [.string x.1, .string x.2]
theorem cellsV_len (L : List (ByteArray × ByteArray)) : (cellsV L).length = L.length * 2 := by
  induction L with
  | nil => rfl
  | cons x l ih => unfold cellsV at *; rw [List.flatMap_cons, List.length_append, ih]; simp; omega
theorem cellsV_snoc (L : List (ByteArray × ByteArray)) (x : ByteArray × ByteArray) : cellsV (L ++ [x]) = cellsV L ++ [.string x.1, .string x.2] := by unfold cellsV; simp
theorem cellsV_at : ∀ (L : List (ByteArray × ByteArray)) (j : Nat) (x : ByteArray × ByteArray), L[j]? = some x → (cellsV L)[j * 2]? = some (.string x.1) ∧ (cellsV L)[j * 2 + 1]? = some (.string x.2)
  | [], j, x, h => by simp at h
  | y :: l, 0, x, h => by simp at h; subst h; exact ⟨rfl, rfl⟩
  | y :: l, j + 1, x, h => by
    have ih := cellsV_at l j x (by simpa using h)
    have e1 : (j + 1) * 2 = j * 2 + 1 + 1 := by omega
    rw [e1]
    exact ih

theorem lieV_owned {W : World} {base : Nat} {e : TypeId} {v : Value} {n : Nat} {L : List (ByteArray × ByteArray)} (hL : L.length = n) (h : W.ownsRow base e 2 v n (cellsV L)) :
    ∃ gb g cap, v = .slice gb n cap ∧ (0 < n → gb = some ⟨g, 0, none⟩ ∧ base ≤ g ∧ g < W.heap.size) ∧ LieV W g 0 L ∧ (0 < n → ∀ j, W.frozen? ⟨g, j, none⟩ = false) := by
  have hlt := h.lt
  rcases h.2 with ⟨rfl, h0⟩ | ⟨g, cap, cur, rfl, hb, hg, _⟩
  · subst h0
    obtain rfl := List.eq_nil_of_length_eq_zero hL
    exact ⟨none, 0, 0, rfl, fun h => absurd h (by omega), ⟨fun h => absurd rfl h, fun j X h => by simp at h⟩, fun h => absurd h (by omega)⟩
  · have hg' := (hlt g rfl).2
    refine ⟨_, g, cap, rfl, fun _ => ⟨rfl, hb, hg'⟩, ⟨fun _ => hg', fun j X hj => ?_⟩, fun _ j => h.frozenAt j⟩
    have hjn : j < n := by rw [← hL]; exact (List.getElem?_eq_some_iff.1 hj).1
    obtain ⟨c1, c2⟩ := cellsV_at L j X hj
    rw [Nat.zero_add]
    exact ⟨by rw [h.cellAt (j * 2) (by omega)]; exact c1, by rw [h.cellAt (j * 2 + 1) (by omega)]; exact c2⟩

/-- fitting pairs as a row -/
def fits (L : List (ByteArray × ByteArray)) (h : ∀ x ∈ L, x.1.size ≤ 2147483647 ∧ x.2.size ≤ 2147483647) : Array Vp := (L.pmap (fun x hx => (⟨x, hx⟩ : Vp)) h).toArray
theorem fits_vals (L : List (ByteArray × ByteArray)) (h : ∀ x ∈ L, x.1.size ≤ 2147483647 ∧ x.2.size ≤ 2147483647) : (fits L h).toList.map (fun x => x.1) = L := by
  have : ∀ (M : List (ByteArray × ByteArray)) (k : ∀ x ∈ M, x.1.size ≤ 2147483647 ∧ x.2.size ≤ 2147483647), M.pmap (fun x hx => (⟨x, hx⟩ : Vp).1) k = M := by
    intro M
    induction M with
    | nil => intro _; rfl
    | cons a M ih => intro k; rw [List.pmap_cons, ih]
  show ((L.pmap (fun x hx => (⟨x, hx⟩ : Vp)) h)).map (fun x => x.1) = L
  rw [List.map_pmap]
  exact this L h
theorem fits_size (L : List (ByteArray × ByteArray)) (h : ∀ x ∈ L, x.1.size ≤ 2147483647 ∧ x.2.size ≤ 2147483647) : (fits L h).size = L.length := by
  have := congrArg List.length (fits_vals L h)
  simpa using this

theorem fits_at (L : List (ByteArray × ByteArray)) (h : ∀ x ∈ L, x.1.size ≤ 2147483647 ∧ x.2.size ≤ 2147483647) (j : Nat) (hj : j < (fits L h).size) : L[j]? = some ((fits L h)[j]!).1 := by
  have e := fits_vals L h
  rw [getElem!_pos _ j hj]
  conv => lhs; rw [← e]
  rw [List.getElem?_map, Array.getElem?_toList, Array.getElem?_eq_getElem hj]
  rfl

theorem holdsK_fits {W : World} {g : Nat} {L : List (ByteArray × ByteArray)} (h : ∀ x ∈ L, x.1.size ≤ 2147483647 ∧ x.2.size ≤ 2147483647) (hl : LieV W g 0 L) (hf : ∀ j, W.frozen? ⟨g, j, none⟩ = false) : HoldsK encV 2 W g 0 (fits L h) := by
  intro t ht
  rw [size_flatK] at ht
  refine ⟨?_, hf _⟩
  rw [get_flatK _ _ _ _ ht, Nat.zero_add]
  have hj : t / 2 < (fits L h).size := by omega
  have hx := fits_at L h (t / 2) hj
  obtain ⟨c1, c2⟩ := hl.2 (t / 2) _ hx
  rw [Nat.zero_add] at c1 c2
  generalize (fits L h)[t / 2]! = z at *
  by_cases e : t % 2 = 0
  · have : t / 2 * 2 = t := by omega
    rw [this] at c1
    rw [e]; exact c1
  · have e1 : t % 2 = 1 := by omega
    have : t / 2 * 2 + 1 = t := by omega
    rw [this] at c2
    rw [e1]; exact c2
end Go.Proofs.YtppnjkfeefmohaaDoor
