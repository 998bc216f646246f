/- Versions told on lists of bytes: how a text is read as one, and how two are compared; that the order is one (it turns round with its arguments and is transitive), and what two versions that compare as equal have in common. Plain Lean, no program in sight. -/
import Derived.Test.YtmhffhokfdbbcaaDoorCmp
namespace Go.Proofs.YtmhffhokfdbbcaaDoor
namespace Ver
open Cmp

/-- a figure -/
def dig (c : UInt8) : Bool := decide (48 ≤ c.toNat ∧ c.toNat ≤ 57)
/-- a sign of an identifier -/
def idc (c : UInt8) : Bool := decide ((48 ≤ c.toNat ∧ c.toNat ≤ 57) ∨ (97 ≤ c.toNat ∧ c.toNat ≤ 122) ∨ (65 ≤ c.toNat ∧ c.toNat ≤ 90) ∨ c.toNat = 45)

/-- the parts of a text between the places of a byte -/
def split (b : UInt8) : List UInt8 → List (List UInt8)
  | [] => [[]]
  | c :: l => if c = b then [] :: split b l else match split b l with
    | [] => [[c]]
    | a :: r => (c :: a) :: r

theorem split_ne (b : UInt8) (l : List UInt8) : split b l ≠ [] := by
  cases l with
  | nil => simp [split]
  | cons c l => simp only [split]; split <;> simp; split <;> simp

/-- a part is figures alone -/
def figs (a : List UInt8) : Bool := !a.isEmpty && a.all dig

/-- an identifier -/
def okId (strict : Bool) (a : List UInt8) : Bool := !a.isEmpty && a.all idc && !(strict && a.all dig && decide (1 < a.length) && a.head? == some 48)

def series (strict : Bool) (l : List UInt8) : Bool := (split 46 l).all (okId strict)

/-- figures at the begin, without noughts ahead; and what is behind them -/
def num (l : List UInt8) : Option (List UInt8 × List UInt8) :=
  let d := l.takeWhile dig
  if d = [] then none else if d.head? = some 48 ∧ 1 < d.length then none else some (d, l.dropWhile dig)

/-- a version's parts -/
structure V where
  major : List UInt8
  minor : List UInt8
  patch : List UInt8
  short : List UInt8
  pre : List UInt8
  build : List UInt8

def zero : List UInt8 := [48]
def short2 : List UInt8 := [46, 48, 46, 48]
def short1 : List UInt8 := [46, 48]

/-- what stands behind the plus -/
def tail (ma mi pa pre l : List UInt8) : Option V :=
  if l = [] then some ⟨ma, mi, pa, [], pre, []⟩
  else if l.head? = some 43 ∧ series false l.tail = true then some ⟨ma, mi, pa, [], pre, l⟩ else none

/-- what stands behind the third number -/
def rest (ma mi pa l : List UInt8) : Option V :=
  if l.head? = some 45 then
    (if series true (l.tail.takeWhile (· != 43)) = true then tail ma mi pa (45 :: l.tail.takeWhile (· != 43)) (l.tail.dropWhile (· != 43)) else none)
  else tail ma mi pa [] l

/-- what stands behind the second number -/
def after2 (ma mi l : List UInt8) : Option V :=
  if l = [] then some ⟨ma, mi, zero, short1, [], []⟩
  else if l.head? = some 46 then (num l.tail).bind fun z => rest ma mi z.1 z.2 else none

/-- what stands behind the first number -/
def after1 (ma l : List UInt8) : Option V :=
  if l = [] then some ⟨ma, zero, zero, short2, [], []⟩
  else if l.head? = some 46 then (num l.tail).bind fun y => after2 ma y.1 y.2 else none

/-- a text as a version -/
def parse (l : List UInt8) : Option V :=
  if l.head? = some 118 then (num l.tail).bind fun x => after1 x.1 x.2 else none

theorem parse_no {l : List UInt8} (h : l.head? ≠ some 118) : parse l = none := by unfold parse; rw [if_neg h]
theorem parse_yes {l : List UInt8} (h : l.head? = some 118) : parse l = (num l.tail).bind fun x => after1 x.1 x.2 := by unfold parse; rw [if_pos h]
theorem after1_nil (ma : List UInt8) : after1 ma [] = some ⟨ma, zero, zero, short2, [], []⟩ := rfl
theorem after1_no {ma l : List UInt8} {c : UInt8} (h : l.head? = some c) (hc : c ≠ 46) : after1 ma l = none := by
  unfold after1; rw [if_neg (by rintro rfl; cases h), h, if_neg (by simpa using hc)]
theorem after1_yes {ma l : List UInt8} (h : l.head? = some 46) : after1 ma l = (num l.tail).bind fun y => after2 ma y.1 y.2 := by
  unfold after1; rw [if_neg (by rintro rfl; cases h), if_pos h]
theorem after2_nil (ma mi : List UInt8) : after2 ma mi [] = some ⟨ma, mi, zero, short1, [], []⟩ := rfl
theorem after2_no {ma mi l : List UInt8} {c : UInt8} (h : l.head? = some c) (hc : c ≠ 46) : after2 ma mi l = none := by
  unfold after2; rw [if_neg (by rintro rfl; cases h), h, if_neg (by simpa using hc)]
theorem after2_yes {ma mi l : List UInt8} (h : l.head? = some 46) : after2 ma mi l = (num l.tail).bind fun z => rest ma mi z.1 z.2 := by
  unfold after2; rw [if_neg (by rintro rfl; cases h), if_pos h]
theorem rest_dash {ma mi pa l : List UInt8} (h : l.head? = some 45) : rest ma mi pa l =
    if series true (l.tail.takeWhile (· != 43)) = true then tail ma mi pa (45 :: l.tail.takeWhile (· != 43)) (l.tail.dropWhile (· != 43)) else none := by unfold rest; rw [if_pos h]
theorem rest_plain {ma mi pa l : List UInt8} (h : l.head? ≠ some 45) : rest ma mi pa l = tail ma mi pa [] l := by unfold rest; rw [if_neg h]
theorem tail_nil (ma mi pa pre : List UInt8) : tail ma mi pa pre [] = some ⟨ma, mi, pa, [], pre, []⟩ := rfl
theorem tail_yes {ma mi pa pre l : List UInt8} (h : l.head? = some 43) (hs : series false l.tail = true) : tail ma mi pa pre l = some ⟨ma, mi, pa, [], pre, l⟩ := by
  unfold tail; rw [if_neg (by rintro rfl; cases h), if_pos ⟨h, hs⟩]
theorem tail_no {ma mi pa pre l : List UInt8} (h : l ≠ []) (hs : ¬ (l.head? = some 43 ∧ series false l.tail = true)) : tail ma mi pa pre l = none := by
  unfold tail; rw [if_neg h, if_neg hs]

/-- texts by their bytes -/
def bytes : List UInt8 → List UInt8 → Int := list fun a b => Cmp.num a.toNat b.toNat

theorem good_bytes : Good bytes := (good_num.on (fun c : UInt8 => (c.toNat : Int))).list

theorem num_eq {a b : Int} (h : Cmp.num a b = 0) : a = b := by
  unfold Cmp.num at h
  split at h
  · omega
  · split at h <;> omega

theorem bytes_eq (l m : List UInt8) (h : bytes l m = 0) : l = m :=
  list_eq (fun a b e => UInt8.toNat_inj.1 (by have := num_eq e; omega)) l m h

/-- figures by length, then by bytes: as numbers, where no noughts are ahead -/
def figures : List UInt8 → List UInt8 → Int := lex (fun a b => Cmp.num a.length b.length) bytes

theorem good_figures : Good figures := (good_num.on (fun l : List UInt8 => (l.length : Int))).lex good_bytes

theorem figures_eq (l m : List UInt8) (h : figures l m = 0) : l = m := by
  unfold figures lex at h
  split at h
  · exact bytes_eq l m h
  · exact absurd h (by assumption)

/-- two identifiers -/
def one (a b : List UInt8) : Int :=
  if figs a = true then (if figs b = true then figures a b else -1) else (if figs b = true then 1 else bytes a b)

theorem good_one : Good one := by
  constructor
  · intro a b; unfold one
    have h1 := good_figures.anti a b
    have h2 := good_bytes.anti a b
    split <;> split <;> omega
  · intro a b d; unfold one
    have h1 := good_figures.trans a b d
    have h2 := good_bytes.trans a b d
    split <;> split <;> split <;> omega

theorem one_eq (a b : List UInt8) (h : one a b = 0) : a = b := by
  unfold one at h
  split at h <;> split at h
  · exact figures_eq a b h
  · omega
  · omega
  · exact bytes_eq a b h

/-- two parts behind a dash (with it): none is the greatest -/
def pre (a b : List UInt8) : Int :=
  if a = [] then (if b = [] then 0 else 1) else if b = [] then -1 else list one (split 46 a.tail) (split 46 b.tail)

theorem good_pre : Good pre := by
  have g := good_one.list
  constructor
  · intro a b; unfold pre
    have h1 := g.anti (split 46 a.tail) (split 46 b.tail)
    split <;> split <;> omega
  · intro a b d; unfold pre
    have h1 := g.trans (split 46 a.tail) (split 46 b.tail) (split 46 d.tail)
    split <;> split <;> split <;> omega

/-- the order of two versions -/
def cmpV : V → V → Int :=
  lex (fun a b => figures a.major b.major) (lex (fun a b => figures a.minor b.minor) (lex (fun a b => figures a.patch b.patch) (fun a b => pre a.pre b.pre)))

theorem good_cmpV : Good cmpV := (good_figures.on _).lex ((good_figures.on _).lex ((good_figures.on _).lex (good_pre.on _)))

/-- the order of two texts as versions: what is none is the least -/
def cmp (l m : List UInt8) : Int := opt cmpV (parse l) (parse m)

theorem good_cmp : Good cmp := good_cmpV.opt.on parse

/-! ### splitting, and putting together -/

/-- the parts, with a byte between them -/
def glue (b : UInt8) : List (List UInt8) → List UInt8
  | [] => []
  | [a] => a
  | a :: x :: r => a ++ b :: glue b (x :: r)

theorem glue_split (b : UInt8) : ∀ l, glue b (split b l) = l
  | [] => rfl
  | c :: l => by
    have ih := glue_split b l
    simp only [split]
    by_cases h : c = b
    · rw [if_pos h]
      cases hs : split b l with
      | nil => exact absurd hs (split_ne b l)
      | cons a r => rw [hs] at ih; simp only [glue, List.nil_append]; rw [ih, h]
    · rw [if_neg h]
      cases hs : split b l with
      | nil => exact absurd hs (split_ne b l)
      | cons a r =>
        rw [hs] at ih
        cases r with
        | nil => simp only [glue] at *; rw [ih]
        | cons x r => simp only [glue, List.cons_append] at *; rw [ih]

theorem split_inj (b : UInt8) {l m : List UInt8} (h : split b l = split b m) : l = m := by
  rw [← glue_split b l, ← glue_split b m, h]

theorem split_cons_eq (b : UInt8) (l : List UInt8) : split b l = l.takeWhile (· != b) :: (match l.dropWhile (· != b) with | [] => [] | _ :: t => split b t) := by
  induction l with
  | nil => rfl
  | cons c l ih =>
    simp only [split]
    by_cases h : c = b
    · subst h; simp
    · rw [if_neg h, ih]
      simp [h]

end Ver
end Go.Proofs.YtmhffhokfdbbcaaDoor
