/- Texts of JSON in plain Lean: tokens, the steps of the parser that is called, chains of them, and how values, members and lists give chains. -/
import Derived.Test.YtanllbfpnpojnaaDoorRows
set_option linter.unusedVariables false
namespace Go.Proofs.YtanllbfpnpojnaaDoor

/-- The byte at a place, 0 past the end. -/
def pk (bs : List UInt8) (i : Nat) : Int := match bs[i]? with
  | some b => (b.toNat : Int)
  | none => 0
theorem pk_lt {bs : List UInt8} {i : Nat} (h : i < bs.length) : pk bs i = ((bs[i]'h).toNat : Int) := by
  unfold pk
  rw [List.getElem?_eq_getElem h]
theorem pk_ge {bs : List UInt8} {i : Nat} (h : bs.length ≤ i) : pk bs i = 0 := by
  unfold pk
  rw [List.getElem?_eq_none h]
theorem pk_nonneg (bs : List UInt8) (i : Nat) : 0 ≤ pk bs i := by
  unfold pk
  split <;> omega
theorem pk_lt_256 (bs : List UInt8) (i : Nat) : pk bs i < 256 := by
  unfold pk
  split
  · have := UInt8.toNat_lt (by assumption); omega
  · omega
theorem lt_of_pk {bs : List UInt8} {i : Nat} (h : pk bs i ≠ 0) : i < bs.length := by
  rcases Nat.lt_or_ge i bs.length with hl | hl
  · exact hl
  · exact absurd (pk_ge hl) h

def isBl (b : Int) : Prop := b = 32 ∨ b = 10 ∨ b = 13 ∨ b = 9
/-- Nothing but blanks stands between two places. -/
def Bls (bs : List UInt8) (i j : Nat) : Prop := i ≤ j ∧ ∀ k, i ≤ k → k < j → isBl (pk bs k)
section
variable {bs : List UInt8} {i j k : Nat}
theorem Bls.refl (bs : List UInt8) (i : Nat) : Bls bs i i := ⟨Nat.le_refl _, fun k h h' => absurd h' (by omega)⟩
theorem Bls.snoc (h : Bls bs i j) (hj : isBl (pk bs j)) : Bls bs i (j + 1) := ⟨by have := h.1; omega, fun k h1 h2 => by
  rcases Nat.lt_or_ge k j with h3 | h3
  · exact h.2 k h1 h3
  · obtain rfl : k = j := by omega
    exact hj⟩
theorem Bls.trans (h : Bls bs i j) (h' : Bls bs j k) : Bls bs i k := ⟨Nat.le_trans h.1 h'.1, fun m h1 h2 => by
  rcases Nat.lt_or_ge m j with h3 | h3
  · exact h.2 m h1 h3
  · exact h'.2 m h3 h2⟩
theorem isBl_pos {b : Int} (h : isBl b) : b ≠ 0 := by unfold isBl at h; omega
theorem Bls.le (h : Bls bs i j) (hi : i ≤ bs.length) : j ≤ bs.length := by
  rcases Nat.lt_or_ge i j with hl | hl
  · have := lt_of_pk (isBl_pos (h.2 (j - 1) (by omega) (by omega)))
    omega
  · have := h.1; omega
end

/-- Digits as far as they go. -/
def Dg (bs : List UInt8) (i j : Nat) : Prop := i ≤ j ∧ (∀ k, i ≤ k → k < j → 48 ≤ pk bs k ∧ pk bs k ≤ 57) ∧ ¬ (48 ≤ pk bs j ∧ pk bs j ≤ 57)

def SignTok (bs : List UInt8) (i a : Nat) : Prop := (pk bs i = 45 ∧ a = i + 1) ∨ (pk bs i ≠ 45 ∧ a = i)
def WholeTok (bs : List UInt8) (a b : Nat) : Prop := (pk bs a = 48 ∧ b = a + 1) ∨ (49 ≤ pk bs a ∧ pk bs a ≤ 57 ∧ a < b ∧ Dg bs a b)
def FracTok (bs : List UInt8) (b c : Nat) : Prop := (pk bs b = 46 ∧ b + 1 < c ∧ Dg bs (b + 1) c) ∨ (pk bs b ≠ 46 ∧ c = b)
def ExpSign (bs : List UInt8) (c d : Nat) : Prop := ((pk bs c = 43 ∨ pk bs c = 45) ∧ d = c + 1) ∨ (pk bs c ≠ 43 ∧ pk bs c ≠ 45 ∧ d = c)
def ExpTok (bs : List UInt8) (c j : Nat) : Prop := (pk bs c ≠ 101 ∧ pk bs c ≠ 69 ∧ j = c) ∨ ((pk bs c = 101 ∨ pk bs c = 69) ∧ ∃ d, ExpSign bs (c + 1) d ∧ d < j ∧ Dg bs d j)
def NumTok (bs : List UInt8) (i j : Nat) : Prop := ∃ a b c, SignTok bs i a ∧ WholeTok bs a b ∧ FracTok bs b c ∧ ExpTok bs c j

/-- Whether the byte at a place stands behind an odd number of backslashes, counted down to i. -/
def esc (bs : List UInt8) (i : Nat) : Nat → Bool
  | 0 => false
  | k + 1 => if i ≤ k ∧ pk bs k = 92 then !(esc bs i k) else false
theorem esc_start (bs : List UInt8) (i : Nat) : esc bs i i = false := by
  cases i with
  | zero => rfl
  | succ k => unfold esc; rw [if_neg (by omega)]
theorem esc_back {bs : List UInt8} {i k : Nat} (hi : i ≤ k) (h : pk bs k = 92) : esc bs i (k + 1) = !(esc bs i k) := by
  rw [esc, if_pos ⟨hi, h⟩]
theorem esc_other {bs : List UInt8} {i k : Nat} (h : pk bs k ≠ 92) : esc bs i (k + 1) = false := by
  rw [esc, if_neg (fun h' => h h'.2)]

/-- A place within a string, behind its quotation mark, that is not behind a backslash. -/
def StrPre (bs : List UInt8) (i k : Nat) : Prop := i < k ∧ pk bs i = 34 ∧ esc bs i k = false ∧ ∀ m, i < m → m < k → pk bs m ≠ 0 ∧ (pk bs m = 34 → esc bs i m = true)
def StrTok (bs : List UInt8) (i j : Nat) : Prop := i + 2 ≤ j ∧ pk bs i = 34 ∧ pk bs (j - 1) = 34 ∧ esc bs i (j - 1) = false ∧ ∀ m, i < m → m < j - 1 → pk bs m ≠ 0 ∧ (pk bs m = 34 → esc bs i m = true)
section
variable {bs : List UInt8} {i k : Nat}
theorem StrPre.start (h : pk bs i = 34) : StrPre bs i (i + 1) :=
  ⟨by omega, h, esc_other (by omega), fun m h1 h2 => absurd h2 (by omega)⟩
theorem StrPre.plain (h : StrPre bs i k) (h0 : pk bs k ≠ 0) (h1 : pk bs k ≠ 34) (h2 : pk bs k ≠ 92) : StrPre bs i (k + 1) :=
  ⟨by have := h.1; omega, h.2.1, esc_other h2, fun m hm hk => by
    rcases Nat.lt_or_ge m k with h3 | h3
    · exact h.2.2.2 m hm h3
    · obtain rfl : m = k := by omega
      exact ⟨h0, fun e => absurd e h1⟩⟩
theorem StrPre.escaped (h : StrPre bs i k) (h0 : pk bs k = 92) (h1 : pk bs (k + 1) ≠ 0) : StrPre bs i (k + 2) := by
  have hi := h.1
  have e1 : esc bs i (k + 1) = true := by rw [esc_back (by omega) h0, h.2.2.1]; rfl
  refine ⟨by omega, h.2.1, ?_, fun m hm hk => ?_⟩
  · by_cases hb : pk bs (k + 1) = 92
    · rw [show k + 2 = (k + 1) + 1 from rfl, esc_back (by omega) hb, e1]; rfl
    · exact esc_other hb
  · rcases Nat.lt_or_ge m k with h3 | h3
    · exact h.2.2.2 m hm h3
    · rcases (by omega : m = k ∨ m = k + 1) with rfl | rfl
      · exact ⟨by omega, fun e => by omega⟩
      · exact ⟨h1, fun _ => e1⟩
theorem StrPre.close (h : StrPre bs i k) (h0 : pk bs k = 34) : StrTok bs i (k + 1) :=
  ⟨by have := h.1; omega, h.2.1, by simpa using h0, by simpa using h.2.2.1, fun m h1 h2 => h.2.2.2 m h1 (by omega)⟩
end

def LitTok (bs : List UInt8) (i j : Nat) : Prop :=
  (pk bs i = 116 ∧ pk bs (i + 1) = 114 ∧ pk bs (i + 2) = 117 ∧ pk bs (i + 3) = 101 ∧ j = i + 4) ∨
  (pk bs i = 102 ∧ pk bs (i + 1) = 97 ∧ pk bs (i + 2) = 108 ∧ pk bs (i + 3) = 115 ∧ pk bs (i + 4) = 101 ∧ j = i + 5) ∨
  (pk bs i = 110 ∧ pk bs (i + 1) = 117 ∧ pk bs (i + 2) = 108 ∧ pk bs (i + 3) = 108 ∧ j = i + 4)

/-- What stands ahead of a token: blanks, and a comma where one is due. -/
def Lead (bs : List UInt8) (i k : Nat) (nc : Bool) (top : Int) : Prop :=
  (nc = false ∧ Bls bs i k) ∨ ((top = 1 ∨ top = 3) ∧ ∃ m, Bls bs i m ∧ pk bs m = 44 ∧ Bls bs (m + 1) k)
theorem Lead.more {bs : List UInt8} {i k k' : Nat} {nc : Bool} {top : Int} (h : Lead bs i k nc top) (hb : Bls bs k k') : Lead bs i k' nc top := by
  rcases h with ⟨h1, h2⟩ | ⟨h1, m, h2, h3, h4⟩
  · exact .inl ⟨h1, h2.trans hb⟩
  · exact .inr ⟨h1, m, h2, h3, h4.trans hb⟩
theorem Lead.le {bs : List UInt8} {i k : Nat} {nc : Bool} {top : Int} (h : Lead bs i k nc top) : i ≤ k := by
  rcases h with ⟨h1, h2⟩ | ⟨h1, m, h2, h3, h4⟩
  · exact h2.1
  · have := h2.1; have := h4.1; omega

def back (x : Int) : Int := if x = 2 then 1 else x

/-- One step of the parser: from a place, a flag and a stack of states to a kind, the piece's first and last place, and the next. -/
inductive Step (bs : List UInt8) : Nat → Bool → List Int → Int → Nat → Nat → Nat → Bool → List Int → Int → Prop
  | openO {i k nc st top} : Lead bs i k nc top → pk bs k = 123 → Step bs i nc (st ++ [top]) 5 k (k + 1) (k + 1) false (st ++ [top]) 1
  | openA {i k nc st top} : Lead bs i k nc top → pk bs k = 91 → Step bs i nc (st ++ [top]) 7 k (k + 1) (k + 1) false (st ++ [top]) 3
  | closeO {i k nc st x} : Bls bs i k → pk bs k = 125 → Step bs i nc ((st ++ [x]) ++ [1]) 6 k (k + 1) (k + 1) true st (back x)
  | closeA {i k nc st x} : Bls bs i k → pk bs k = 93 → Step bs i nc ((st ++ [x]) ++ [3]) 8 k (k + 1) (k + 1) true st (back x)
  | key {i k j m nc st} : Lead bs i k nc 1 → StrTok bs k j → Bls bs j m → pk bs m = 58 → Step bs i nc (st ++ [1]) 4 k j (m + 1) false st 2
  | str {i k j nc st top} : Lead bs i k nc top → top ≠ 1 → StrTok bs k j → Step bs i nc (st ++ [top]) 4 k j j true st (back top)
  | num {i k j nc st top} : Lead bs i k nc top → top ≠ 1 → NumTok bs k j → Step bs i nc (st ++ [top]) 3 k j j true st (back top)
  | lit {i k j nc st top} : Lead bs i k nc top → top ≠ 1 → LitTok bs k j → Step bs i nc (st ++ [top]) 2 k j j true st (back top)

/-- A piece: its kind, its first place and the one behind its last, the state behind it. -/
structure Pc where
  kind : Int
  lo : Nat
  hi : Nat
  st : Int
def Pc.data (bs : List UInt8) (p : Pc) : List UInt8 := (bs.drop p.lo).take (p.hi - p.lo)

inductive Chain (bs : List UInt8) : Nat → Bool → List Int → List Pc → Nat → Bool → List Int → Prop
  | nil {i nc st} : Chain bs i nc st [] i nc st
  | cons {i nc st kind lo hi i1 nc1 st1 t1 ps i2 nc2 st2} : Step bs i nc st kind lo hi i1 nc1 st1 t1 → Chain bs i1 nc1 (st1 ++ [t1]) ps i2 nc2 st2 → Chain bs i nc st (⟨kind, lo, hi, t1⟩ :: ps) i2 nc2 st2
theorem Chain.append {bs : List UInt8} {i i1 i2 : Nat} {nc nc1 nc2 : Bool} {st st1 st2 : List Int} {ps qs : List Pc} (h : Chain bs i nc st ps i1 nc1 st1) (h' : Chain bs i1 nc1 st1 qs i2 nc2 st2) : Chain bs i nc st (ps ++ qs) i2 nc2 st2 := by
  induction h with
  | nil => exact h'
  | cons hs _ ih => exact .cons hs (ih h')
theorem Chain.one {bs : List UInt8} {i lo hi i1 : Nat} {nc nc1 : Bool} {st st1 : List Int} {kind t1 : Int} (h : Step bs i nc st kind lo hi i1 nc1 st1 t1) : Chain bs i nc st [⟨kind, lo, hi, t1⟩] i1 nc1 (st1 ++ [t1]) := .cons h .nil

/-! What is read of a text: values, members, lists. xs: the brackets that stand open. -/
def topV (xs : List UInt8) : Int := match xs.getLast? with
  | none => 0
  | some b => if b = 91 then 3 else 2
def topR (xs : List UInt8) : Int := match xs.getLast? with
  | none => 0
  | some b => if b = 91 then 3 else 1
theorem topV_ne (xs : List UInt8) : topV xs ≠ 1 := by unfold topV; split <;> (try split) <;> decide
theorem back_topV (xs : List UInt8) : back (topV xs) = topR xs := by
  unfold topV topR
  split
  · rfl
  · split <;> rfl
theorem topV_arr (xs : List UInt8) : topV (xs ++ [91]) = 3 := by simp [topV]
theorem topR_arr (xs : List UInt8) : topR (xs ++ [91]) = 3 := by simp [topR]
theorem topV_obj (xs : List UInt8) : topV (xs ++ [123]) = 2 := by simp [topV]
theorem topR_obj (xs : List UInt8) : topR (xs ++ [123]) = 1 := by simp [topR]

def ValOk (bs xs : List UInt8) (a b : Nat) (ps : List Pc) : Prop := ∀ i nc st, Lead bs i a nc (topV xs) → Chain bs i nc (st ++ [topV xs]) ps b true (st ++ [topR xs])
def ElOk (bs : List UInt8) (top : Int) (a b : Nat) (ps : List Pc) : Prop := ∀ i nc st, Lead bs i a nc top → Chain bs i nc (st ++ [top]) ps b true (st ++ [top])
/-- Elements so far, and what may stand ahead of the next one. -/
def ListPre (bs : List UInt8) (top : Int) (a b : Nat) (ps : List Pc) : Prop := ∀ st, ∃ i nc, Lead bs i b nc top ∧ Chain bs a false (st ++ [top]) ps i nc (st ++ [top])
def ListOk (bs : List UInt8) (top : Int) (a b : Nat) (ps : List Pc) : Prop := ∀ st, ∃ i nc, Bls bs i b ∧ Chain bs a false (st ++ [top]) ps i nc (st ++ [top])

section
variable {bs xs : List UInt8} {a b k j m : Nat} {ps qs : List Pc} {top : Int}
theorem ElOk.of_val (h : ValOk bs (xs ++ [91]) a b ps) : ElOk bs 3 a b ps := by
  intro i nc st hl
  have := h i nc st (by rw [topV_arr]; exact hl)
  rwa [topV_arr, topR_arr] at this
theorem ValOk.lit (hb : Bls bs a k) (h : LitTok bs k j) : ValOk bs xs a j [⟨2, k, j, topR xs⟩] := fun i nc st hl => by
  have := Chain.one (Step.lit (st := st) (hl.more hb) (topV_ne xs) h)
  rwa [back_topV] at this
theorem ValOk.num (hb : Bls bs a k) (h : NumTok bs k j) : ValOk bs xs a j [⟨3, k, j, topR xs⟩] := fun i nc st hl => by
  have := Chain.one (Step.num (st := st) (hl.more hb) (topV_ne xs) h)
  rwa [back_topV] at this
theorem ValOk.str (hb : Bls bs a k) (h : StrTok bs k j) : ValOk bs xs a j [⟨4, k, j, topR xs⟩] := fun i nc st hl => by
  have := Chain.one (Step.str (st := st) (hl.more hb) (topV_ne xs) h)
  rwa [back_topV] at this
theorem ValOk.obj (hb : Bls bs a k) (h : pk bs k = 123) (hL : ListOk bs 1 (k + 1) m ps) (hm : pk bs m = 125) :
    ValOk bs xs a (m + 1) (⟨5, k, k + 1, 1⟩ :: (ps ++ [⟨6, m, m + 1, topR xs⟩])) := fun i nc st hl => by
  obtain ⟨i', nc', h1, h2⟩ := hL (st ++ [topV xs])
  have h3 := Chain.one (Step.closeO (st := st) (x := topV xs) (nc := nc') h1 hm)
  rw [back_topV] at h3
  exact .cons (.openO (hl.more hb) h) (h2.append h3)
theorem ValOk.arr (hb : Bls bs a k) (h : pk bs k = 91) (hL : ListOk bs 3 (k + 1) m ps) (hm : pk bs m = 93) :
    ValOk bs xs a (m + 1) (⟨7, k, k + 1, 3⟩ :: (ps ++ [⟨8, m, m + 1, topR xs⟩])) := fun i nc st hl => by
  obtain ⟨i', nc', h1, h2⟩ := hL (st ++ [topV xs])
  have h3 := Chain.one (Step.closeA (st := st) (x := topV xs) (nc := nc') h1 hm)
  rw [back_topV] at h3
  exact .cons (.openA (hl.more hb) h) (h2.append h3)
theorem ElOk.member (h : StrTok bs a j) (hb : Bls bs j m) (hm : pk bs m = 58) (hv : ValOk bs (xs ++ [123]) (m + 1) b ps) :
    ElOk bs 1 a b (⟨4, a, j, 2⟩ :: ps) := fun i nc st hl => by
  have := hv (m + 1) false st (.inl ⟨rfl, Bls.refl _ _⟩)
  rw [topV_obj, topR_obj] at this
  exact .cons (.key hl h hb hm) this
theorem ListPre.start (hb : Bls bs a b) : ListPre bs top a b [] := fun st => ⟨a, false, .inl ⟨rfl, hb⟩, .nil⟩
theorem ListOk.empty (hb : Bls bs a b) : ListOk bs top a b [] := fun st => ⟨a, false, hb, .nil⟩
theorem ListPre.last (h : ListPre bs top a b ps) (he : ElOk bs top b j qs) (hb : Bls bs j m) : ListOk bs top a m (ps ++ qs) := fun st => by
  obtain ⟨i, nc, h1, h2⟩ := h st
  exact ⟨j, true, hb, h2.append (he i nc st h1)⟩
theorem ListPre.next (h : ListPre bs top a b ps) (ht : top = 1 ∨ top = 3) (he : ElOk bs top b j qs) (hb : Bls bs j m) (hm : pk bs m = 44) (hk : Bls bs (m + 1) k) : ListPre bs top a k (ps ++ qs) := fun st => by
  obtain ⟨i, nc, h1, h2⟩ := h st
  exact ⟨j, true, .inr ⟨ht, m, hb, hm, hk⟩, h2.append (he i nc st h1)⟩
end
end Go.Proofs.YtanllbfpnpojnaaDoor
