/- Lines and columns of a text, by its bytes. -/
import Derived.Test.YtdfafjfcnbfmnaaDoorBase
set_option linter.unusedVariables false
namespace Go.Proofs.YtdfafjfcnbfmnaaDoor

/-- A line ends at place i. -/
def nlAt (bs : List UInt8) (i : Nat) : Bool := (bs.getD i 0).toNat == 10 || (bs.getD i 0).toNat == 13 && (decide (i + 1 = bs.length) || (bs.getD (i + 1) 0).toNat != 10)
/-- The line and the column behind the first P bytes. -/
def lcAt (bs : List UInt8) : Nat → Nat × Nat
  | 0 => (1, 1)
  | P + 1 => if nlAt bs P then ((lcAt bs P).1 + 1, 1) else ((lcAt bs P).1, (lcAt bs P).2 + 1)

theorem lcAt_le (bs : List UInt8) : ∀ P, 1 ≤ (lcAt bs P).1 ∧ (lcAt bs P).1 ≤ P + 1 ∧ 1 ≤ (lcAt bs P).2 ∧ (lcAt bs P).2 ≤ P + 1
  | 0 => by simp [lcAt]
  | P + 1 => by
    obtain ⟨h1, h2, h3, h4⟩ := lcAt_le bs P
    unfold lcAt
    split
    · exact ⟨by omega, by simp only; omega, by omega, by simp only; omega⟩
    · exact ⟨by omega, by simp only; omega, by omega, by simp only; omega⟩

theorem lcAt_nl {bs : List UInt8} {P : Nat} (h : nlAt bs P = true) : lcAt bs (P + 1) = ((lcAt bs P).1 + 1, 1) := by
  show (if nlAt bs P then _ else _) = _
  rw [if_pos h]
theorem lcAt_no {bs : List UInt8} {P : Nat} (h : nlAt bs P = false) : lcAt bs (P + 1) = ((lcAt bs P).1, (lcAt bs P).2 + 1) := by
  show (if nlAt bs P then _ else _) = _
  rw [if_neg (by rw [h]; decide)]

/-- A place that is not between a carriage return and a line feed. -/
def Apart (bs : List UInt8) (P : Nat) : Prop := P = 0 ∨ P = bs.length ∨ ¬ ((bs.getD (P - 1) 0).toNat = 13 ∧ (bs.getD P 0).toNat = 10)

theorem nlAt_lf {bs : List UInt8} {P : Nat} (h : (bs.getD P 0).toNat = 10) : nlAt bs P = true := by
  unfold nlAt
  rw [h]
  rfl
theorem nlAt_cr {bs : List UInt8} {P : Nat} (h : (bs.getD P 0).toNat = 13) (h2 : ¬ (P + 1 < bs.length ∧ (bs.getD (P + 1) 0).toNat = 10)) (hP : P < bs.length) : nlAt bs P = true := by
  unfold nlAt
  rw [h]
  simp
  by_cases h3 : P + 1 = bs.length
  · exact .inl h3
  · refine .inr fun h4 => h2 ⟨by omega, ?_⟩
    simpa using h4
theorem nlAt_crlf {bs : List UInt8} {P : Nat} (h : (bs.getD P 0).toNat = 13) (h1 : P + 1 < bs.length) (h2 : (bs.getD (P + 1) 0).toNat = 10) : nlAt bs P = false := by
  have h2' : (bs[P + 1]?.getD 0).toNat = 10 := by simpa using h2
  have h' : (bs[P]?.getD 0).toNat = 13 := by simpa using h
  simp [nlAt, h', h2']
  omega
theorem nlAt_plain {bs : List UInt8} {P : Nat} (h : (bs.getD P 0).toNat ≠ 10) (h1 : (bs.getD P 0).toNat ≠ 13) : nlAt bs P = false := by
  have h2' : (bs[P]?.getD 0).toNat ≠ 10 := by simpa using h
  have h' : (bs[P]?.getD 0).toNat ≠ 13 := by simpa using h1
  simp [nlAt, h', h2']
end Go.Proofs.YtdfafjfcnbfmnaaDoor
