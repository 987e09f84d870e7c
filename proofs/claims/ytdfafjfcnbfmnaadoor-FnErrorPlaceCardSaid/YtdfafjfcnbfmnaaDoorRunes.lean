/- Texts of plain bytes as code points. -/
import Derived.Test.YtdfafjfcnbfmnaaDoorBase
import Derived.Laws.IdiomStrings
import Derived.Laws.Cover4
set_option linter.unusedVariables false
namespace Go.Proofs.YtdfafjfcnbfmnaaDoor
open Go.RowKit

/-- Bytes as cells; code points as cells. -/
def bvals (l : List UInt8) : List Value := l.map fun b => .int .u8 (b.toNat : Int)
def rvals (l : List UInt8) : List Value := l.map fun b => .int .i32 (b.toNat : Int)

theorem decode_ascii (l : List UInt8) (i : Nat) (hi : i < l.length) (h : l[i].toNat < 128) : Utf8.decode ⟨l.toArray⟩ i = (l[i].toNat, 1) := by
  have hg : (ByteArray.get! ⟨l.toArray⟩ (i + 0)).toNat = l[i].toNat := by
    simp [ByteArray.get!, hi]
  unfold Utf8.decode
  simp only [hg]
  rw [if_pos h]

theorem runesFrom_ascii (l : List UInt8) (h : ∀ b ∈ l, b.toNat < 128) : ∀ (bound i : Nat) (acc : Array Value), l.length ≤ i + bound →
    Conv.runesFrom ⟨l.toArray⟩ bound i acc = acc ++ (rvals (l.drop i)).toArray := by
  intro bound
  induction bound with
  | zero =>
    intro i acc hb
    have : l.drop i = [] := List.drop_eq_nil_of_le (by omega)
    simp [Conv.runesFrom, this, rvals]
  | succ bound ih =>
    intro i acc hb
    unfold Conv.runesFrom
    by_cases hi : i < l.length
    · have hs : i < ByteArray.size ⟨l.toArray⟩ := by simpa [ByteArray.size] using hi
      rw [if_pos hs, decode_ascii l i hi (h _ (List.getElem_mem hi))]
      simp only
      rw [ih (i + 1) _ (by omega)]
      have hd : rvals (l.drop i) = .int .i32 (l[i].toNat : Int) :: rvals (l.drop (i + 1)) := by rw [List.drop_eq_getElem_cons hi]; rfl
      rw [hd]
      simp
    · have hs : ¬ i < ByteArray.size ⟨l.toArray⟩ := by simpa [ByteArray.size] using hi
      have : l.drop i = [] := List.drop_eq_nil_of_le (by omega)
      rw [if_neg hs]
      simp [this, rvals]

theorem runes_ascii (l : List UInt8) (h : ∀ b ∈ l, b.toNat < 128) : Conv.runesFrom ⟨l.toArray⟩ (ByteArray.size ⟨l.toArray⟩) 0 #[] = (rvals l).toArray := by
  rw [runesFrom_ascii l h _ 0 #[] (by simp [ByteArray.size])]
  simp

/-- The conversion of a plain text into code points. -/
theorem run_plain_runes (w : World) (l : List UInt8) (h : ∀ b ∈ l, b.toNat < 128) (hl : l.length ≤ 1000000) :
    ∃ (cap : Nat) (cs : Array Value), (convert 9 52 (.string ⟨l.toArray⟩)).run Tryd.prog w = .ok (.slice (some ⟨w.heap.size, 0, none⟩) l.length cap) (w.drew.alloc (.cells cs 21)) ∧ l.length ≤ cap ∧ cap ≤ maxLen ∧ cs.size = cap ∧ ∀ (j : Nat) (u : Value), (rvals l)[j]? = some u → cs[j]? = some u := by
  have hr := runes_ascii l h
  have hsz : (Conv.runesFrom ⟨l.toArray⟩ (ByteArray.size ⟨l.toArray⟩) 0 #[]).size = l.length := by rw [hr]; simp [rvals]
  have hrun := run_runes_of_string (P := Tryd.prog) w 9 52 21 ⟨l.toArray⟩ Tryd.underlying9 Tryd.underlying52 Tryd.underlying21 (by rw [hsz]; omega)
  have hge := grownCap_ge w l.length 0 21
  have hle := grownCap_le_maxLen w l.length 0 21 (by unfold maxLen; omega)
  rw [hsz] at hrun
  refine ⟨_, _, hrun, hge, hle, ?_, ?_⟩
  · simp only [Array.size_append, hsz, Array.size_replicate]
    omega
  · intro j u hu
    rw [hr]
    have hj : j < (rvals l).length := (List.getElem?_eq_some_iff.1 hu).1
    rw [Array.getElem?_append_left (by simpa using hj)]
    simpa using hu
end Go.Proofs.YtdfafjfcnbfmnaaDoor
