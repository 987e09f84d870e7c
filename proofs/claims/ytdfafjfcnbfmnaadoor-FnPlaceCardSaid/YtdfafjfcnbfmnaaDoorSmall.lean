/- Which plain code points are graphic; a number in five places. -/
import Derived.Test.YtdfafjfcnbfmnaaDoorInput
import Derived.Test.YtdfafjfcnbfmnaaDoorRunes
import Derived.Test.YtdfafjfcnbfmnaaDoorShelf
import Derived.Lib.LaidTab
import Derived.Lib.ItoaLen
import Derived.Deep.LoopGhost
set_option linter.unusedVariables false
namespace Go.Proofs.YtdfafjfcnbfmnaaDoor
open Go.RowKit

/-- The table of the properties tells that the plain code points are graphic. -/
def Graph (w : World) : Prop := ∀ r : Nat, 32 ≤ r → r ≤ 126 → ∃ p : Int, w.cell? ⟨1, r, none⟩ = some (.int .u8 p) ∧ (bits .and .u8 p 144 != 0) = true

set_option maxHeartbeats 400000 in
theorem isGraphic_plain (r : Nat) (w : World) (h0 : 32 ≤ r) (h1 : r ≤ 126) (h : Graph w) :
    Calls Tryd.prog 29 #[.int .i32 (r : Int)] w fun e w' => e = .returned (.bool true) ∧ w = w' := by
  obtain ⟨p, hp, hb⟩ := h r h0 h1
  clear h
  go_enter Tryd.func29, Tryd.ntmps29
  go_wp2
  go_ret
  exact ⟨rfl, rfl⟩

theorem grow_frm (w : World) (n : Nat) (os : Array Obj) : Frm (fun _ => False) w (Sort.grow (w.drewN n) os) := by
  refine ⟨rfl, rfl, rfl, ?_, ?_⟩
  · show w.heap.size ≤ (w.heap ++ os).size
    rw [Array.size_append]
    omega
  · intro k hk _
    show (w.heap ++ os)[k]? = w.heap[k]?
    exact Array.getElem?_append_left hk

set_option maxHeartbeats 400000 in
theorem zzPad5_any (n : Nat) (w : World) (hn : n ≤ 1000000) (htab : Lib.TabIs Tryd.prog w "internal/strconv.uint64pow10" .u64 Lib.pow10Tab) :
    Calls Tryd.prog 30 #[.int .i64 (n : Int)] w fun e w' => (∃ s : ByteArray, e = .returned (.string s) ∧ s.size ≤ 30) ∧ Frm (fun _ => False) w w' := by
  have hlen := Lib.itoa_length_le (n : Int) (by omega) (by omega)
  go_enter Tryd.func30, Tryd.ntmps30
  go_wp2_with (go_at_call 34; refine (Tryd.strconv_Itoa (n : Int) (by omega) (by omega) w htab).mono ?_; rintro e w1 ⟨rfl, k, os, rfl⟩)
  have hf := grow_frm w k os
  generalize Sort.grow (w.drewN k) os = w1 at *
  go_loop [3] (fun v => ∃ s : ByteArray, v = .string s ∧ s.size ≤ 26) (fun v => match v with | .string s => 5 - s.size | _ => 0)
  case atStart => exact ⟨_, rfl, by simp [ByteArray.size]; omega⟩
  case round =>
    obtain ⟨s, rfl, hs⟩ := hrel
    by_cases hlt : s.size < 5
    · go_wp2
      refine ⟨⟨_, rfl, ?_⟩, ?_⟩
      · rw [ByteArray.size_append]
        have : ByteArray.size ⟨#[32]⟩ = 1 := rfl
        omega
      · show 5 - (ByteArray.size (⟨#[32]⟩ ++ s)) < 5 - s.size
        rw [ByteArray.size_append]
        have : ByteArray.size ⟨#[32]⟩ = 1 := rfl
        omega
    · go_wp2
      go_ret
      exact ⟨⟨s, rfl, by omega⟩, hf⟩
end Go.Proofs.YtdfafjfcnbfmnaaDoor
