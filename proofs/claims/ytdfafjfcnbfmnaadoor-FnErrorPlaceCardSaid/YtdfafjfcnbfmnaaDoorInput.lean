/- The small methods of the input. -/
import Derived.Test.YtdfafjfcnbfmnaaDoorBase
set_option linter.unusedVariables false
namespace Go.Proofs.YtdfafjfcnbfmnaaDoor
open Go.RowKit

/-- The block of an input: its buffer, its place, the start of its selection; no error. -/
def InpCells (a : Addr) (m c : Nat) (pos start : Nat) (r : Value) : Array Value :=
  #[.slice (some a) m c, .int .i64 pos, .int .i64 start, .nilIface, r]

/-- Block g is an input over the m bytes behind a. -/
def Inp (w : World) (g : Nat) (a : Addr) (m c : Nat) (r : Value) (pos start : Nat) : Prop := Blk w g 64 (InpCells a m c pos start r)

section
variable {w w' : World} {g : Nat} {a : Addr} {m c : Nat} {r : Value} {pos start : Nat}
theorem Inp.c0 (h : Inp w g a m c r pos start) : w.cell? ⟨g, 0, none⟩ = some (.slice (some a) m c) := Blk.cell h 0
theorem Inp.c1 (h : Inp w g a m c r pos start) : w.cell? ⟨g, 1, none⟩ = some (.int .i64 pos) := Blk.cell h 1
theorem Inp.c2 (h : Inp w g a m c r pos start) : w.cell? ⟨g, 2, none⟩ = some (.int .i64 start) := Blk.cell h 2
theorem Inp.c3 (h : Inp w g a m c r pos start) : w.cell? ⟨g, 3, none⟩ = some .nilIface := Blk.cell h 3
theorem Inp.f1 (h : Inp w g a m c r pos start) : w.frozen? ⟨g, 1, none⟩ = false := Blk.frozen h 1
theorem Inp.f2 (h : Inp w g a m c r pos start) : w.frozen? ⟨g, 2, none⟩ = false := Blk.frozen h 2
theorem Inp.drewN (h : Inp w g a m c r pos start) (n : Nat) : Inp (w.drewN n) g a m c r pos start := h
theorem Inp.moved (h : Inp w g a m c r pos start) (q : Nat) : Inp (w.setCell ⟨g, 1, none⟩ (.int .i64 (q : Int))) g a m c r q start := by
  have := Blk.set_ h 1 (.int .i64 (q : Int))
  exact this
theorem Inp.skipped (h : Inp w g a m c r pos start) (q : Nat) : Inp (w.setCell ⟨g, 2, none⟩ (.int .i64 (q : Int))) g a m c r pos q := by
  have := Blk.set_ h 2 (.int .i64 (q : Int))
  exact this
end

set_option maxHeartbeats 400000 in
theorem pos_any (g m c pos start : Nat) (a : Addr) (r : Value) (w : World) (hp : start ≤ pos) (hm : pos ≤ 1000000)
    (h : Inp w g a m c r pos start) :
    Calls Tryd.prog 16 #[.pointer (some ⟨g, 0, none⟩)] w fun e w' => e = .returned (.int .i64 ((pos : Int) - start)) ∧ ∃ n, w' = w.drewN n := by
  have h1 := h.c1
  have h2 := h.c2
  clear h
  go_enter Tryd.func16, Tryd.ntmps16
  go_wp2
  go_quiet (fail)
  go_wp2
  go_ret
  exact ⟨rfl, _, rfl⟩

set_option maxHeartbeats 400000 in
theorem peek_any (g m c pos start k : Nat) (a : Addr) (r : Value) (b : Int) (w : World) (hk : pos + k < m) (hm : m ≤ 1000000)
    (h : Inp w g a m c r pos start) (hb : w.cell? (a.add (k + pos)) = some (.int .u8 b)) :
    Calls Tryd.prog 17 #[.pointer (some ⟨g, 0, none⟩), .int .i64 k] w fun e w' => e = .returned (.int .u8 b) ∧ w = w' := by
  have h0 := h.c0
  have h1 := h.c1
  clear h
  go_enter Tryd.func17, Tryd.ntmps17
  go_wp2
  go_ret
  exact ⟨rfl, rfl⟩

set_option maxHeartbeats 400000 in
theorem move_any (g m c pos start k : Nat) (a : Addr) (r : Value) (w : World) (hk : pos + k ≤ 1000000)
    (h : Inp w g a m c r pos start) :
    Calls Tryd.prog 20 #[.pointer (some ⟨g, 0, none⟩), .int .i64 k] w fun e w' => e = .returned (.tuple #[]) ∧ w.setCell ⟨g, 1, none⟩ (.int .i64 ((pos + k : Nat) : Int)) = w' := by
  have h1 := h.c1
  have f1 := h.f1
  clear h
  go_enter Tryd.func20, Tryd.ntmps20
  go_wp2
  go_end0
  exact ⟨rfl, rfl⟩

set_option maxHeartbeats 400000 in
theorem skip_any (g m c pos start : Nat) (a : Addr) (r : Value) (w : World)
    (h : Inp w g a m c r pos start) :
    Calls Tryd.prog 21 #[.pointer (some ⟨g, 0, none⟩)] w fun e w' => e = .returned (.tuple #[]) ∧ w.setCell ⟨g, 2, none⟩ (.int .i64 (pos : Int)) = w' := by
  have h1 := h.c1
  have h2 := h.c2
  have f2 := h.f2
  clear h
  go_enter Tryd.func21, Tryd.ntmps21
  go_wp2
  go_end0
  exact ⟨rfl, rfl⟩

set_option maxHeartbeats 400000 in
/-- The selection: where it is empty, whatever address. -/
theorem lexeme_any (g m c pos start : Nat) (a : Addr) (r : Value) (w : World) (hp : start ≤ pos) (hm : pos ≤ c) (hc : pos ≤ 1000000)
    (h : Inp w g a m c r pos start) :
    Calls Tryd.prog 22 #[.pointer (some ⟨g, 0, none⟩)] w fun e w' => e = .returned (.slice (some (if pos = start then a else a.add start)) (pos - start) (pos - start)) ∧ ∃ n, w' = w.drewN n := by
  have h0 := h.c0
  have h1 := h.c1
  have h2 := h.c2
  clear h
  go_enter Tryd.func22, Tryd.ntmps22
  go_wp2
  go_quiet (fail)
  go_wp2
  all_goals
    go_ret
    exact ⟨rfl, _, rfl⟩

set_option maxHeartbeats 400000 in
/-- No error before the end. -/
theorem peekErr_in (g m c pos start : Nat) (a : Addr) (r : Value) (w : World) (hm : m ≤ 1000000) (hp : pos + 1 < m)
    (h : Inp w g a m c r pos start) :
    Calls Tryd.prog 28 #[.pointer (some ⟨g, 0, none⟩), .int .i64 0] w fun e w' => e = .returned .nilIface ∧ ∃ n, w' = w.drewN n := by
  have h0 := h.c0
  have h1 := h.c1
  have h3 := h.c3
  clear h
  go_enter Tryd.func28, Tryd.ntmps28
  go_wp2
  go_quiet (fail)
  go_wp2
  go_ret
  exact ⟨rfl, _, rfl⟩
set_option maxHeartbeats 400000 in
/-- The end's error: what io.EOF holds. -/
theorem peekErr_end (g m c pos start : Nat) (a : Addr) (r v : Value) (w : World) (hm : m ≤ 1000000) (hp : m ≤ pos + 1) (hp' : pos ≤ m)
    (h : Inp w g a m c r pos start) (hv : w.cell? ⟨0, 0, none⟩ = some v) :
    Calls Tryd.prog 28 #[.pointer (some ⟨g, 0, none⟩), .int .i64 0] w fun e w' => e = .returned v ∧ ∃ n, w' = w.drewN n := by
  have h0 := h.c0
  have h1 := h.c1
  have h3 := h.c3
  clear h
  go_enter Tryd.func28, Tryd.ntmps28
  go_wp2
  go_quiet (fail)
  go_wp2
  go_ret
  exact ⟨rfl, _, rfl⟩

set_option maxHeartbeats 400000 in
theorem err_in (g m c pos start : Nat) (a : Addr) (r : Value) (w : World) (hm : m ≤ 1000000) (hp : pos + 1 < m)
    (h : Inp w g a m c r pos start) :
    Calls Tryd.prog 19 #[.pointer (some ⟨g, 0, none⟩)] w fun e w' => e = .returned .nilIface ∧ ∃ n, w' = w.drewN n := by
  go_enter Tryd.func19, Tryd.ntmps19
  go_wp2_with (go_at_call 28; refine (peekErr_in g m c pos start a r w hm hp h).mono ?_; rintro e w' ⟨rfl, n, rfl⟩)
  go_ret
  exact ⟨rfl, _, rfl⟩
set_option maxHeartbeats 400000 in
theorem err_end (g m c pos start : Nat) (a : Addr) (r v : Value) (w : World) (hm : m ≤ 1000000) (hp : m ≤ pos + 1) (hp' : pos ≤ m)
    (h : Inp w g a m c r pos start) (hv : w.cell? ⟨0, 0, none⟩ = some v) :
    Calls Tryd.prog 19 #[.pointer (some ⟨g, 0, none⟩)] w fun e w' => e = .returned v ∧ ∃ n, w' = w.drewN n := by
  go_enter Tryd.func19, Tryd.ntmps19
  go_wp2_with (go_at_call 28; refine (peekErr_end g m c pos start a r v w hm hp hp' h hv).mono ?_; rintro e w' ⟨rfl, n, rfl⟩)
  go_ret
  exact ⟨rfl, _, rfl⟩
end Go.Proofs.YtdfafjfcnbfmnaaDoor
