/- The reference's reader of JSON: the byte that is next, blanks, digits. -/
import Derived.Test.YtanllbfpnpojnaaDoorBase
import Derived.Test.YtanllbfpnpojnaaDoorJson
import Derived.Deep.LoopGhost
set_option linter.unusedVariables false
namespace Go.Proofs.YtanllbfpnpojnaaDoor
open Go.RowKit

/-- A text that lies below B. -/
def LiesB (w : World) (B : Nat) (A : Option Addr) (bs : List UInt8) : Prop :=
  0 < bs.length → ∃ ad : Addr, A = some ad ∧ ad.block < B ∧ ∀ j (hj : j < bs.length), w.cell? (ad.add j) = some (.int .u8 ((bs[j]'hj).toNat : Int))
theorem LiesB.frm {S : Nat → Prop} {w w' : World} {B : Nat} {A : Option Addr} {bs : List UInt8} (h : LiesB w B A bs) (hf : Frm S w w') (hB : B ≤ w.heap.size) (hS : ∀ k, k < B → ¬ S k) : LiesB w' B A bs := fun h0 => by
  obtain ⟨ad, e, hlt, hc⟩ := h h0
  exact ⟨ad, e, hlt, fun j hj => (hf.cell (by rw [block_of_add]; omega) (by rw [block_of_add]; exact hS _ hlt)).trans (hc j hj)⟩

/-- The block of a reader: its text, its place, what it has noted, the brackets that stand open. -/
def RdCells (A : Option Addr) (n c : Nat) (a : Nat) (vo va : Value) : Array Value := #[.slice A n c, .int .i64 (a : Int), vo, va]

/-- The reader at a place; of what was there at first nothing but its block has turned. -/
def Rs (B R : Nat) (A : Option Addr) (c : Nat) (bs : List UInt8) (vo va : Value) (w1 w : World) (a : Nat) : Prop :=
  Blk w R 30 (RdCells A bs.length c a vo va) ∧ LiesB w B A bs ∧ B ≤ R ∧ Frm (fun k => k = R) w1 w

section
variable {B R : Nat} {A : Option Addr} {c : Nat} {bs : List UInt8} {vo va : Value} {w1 w w' : World} {a : Nat}
theorem Rs.c0 (h : Rs B R A c bs vo va w1 w a) : w.cell? ⟨R, 0, none⟩ = some (.slice A bs.length c) := Blk.cell h.1 0
theorem Rs.c1 (h : Rs B R A c bs vo va w1 w a) : w.cell? ⟨R, 1, none⟩ = some (.int .i64 (a : Int)) := Blk.cell h.1 1
theorem Rs.c2 (h : Rs B R A c bs vo va w1 w a) : w.cell? ⟨R, 2, none⟩ = some vo := Blk.cell h.1 2
theorem Rs.c3 (h : Rs B R A c bs vo va w1 w a) : w.cell? ⟨R, 3, none⟩ = some va := Blk.cell h.1 3
theorem Rs.f1 (h : Rs B R A c bs vo va w1 w a) : w.frozen? ⟨R, 1, none⟩ = false := Blk.frozen h.1 1
theorem Rs.drawn (h : Rs B R A c bs vo va w1 w a) (n : Nat) : Rs B R A c bs vo va w1 (w.drewN n) a := ⟨h.1.drewN n, h.2.1, h.2.2.1, h.2.2.2.drewN n⟩
theorem Rs.to (h : Rs B R A c bs vo va w1 w a) (b : Nat) : Rs B R A c bs vo va w1 (w.setCell ⟨R, 1, none⟩ (.int .i64 (b : Int))) b := by
  have hR := h.1.lt
  refine ⟨?_, h.2.1.frm ((Frm.refl (fun k => k = R) w).setCell (p := ⟨R, 1, none⟩) (fun _ => rfl) _) (by have := h.2.2.1; omega) (fun k hk e => by have := h.2.2.1; omega), h.2.2.1, h.2.2.2.setCell (fun _ => rfl) _⟩
  have := Blk.set_ h.1 1 (.int .i64 (b : Int))
  exact this
theorem Rs.inc (h : Rs B R A c bs vo va w1 w a) : Rs B R A c bs vo va w1 (w.setCell ⟨R, 1, none⟩ (.int .i64 ((a : Int) + 1))) (a + 1) := by
  have := h.to (a + 1)
  rw [show ((a + 1 : Nat) : Int) = (a : Int) + 1 by omega] at this
  exact this
theorem Rs.here (h : Rs B R A c bs vo va w1 w a) : Rs B R A c bs vo va w w a := ⟨h.1, h.2.1, h.2.2.1, Frm.refl _ _⟩
theorem Rs.from (h0 : Rs B R A c bs vo va w1 w a) {b : Nat} (h : Rs B R A c bs vo va w w' b) : Rs B R A c bs vo va w1 w' b := ⟨h.1, h.2.1, h.2.2.1, h0.2.2.2.trans h.2.2.2⟩

set_option maxHeartbeats 400000 in
theorem peek_s (h : Rs B R A c bs vo va w1 w a) (hn : bs.length ≤ 2147483647) (ha : a ≤ bs.length + 1) :
    Calls Tryd.prog 18 #[.pointer (some ⟨R, 0, none⟩)] w fun e w' => e = .returned (.int .u8 (pk bs a)) ∧ Rs B R A c bs vo va w1 w' a := by
  have h0 := h.c0
  have h1 := h.c1
  have HS := Lib.hid h
  by_cases hlt : a < bs.length
  · obtain ⟨ad, rfl, hb, hcell⟩ := h.2.1 (by omega)
    have hc := hcell a hlt
    rw [pk_lt hlt]
    generalize (bs[a]'hlt).toNat = b at *
    clear hcell h
    have hlt' : (a : Int) < (bs.length : Int) := by omega
    go_enter Tryd.func18, Tryd.ntmps18
    go_wp2
    go_quiet (fail)
    go_wp2
    go_quiet (fail)
    go_wp2
    go_ret
    exact ⟨rfl, (HS.out.drawn _).drawn _⟩
  · rw [pk_ge (by omega)]
    have hlt' : ¬ (a : Int) < (bs.length : Int) := by omega
    clear h
    go_enter Tryd.func18, Tryd.ntmps18
    go_wp2
    go_quiet (fail)
    go_wp2
    go_ret
    exact ⟨rfl, HS.out.drawn _⟩
end

theorem isDigit_yes (b : Int) (w : World) (h : 48 ≤ b ∧ b ≤ 57) : Calls Tryd.prog 51 #[.int .u8 b] w fun e w' => e = .returned (.bool true) ∧ w = w' := by
  obtain ⟨h1, h2⟩ := h
  go_enter Tryd.func51, Tryd.ntmps51
  go_wp2
  go_ret
  exact ⟨rfl, rfl⟩
theorem isDigit_no (b : Int) (w : World) (h : ¬ (48 ≤ b ∧ b ≤ 57)) : Calls Tryd.prog 51 #[.int .u8 b] w fun e w' => e = .returned (.bool false) ∧ w = w' := by
  by_cases h1 : 48 ≤ b
  · have h2 : ¬ b ≤ 57 := fun h2 => h ⟨h1, h2⟩
    clear h
    go_enter Tryd.func51, Tryd.ntmps51
    go_wp2
    go_ret
    exact ⟨rfl, rfl⟩
  · clear h
    go_enter Tryd.func51, Tryd.ntmps51
    go_wp2
    go_ret
    exact ⟨rfl, rfl⟩

section
variable {B R : Nat} {A : Option Addr} {c : Nat} {bs : List UInt8} {vo va : Value} {w1 w w' : World} {a : Nat}
set_option maxHeartbeats 800000 in
theorem blanks_s (h : Rs B R A c bs vo va w1 w a) (hn : bs.length ≤ 2147483647) (ha : a ≤ bs.length + 1) :
    Calls Tryd.prog 8 #[.pointer (some ⟨R, 0, none⟩)] w fun e w' => e = .returned (.tuple #[]) ∧ ∃ b, Bls bs a b ∧ b ≤ bs.length + 1 ∧ Rs B R A c bs vo va w1 w' b := by
  have HS := Lib.hid h
  clear h
  go_enter Tryd.func8, Tryd.ntmps8
  go_wp2_with (go_at_call 18; refine (peek_s HS.out hn ha).mono ?_; rintro e w' ⟨rfl, hS'⟩)
  go_wp2_with fail
  go_loopg [2] (bs.length + 2 - a) (fun k v2 wr => ∃ b : Nat, b ≤ bs.length + 1 ∧ v2 = .int .u8 (pk bs b) ∧ Hid (k = bs.length + 2 - b) ∧ Hid (Bls bs a b) ∧ Hid (Rs B R A c bs vo va w1 wr b))
  case atStart => exact ⟨a, ha, rfl, rfl, Bls.refl _ _, hS'⟩
  case round =>
    obtain ⟨b, hb, rfl, HK, HB, HR⟩ := hrel
    by_cases hbl : isBl (pk bs b)
    · have hbn := lt_of_pk (isBl_pos hbl)
      have HBL := Lib.hid hbl
      have h1 := HR.out.c1
      have f1 := HR.out.f1
      unfold isBl at hbl
      generalize hx : pk bs b = x at *
      rcases hbl with rfl | rfl | rfl | rfl
      all_goals
        go_wp2_with (go_at_call 18; refine (peek_s HR.out.inc hn (by omega)).mono ?_; rintro e w' ⟨rfl, hS'⟩)
        go_roundg (bs.length + 2 - (b + 1))
        case measure => have := HK.out; omega
        case rel => exact ⟨b + 1, by omega, rfl, rfl, HB.out.snoc (by rw [hx]; exact HBL.out), hS'⟩
    · have HN := Lib.hid hbl
      unfold isBl at hbl
      generalize hx : pk bs b = x at *
      have e1 : (x == 32) = false := by rw [beq_eq_false_iff_ne]; omega
      have e2 : (x == 10) = false := by rw [beq_eq_false_iff_ne]; omega
      have e3 : (x == 13) = false := by rw [beq_eq_false_iff_ne]; omega
      have e4 : (x == 9) = false := by rw [beq_eq_false_iff_ne]; omega
      clear hbl
      go_wp2
      go_end0
      exact ⟨rfl, b, HB.out, hb, HR.out⟩

set_option maxHeartbeats 800000 in
theorem digits_s (h : Rs B R A c bs vo va w1 w a) (hn : bs.length ≤ 2147483647) (ha : a ≤ bs.length + 1) :
    Calls Tryd.prog 42 #[.pointer (some ⟨R, 0, none⟩)] w fun e w' => ∃ b, e = .returned (.bool (decide (a < b))) ∧ Dg bs a b ∧ b ≤ bs.length + 1 ∧ Rs B R A c bs vo va w1 w' b := by
  have HS := Lib.hid h
  have h1 := h.c1
  clear h
  go_enter Tryd.func42, Tryd.ntmps42
  go_wp2_with fail
  go_loopg [] (bs.length + 2 - a) (fun k wr => ∃ b : Nat, a ≤ b ∧ b ≤ bs.length + 1 ∧ Hid (k = bs.length + 2 - b) ∧ Hid (∀ j, a ≤ j → j < b → 48 ≤ pk bs j ∧ pk bs j ≤ 57) ∧ Hid (Rs B R A c bs vo va w1 wr b))
  case atStart => exact ⟨a, Nat.le_refl _, ha, rfl, fun j h1 h2 => absurd h1 (by omega), HS.out⟩
  case round =>
    obtain ⟨b, hab, hb, HK, HB, HR⟩ := hrel
    by_cases hd : 48 ≤ pk bs b ∧ pk bs b ≤ 57
    · have hbn : b < bs.length := lt_of_pk (by omega)
      have HD := Lib.hid hd
      clear hd
      go_wp2_with (first
        | (go_at_call 18; refine (peek_s HR.out hn hb).mono ?_; rintro e w' ⟨rfl, hS'⟩; have g1 := hS'.c1; have gf := hS'.f1)
        | (go_at_call 51; refine (isDigit_yes _ _ HD.out).mono ?_; rintro e w'' ⟨rfl, rfl⟩))
      go_roundg (bs.length + 2 - (b + 1))
      case measure => have := HK.out; omega
      case rel => exact ⟨b + 1, by omega, by omega, rfl, fun j h1 h2 => by
        rcases Nat.lt_or_ge j b with h3 | h3
        · exact HB.out j h1 h3
        · obtain rfl : j = b := by omega
          exact HD.out, hS'.inc⟩
    · have HD := Lib.hid hd
      clear hd
      go_wp2_with (first
        | (go_at_call 18; refine (peek_s HR.out hn hb).mono ?_; rintro e w' ⟨rfl, hS'⟩; have g1 := hS'.c1; have gf := hS'.f1)
        | (go_at_call 51; refine (isDigit_no _ _ HD.out).mono ?_; rintro e w'' ⟨rfl, rfl⟩))
      go_ret
      refine ⟨b, ?_, ⟨hab, HB.out, HD.out⟩, hb, hS'⟩
      simp
end
end Go.Proofs.YtanllbfpnpojnaaDoor
