/- The program's places: which are asked for, the reader over a text, and the two doors. -/
import Derived.Test.YtdfafjfcnbfmnaaDoorSpec
import Derived.Test.YtdfafjfcnbfmnaaDoorPosition
set_option linter.unusedVariables false
namespace Go.Proofs.YtdfafjfcnbfmnaaDoor
open Go.RowKit

/-- It answers a truth of which Q is so. -/
def SaysBit (Q : Bool → Prop) (e : Ending) : Prop := ∃ ok, e = .returned (.bool ok) ∧ Q ok
/-- What a place that is asked for is. -/
def Asked (bs : List UInt8) (T : Int) (ok : Bool) : Prop := ok = true → bs.length ≤ 5000 ∧ 0 ≤ T ∧ T ≤ bs.length ∧ Apart bs T.toNat

set_option maxHeartbeats 400000 in
theorem isPlace5_any (A : Option Addr) (c : Nat) (bs : List UInt8) (T : Int) (w : World) (hn : bs.length ≤ 2147483647) (hb : Txt w A bs) :
    Calls Tryd.prog 6 #[.slice A bs.length c, .int .i64 T] w fun e w' =>
      SaysBit (Asked bs T) e ∧ w = w' := by
  have HB := Lib.hid hb
  clear hb
  by_cases h5 : 5000 < bs.length
  · have h5' : 5000 < (bs.length : Int) := by omega
    go_enter Tryd.func6, Tryd.ntmps6
    go_wp2
    go_ret
    exact ⟨⟨false, rfl, fun h => absurd h (by decide)⟩, rfl⟩
  · have h5' : ¬ 5000 < (bs.length : Int) := by omega
    by_cases hT0 : T < 0
    · go_enter Tryd.func6, Tryd.ntmps6
      go_wp2
      go_ret
      exact ⟨⟨false, rfl, fun h => absurd h (by decide)⟩, rfl⟩
    · by_cases hTl : (bs.length : Int) < T
      · go_enter Tryd.func6, Tryd.ntmps6
        go_wp2
        go_ret
        exact ⟨⟨false, rfl, fun h => absurd h (by decide)⟩, rfl⟩
      · by_cases hz : T = 0
        · subst hz
          have HQ : Hid (Apart bs 0) := .inl rfl
          go_enter Tryd.func6, Tryd.ntmps6
          go_wp2
          go_ret
          exact ⟨⟨true, rfl, fun _ => ⟨by omega, by omega, by omega, HQ.out⟩⟩, rfl⟩
        · have hz' : (T == 0) = false := by rw [beq_eq_false_iff_ne]; exact hz
          by_cases he : T = bs.length
          · have he' : (T == (bs.length : Int)) = true := by rw [beq_iff_eq]; exact he
            have HQ : Hid (Apart bs T.toNat) := .inr (.inl (by omega))
            clear he hz
            go_enter Tryd.func6, Tryd.ntmps6
            go_wp2
            go_ret
            exact ⟨⟨true, rfl, fun _ => ⟨by omega, by omega, by omega, HQ.out⟩⟩, rfl⟩
          · have he' : (T == (bs.length : Int)) = false := by rw [beq_eq_false_iff_ne]; exact he
            obtain ⟨P, rfl⟩ : ∃ P : Nat, T = (P : Int) + 1 := ⟨(T - 1).toNat, by omega⟩
            have hP : P + 1 < bs.length := by omega
            obtain ⟨ad, rfl, hcell⟩ := HB.out (by omega)
            have hc0 := hcell P (by omega)
            have hc1 : w.cell? { block := ad.block, off := ad.off + (P + 1) } = some (.int .u8 (bs[P + 1].toNat : Int)) := hcell (P + 1) hP
            have HG0 : Hid ((bs.getD P 0).toNat = bs[P].toNat) := by rw [getD_at (by omega)]; exact rfl
            have HG1 : Hid ((bs.getD (P + 1) 0).toNat = bs[P + 1].toNat) := by rw [getD_at (by omega)]; exact rfl
            generalize bs[P].toNat = b0 at *
            generalize bs[P + 1].toNat = b1 at *
            have HAP : Hid (¬ (b0 = 13 ∧ b1 = 10) → Apart bs (P + 1)) := fun h => .inr (.inr (by
              rw [Nat.add_sub_cancel, HG0.out, HG1.out]
              exact h))
            have hadd : (P : Int) + 1 - 1 = P := by omega
            clear hcell he hz
            by_cases h13 : b0 = 13
            · have h13' : (b0 : Int) = 13 := by omega
              by_cases h10 : b1 = 10
              · have h10' : ((b1 : Int) == 10) = true := by rw [beq_iff_eq]; omega
                clear h13 h10
                go_enter Tryd.func6, Tryd.ntmps6
                go_wp2
                go_ret
                exact ⟨⟨_, rfl, fun h => absurd h (by simp [bne, h10'])⟩, rfl⟩
              · have h10' : ((b1 : Int) == 10) = false := by rw [beq_eq_false_iff_ne]; omega
                have HQ := Lib.hid (HAP.out (fun h => h10 h.2))
                clear h13 h10
                go_enter Tryd.func6, Tryd.ntmps6
                go_wp2
                go_ret
                exact ⟨⟨_, rfl, fun _ => ⟨by omega, by omega, by omega, HQ.out⟩⟩, rfl⟩
            · have h13' : ¬ (b0 : Int) = 13 := by omega
              have HQ := Lib.hid (HAP.out (fun h => h13 h.1))
              clear h13
              go_enter Tryd.func6, Tryd.ntmps6
              go_wp2
              go_ret
              exact ⟨⟨_, rfl, fun _ => ⟨by omega, by omega, by omega, HQ.out⟩⟩, rfl⟩

theorem isDigit_any (b : Nat) (w : World) : Calls Tryd.prog 24 #[.int .u8 (b : Int)] w fun e w' => SaysBit (fun _ => True) e ∧ w = w' := by
  by_cases h1 : 48 ≤ (b : Int)
  · by_cases h2 : (b : Int) ≤ 57
    · go_enter Tryd.func24, Tryd.ntmps24
      go_wp2
      go_ret
      exact ⟨⟨_, rfl, trivial⟩, rfl⟩
    · go_enter Tryd.func24, Tryd.ntmps24
      go_wp2
      go_ret
      exact ⟨⟨_, rfl, trivial⟩, rfl⟩
  · go_enter Tryd.func24, Tryd.ntmps24
    go_wp2
    go_ret
    exact ⟨⟨_, rfl, trivial⟩, rfl⟩
set_option maxHeartbeats 800000 in
theorem word_any (A : Option Addr) (c : Nat) (bs : List UInt8) (w : World) (hn : bs.length ≤ 2147483647) (hb : Txt w A bs) :
    Calls Tryd.prog 12 #[.slice A bs.length c] w fun e w' => SaysBit (fun _ => True) e ∧ w = w' := by
  have HB := Lib.hid hb
  clear hb
  go_enter Tryd.func12, Tryd.ntmps12
  go_wp2_with fail
  go_loop [7] (fun v => ∃ i : Nat, i ≤ bs.length ∧ v = .int .i64 (i : Int)) (fun v => bs.length - (intOf v).toNat)
  case atStart => exact ⟨0, Nat.zero_le _, rfl⟩
  case round =>
    obtain ⟨i, hi, rfl⟩ := hrel
    by_cases hlt : i < bs.length
    · obtain ⟨ad, rfl, hcell⟩ := HB.out (by omega)
      have hc0 := hcell i hlt
      generalize bs[i].toNat = b0 at *
      clear hcell
      have HEND : Hid ((∃ k : Nat, k ≤ bs.length ∧ Value.int .i64 ((i : Int) + 1) = .int .i64 (k : Int)) ∧ bs.length - (intOf (Value.int .i64 ((i : Int) + 1))).toNat < bs.length - (intOf (Value.int .i64 (i : Int))).toNat) :=
        ⟨⟨i + 1, hlt, by simp⟩, by simp only [intOf]; omega⟩
      by_cases h1 : 97 ≤ (b0 : Int)
      · by_cases h2 : (b0 : Int) ≤ 122
        · go_wp2
          exact HEND.out
        · go_wp2_with (go_at_call 24; refine (isDigit_any b0 w).mono ?_; rintro e w1 ⟨⟨ok, rfl, _⟩, rfl⟩)
          all_goals first | exact HEND.out | (go_ret; exact ⟨⟨_, rfl, trivial⟩, rfl⟩)
      · go_wp2_with (go_at_call 24; refine (isDigit_any b0 w).mono ?_; rintro e w1 ⟨⟨ok, rfl, _⟩, rfl⟩)
        all_goals first | exact HEND.out | (go_ret; exact ⟨⟨_, rfl, trivial⟩, rfl⟩)
    · by_cases h0 : 0 < (bs.length : Int)
      · by_cases h3 : (bs.length : Int) ≤ 30
        · go_wp2
          go_ret
          exact ⟨⟨_, rfl, trivial⟩, rfl⟩
        · go_wp2
          go_ret
          exact ⟨⟨_, rfl, trivial⟩, rfl⟩
      · go_wp2
        go_ret
        exact ⟨⟨_, rfl, trivial⟩, rfl⟩

theorem isWord_any (A : Option Addr) (c : Nat) (bs : List UInt8) (w : World) (hn : bs.length ≤ 2147483647) (hb : Txt w A bs) :
    Calls Tryd.prog 8 #[.slice A bs.length c] w fun e w' => SaysBit (fun _ => True) e ∧ w = w' := by
  go_enter Tryd.func8, Tryd.ntmps8
  go_wp2_with (go_at_call 12; refine (word_any A c bs w hn hb).mono ?_; rintro e w1 ⟨⟨ok, rfl, _⟩, rfl⟩)
  go_ret
  exact ⟨⟨_, rfl, trivial⟩, rfl⟩

theorem newReader_any (A : Option Addr) (n c : Nat) (w : World) :
    Calls Tryd.prog 11 #[.slice A n c] w fun e w' => e = .returned (.pointer (some ⟨w.heap.size, 0, none⟩)) ∧ w' = w.alloc (.cells #[.slice A n c, .int .i64 0, .int .i64 (-1)] 56) := by
  go_enter Tryd.func11, Tryd.ntmps11
  go_wp2
  go_ret
  exact ⟨rfl, rfl⟩
end Go.Proofs.YtdfafjfcnbfmnaaDoor
