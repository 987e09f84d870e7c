/- The reference's numbers of JSON. -/
import Derived.Test.YtanllbfpnpojnaaDoorStrings
import Derived.Deep.DeepCutAuto
import Derived.Deep.CutBlock
set_option linter.unusedVariables false
namespace Go.Proofs.YtanllbfpnpojnaaDoor
open Go.RowKit

theorem Dg.le {bs : List UInt8} {i j : Nat} (h : Dg bs i j) (hij : i < j) : j ≤ bs.length := by
  have := h.2.1 (j - 1) (by omega) (by omega)
  have := lt_of_pk (bs := bs) (i := j - 1) (by omega)
  omega

section
variable {B R : Nat} {A : Option Addr} {c : Nat} {bs : List UInt8} {vo va : Value} {w1 w w' : World} {a : Nat}
set_option maxHeartbeats 1600000 in
theorem number_s (h : Rs B R A c bs vo va w1 w a) (hn : bs.length ≤ 2147483647) (ha : a ≤ bs.length + 1) :
    Calls Tryd.prog 26 #[.pointer (some ⟨R, 0, none⟩)] w fun e w' => SaysAt bs (Rs B R A c bs vo va w1) (fun ok b => ok = true → b ≤ bs.length ∧ NumTok bs a b) e w' := by
  have HS := Lib.hid h
  clear h
  go_enter Tryd.func26, Tryd.ntmps26
  go_upto_if 7 with (go_at_call 18; refine (peek_s HS.out hn ha).mono ?_; rintro e w2 ⟨rfl, hS'⟩)
  have g1 := hS'.c1
  have gf := hS'.f1
  go_cut [] (fun wc => ∃ x : Nat, x ≤ bs.length + 1 ∧ Hid (SignTok bs a x) ∧ Hid (Rs B R A c bs vo va w1 wc x))
  case first =>
    by_cases hx : pk bs a = 45
    · have hlt : a < bs.length := lt_of_pk (by omega)
      have HX : Hid (SignTok bs a (a + 1)) := .inl ⟨hx, rfl⟩
      have e1 : (pk bs a == 45) = true := by rw [beq_iff_eq]; exact hx
      clear hx
      go_wp2
      go_meet
      case rel => exact ⟨a + 1, by omega, HX.out, hS'.inc⟩
    · have HX : Hid (SignTok bs a a) := .inr ⟨hx, rfl⟩
      have e1 : (pk bs a == 45) = false := by rw [beq_eq_false_iff_ne]; exact hx
      clear hx
      go_wp2
      go_meet
      case rel => exact ⟨a, ha, HX.out, hS'⟩
  case rest =>
    obtain ⟨x, hx, HX, HSx⟩ := hcut
    go_upto_if 17 with (go_at_call 18; refine (peek_s HSx.out hn hx).mono ?_; rintro e w3 ⟨rfl, hS'⟩)
    have g1 := hS'.c1
    have gf := hS'.f1
    go_cut [] (fun wc => ∃ y : Nat, y ≤ bs.length + 1 ∧ Hid (WholeTok bs x y) ∧ Hid (Rs B R A c bs vo va w1 wc y))
    case first =>
      by_cases h0 : pk bs x = 48
      · have hlt : x < bs.length := lt_of_pk (by omega)
        have HY : Hid (WholeTok bs x (x + 1)) := .inl ⟨h0, rfl⟩
        have e1 : (pk bs x == 48) = true := by rw [beq_iff_eq]; exact h0
        clear h0
        go_wp2
        go_meet
        case rel => exact ⟨x + 1, by omega, HY.out, hS'.inc⟩
      · have H0 : Hid (pk bs x ≠ 48) := h0
        have e1 : (pk bs x == 48) = false := by rw [beq_eq_false_iff_ne]; exact h0
        clear h0
        go_wp2_with (first
          | (go_at_call 42; refine (digits_s (by assumption) hn hx).mono ?_; rintro e w'' ⟨y, rfl, hD, hy, hS''⟩; have HD := Lib.hid hD; clear hD; by_cases hxy : x < y))
        · go_meet
          case rel => exact ⟨y, hy, .inr ⟨by have := HD.out.2.1 x (Nat.le_refl _) hxy; have := H0.out; omega, (HD.out.2.1 x (Nat.le_refl _) hxy).2, hxy, HD.out⟩, hS''⟩
        · go_ret
          exact ⟨false, y, rfl, hy, hS'', fun h => absurd h (by decide)⟩
    case rest =>
      obtain ⟨y, hy, HY, HSy⟩ := hcut
      go_upto_if 30 with (go_at_call 18; refine (peek_s HSy.out hn hy).mono ?_; rintro e w4 ⟨rfl, hS'⟩)
      have g1 := hS'.c1
      have gf := hS'.f1
      go_cut [] (fun wc => ∃ z : Nat, z ≤ bs.length + 1 ∧ Hid (FracTok bs y z) ∧ Hid (Rs B R A c bs vo va w1 wc z))
      case first =>
        by_cases h0 : pk bs y = 46
        · have hlt : y < bs.length := lt_of_pk (by omega)
          have H0 := Lib.hid h0
          have e1 : (pk bs y == 46) = true := by rw [beq_iff_eq]; exact h0
          clear h0
          go_wp2_with (first
            | (go_at_call 42; refine (digits_s (Rs.inc (by assumption)) hn (by omega)).mono ?_; rintro e w'' ⟨z, rfl, hD, hz, hS''⟩; have HD := Lib.hid hD; clear hD; by_cases hxy : y + 1 < z))
          · go_meet
            case rel => exact ⟨z, hz, .inl ⟨H0.out, hxy, HD.out⟩, hS''⟩
          · go_ret
            exact ⟨false, z, rfl, hz, hS'', fun h => absurd h (by decide)⟩
        · have HZ : Hid (FracTok bs y y) := .inr ⟨h0, rfl⟩
          have e1 : (pk bs y == 46) = false := by rw [beq_eq_false_iff_ne]; exact h0
          clear h0
          go_wp2
          go_meet
          case rel => exact ⟨y, hy, HZ.out, hS'⟩
      case rest =>
        obtain ⟨z, hz, HZ, HSz⟩ := hcut
        have HN : Hid (∀ j, ExpTok bs z j → NumTok bs a j) := fun j hj => ⟨x, y, z, HX.out, HY.out, HZ.out, hj⟩
        have hzn : Hid (z ≤ bs.length) := by
          rcases HZ.out with ⟨h1, h2, h3⟩ | ⟨h1, rfl⟩
          · have := h3.2.1 (z - 1) (by omega) (by omega)
            have := lt_of_pk (bs := bs) (i := z - 1) (by omega)
            show z ≤ bs.length
            omega
          · rcases HY.out with ⟨h1, rfl⟩ | ⟨h1, h2, h3, h4⟩
            · exact lt_of_pk (by omega)
            · have := h4.2.1 (z - 1) (by omega) (by omega)
              have := lt_of_pk (bs := bs) (i := z - 1) (by omega)
              show z ≤ bs.length
              omega
        clear HX HY HZ
        by_cases hE : pk bs z = 101 ∨ pk bs z = 69
        · have hlt : z < bs.length := lt_of_pk (by omega)
          generalize hx2 : pk bs z = q at *
          rcases hE with rfl | rfl
          all_goals
            by_cases hs : pk bs (z + 1) = 43 ∨ pk bs (z + 1) = 45
            · have hlt2 : z + 1 < bs.length := lt_of_pk (by omega)
              have HSg : Hid (ExpSign bs (z + 1) (z + 2)) := .inl ⟨hs, rfl⟩
              generalize hx3 : pk bs (z + 1) = q3 at *
              rcases hs with rfl | rfl
              all_goals
                go_wp2_with (first
                  | (go_at_call 18; refine (peek_s (a := z) (by first | exact HSz.out | assumption) hn hz).mono ?_; rintro e w' ⟨rfl, hS'⟩; rw [hx2]; have g1 := hS'.c1; have gf := hS'.f1)
                  | (go_at_call 18; refine (peek_s (a := z + 1) (Rs.inc (by assumption)) hn (by omega)).mono ?_; rintro e w'' ⟨rfl, hS''⟩; rw [hx3]; have g1'' := hS''.c1; have gf'' := hS''.f1)
                  | (go_at_call 42; refine (digits_s (a := z + 2) (Rs.inc (a := z + 1) (by assumption)) hn (by omega)).mono ?_; rintro e w3 ⟨y3, rfl, hD, hy3, hS3⟩; have HD := Lib.hid hD; clear hD))
                go_ret
                exact ⟨_, y3, rfl, hy3, by assumption, fun h => ⟨HD.out.le (by simpa using h), HN.out _ (.inr ⟨by first | exact .inl hx2 | exact .inr hx2, z + 2, HSg.out, by simpa using h, HD.out⟩)⟩⟩
            · have HSg : Hid (ExpSign bs (z + 1) (z + 1)) := .inr ⟨fun h => hs (.inl h), fun h => hs (.inr h), rfl⟩
              generalize hx3 : pk bs (z + 1) = q3 at *
              have d1 : (q3 == 43) = false := by rw [beq_eq_false_iff_ne]; omega
              have d2 : (q3 == 45) = false := by rw [beq_eq_false_iff_ne]; omega
              clear hs
              go_wp2_with (first
                | (go_at_call 18; refine (peek_s (a := z) (by first | exact HSz.out | assumption) hn hz).mono ?_; rintro e w' ⟨rfl, hS'⟩; rw [hx2]; have g1 := hS'.c1; have gf := hS'.f1)
                | (go_at_call 18; refine (peek_s (a := z + 1) (Rs.inc (by assumption)) hn (by omega)).mono ?_; rintro e w'' ⟨rfl, hS''⟩; rw [hx3]; have g1'' := hS''.c1; have gf'' := hS''.f1)
                | (go_at_call 42; refine (digits_s (a := z + 1) (by assumption) hn (by omega)).mono ?_; rintro e w3 ⟨y3, rfl, hD, hy3, hS3⟩; have HD := Lib.hid hD; clear hD))
              go_ret
              exact ⟨_, y3, rfl, hy3, by assumption, fun h => ⟨HD.out.le (by simpa using h), HN.out _ (.inr ⟨by first | exact .inl hx2 | exact .inr hx2, z + 1, HSg.out, by simpa using h, HD.out⟩)⟩⟩
        · have HT : Hid (NumTok bs a z) := HN.out z (.inl ⟨fun h => hE (.inl h), fun h => hE (.inr h), rfl⟩)
          have d1 : (pk bs z == 101) = false := by rw [beq_eq_false_iff_ne]; omega
          have d2 : (pk bs z == 69) = false := by rw [beq_eq_false_iff_ne]; omega
          clear hE
          go_wp2_with (go_at_call 18; refine (peek_s HSz.out hn hz).mono ?_; rintro e w' ⟨rfl, hS'⟩)
          go_ret
          exact ⟨true, z, rfl, hz, hS', fun _ => ⟨hzn.out, HT.out⟩⟩
end
end Go.Proofs.YtanllbfpnpojnaaDoor
