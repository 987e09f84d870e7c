/- The parser's tokens: blanks, numbers, words, strings. -/
import Derived.Test.YtanllbfpnpojnaaDoorInput
import Derived.Test.YtanllbfpnpojnaaDoorParse
import Derived.Deep.CutRange
set_option linter.unusedVariables false
namespace Go.Proofs.YtanllbfpnpojnaaDoor
open Go.RowKit

section
variable {B gp gi gb c : Nat} {r : Value} {bs : List UInt8} {w w' : World} {pos start p' s' i j : Nat} {nc : Bool} {st : List Int} {sv : Value}

theorem peek0_p (h : Ps B gp gi gb c r bs w pos start nc st sv) (hj : pos ≤ bs.length) (hn : bs.length ≤ 5000) :
    Calls Tryd.prog 31 #[.pointer (some ⟨gi, 0, none⟩), .int .i64 0] w fun e w' => e = .returned (.int .u8 (pk bs pos)) ∧ w = w' := peek_p 0 rfl h hj hn

set_option maxHeartbeats 800000 in
theorem white_p (k : Nat) (h : Ps B gp gi gb c r bs w pos start nc st sv) (hB : Bls bs pos k) (hk : ¬ isBl (pk bs k)) (hkn : k ≤ bs.length) (hn : bs.length ≤ 5000) :
    Calls Tryd.prog 30 #[.pointer (some ⟨gp, 0, none⟩)] w fun e w' => e = .returned (.tuple #[]) ∧ Ps B gp gi gb c r bs w' k start nc st sv ∧ PF B w w' := by
  have HP := Lib.hid h
  have HB := Lib.hid hB
  have hle : pos ≤ k := hB.1
  have HN := Lib.hid hk
  clear h hB hk
  go_enter Tryd.func30, Tryd.ntmps30
  go_wp2_with fail
  go_loopg [2] (k + 1 - pos) (fun g v2 wr => ∃ b : Nat, pos ≤ b ∧ b ≤ k ∧ Hid (g = k + 1 - b) ∧ Hid (Ps B gp gi gb c r bs wr b start nc st sv) ∧ Hid (PF B w wr))
  case atStart => exact ⟨pos, Nat.le_refl _, hle, rfl, HP.out, PF.refl _ _⟩
  case round =>
    obtain ⟨b, hb1, hb2, HK, HPb, HFb⟩ := hrel
    have qb := HPb.out.p0
    by_cases hlt : b < k
    · have hbl := HB.out.2 b hb1 hlt
      unfold isBl at hbl
      rcases hbl with hx | hx | hx | hx
      all_goals
        go_wp2_with fail
        refine (peek0_p HPb.out (by omega) hn).mono ?_
        rintro e wq ⟨rfl, rfl⟩
        rw [hx]
        dsimp only
        go_wp2_with fail
        refine (move_p 1 rfl HPb.out (by omega) hn (by decide)).mono ?_
        rintro e wL ⟨rfl, hPL, hFL⟩
        have HPL := Lib.hid hPL
        have HFL := Lib.hid (HFb.out.trans hFL)
        have qL := hPL.p0
        clear hPL hFL
        dsimp only
        go_wp2_with fail
        go_roundg (k + 1 - (b + 1))
        case measure => have := HK.out; omega
        case rel => exact ⟨b + 1, by omega, by omega, rfl, HPL.out, HFL.out⟩
    · have hbe : b = k := by omega
      subst hbe
      have hx := HN.out
      unfold isBl at hx
      have e1 : (pk bs b != 32) = true := bne_iff_ne.2 (fun h => hx (.inl h))
      have e2 : (pk bs b != 10) = true := bne_iff_ne.2 (fun h => hx (.inr (.inl h)))
      have e3 : (pk bs b != 13) = true := bne_iff_ne.2 (fun h => hx (.inr (.inr (.inl h))))
      have e4 : (pk bs b != 9) = true := bne_iff_ne.2 (fun h => hx (.inr (.inr (.inr h))))
      clear hx
      go_wp2_with fail
      refine (peek0_p HPb.out (by omega) hn).mono ?_
      rintro e wq ⟨rfl, rfl⟩
      dsimp only
      go_wp2
      go_end0
      exact ⟨rfl, HPb.out, HFb.out⟩

set_option maxRecDepth 100000 in
set_option maxHeartbeats 3200000 in
theorem number_p (h : Ps B gp gi gb c r bs w i start nc st sv) (hT : NumTok bs i j) (hs : start ≤ i) (hjn : j ≤ bs.length) (hn : bs.length ≤ 5000) :
    Calls Tryd.prog 38 #[.pointer (some ⟨gp, 0, none⟩)] w fun e w' => e = .returned (.bool true) ∧ Ps B gp gi gb c r bs w' j start nc st sv ∧ PF B w w' := by
  obtain ⟨x, y, z, h1, h2, h3, h4⟩ := hT
  have a1 : i ≤ x := by rcases h1 with ⟨_, h⟩ | ⟨_, h⟩ <;> omega
  have a2 : x < y := by rcases h2 with ⟨_, h⟩ | ⟨_, _, h, _⟩ <;> omega
  have a3 : y ≤ z := by rcases h3 with ⟨_, h, _⟩ | ⟨_, h⟩ <;> omega
  have a4 : z ≤ j := by
    rcases h4 with ⟨_, _, h⟩ | ⟨_, d, hs, h, _⟩
    · omega
    · rcases hs with ⟨_, hs⟩ | ⟨_, _, hs⟩ <;> omega
  have HP0 := Lib.hid h
  have H1 := Lib.hid h1
  have H2 := Lib.hid h2
  have H3 := Lib.hid h3
  have H4 := Lib.hid h4
  have q0 := h.p0
  clear h h1 h2 h3 h4
  go_enter Tryd.func38, Tryd.ntmps38
  go_wp2_with fail
  refine (pos_p HP0.out hs (by omega) hn).mono ?_
  rintro e w1 ⟨rfl, hP1, hF1⟩
  have HP1 := Lib.hid hP1
  have HF1 := Lib.hid hF1
  have q1 := hP1.p0
  clear hP1 hF1 q0
  dsimp only
  go_upto_if 23 with (go_at_call 31; refine (peek0_p HP1.out (by omega) hn).mono ?_; rintro e wq ⟨rfl, rfl⟩)
  go_cut [] from 13 to 28 (fun wc => Hid (Ps B gp gi gb c r bs wc x start nc st sv) ∧ Hid (PF B w wc))
  case first =>
    rcases H1.out with ⟨hx, rfl⟩ | ⟨hx, rfl⟩
    · have e1 : (pk bs i == 45) = true := by rw [beq_iff_eq]; exact hx
      clear hx
      go_wp2_with fail
      refine (move_p 1 rfl HP1.out (by omega) hn (by decide)).mono ?_
      rintro e w2 ⟨rfl, hP2, hF2⟩
      have HP2 := Lib.hid hP2
      have HF2 := Lib.hid (HF1.out.trans hF2)
      have q2 := hP2.p0
      clear hP2 hF2
      dsimp only
      go_wp2_with fail
      go_meet
      case rel => exact ⟨HP2.out, HF2.out⟩
    · have e1 : (pk bs x == 45) = false := by rw [beq_eq_false_iff_ne]; exact hx
      clear hx
      go_wp2_with fail
      go_meet
      case rel => exact ⟨HP1.out, HF1.out⟩
  case rest =>
    obtain ⟨HP3, HF3⟩ := hcut
    have q3 := HP3.out.p0
    clear HP1 HF1 q1
    go_upto_region 5 with (go_at_call 31; refine (peek0_p HP3.out (by omega) hn).mono ?_; rintro e wq ⟨rfl, rfl⟩)
    go_cut [39] from 29 to 38 (fun v39 wc => ∃ bw : Bool, v39 = .bool bw ∧ Hid ((bw = true → 49 ≤ pk bs x ∧ pk bs x ≤ 57 ∧ Dg bs x y) ∧ (bw = false → pk bs x = 48 ∧ y = x + 1)) ∧ Hid (Ps B gp gi gb c r bs wc x start nc st sv) ∧ Hid (PF B w wc))
    case first =>
      rcases H2.out with ⟨hx, hy⟩ | ⟨hx1, hx2, _, hD⟩
      · have e1 : ¬ 49 ≤ pk bs x := by omega
        have HX := Lib.hid hx
        clear hx
        go_wp2_with fail
        go_meet
        case rel => exact ⟨false, rfl, ⟨fun h => absurd h (by decide), fun _ => ⟨HX.out, hy⟩⟩, HP3, HF3⟩
      · have HX := Lib.hid (And.intro hx1 hx2)
        have HDg := Lib.hid hD
        clear hD
        go_wp2_with fail
        go_meet
        case rel => exact ⟨true, rfl, ⟨fun _ => ⟨HX.out.1, HX.out.2, HDg.out⟩, fun h => absurd h (by decide)⟩, HP3, HF3⟩
    case rest =>
      obtain ⟨bw, rfl, HBW, HP33, HF33⟩ := hcut
      clear HP3 HF3 q3 H2
      have q33 := HP33.out.p0
      go_upto_if 39 with (fail)
      go_cut [5] from 29 to 68 (fun v5 wc => Hid (Ps B gp gi gb c r bs wc y start nc st sv) ∧ Hid (PF B w wc))
      case first =>
        cases bw
        · obtain ⟨hx, hy⟩ := HBW.out.2 rfl
          have hx' : pk bs x = 48 := hx
          clear hx HBW
          go_wp2_with fail
          refine (move_p 1 rfl HP33.out (by omega) hn (by decide)).mono ?_
          rintro e w4 ⟨rfl, hP4, hF4⟩
          have HP4 := Lib.hid hP4
          have HF4 := Lib.hid (HF33.out.trans hF4)
          have q4 := hP4.p0
          clear hP4 hF4
          dsimp only
          subst hy
          go_wp2_with fail
          go_meet
          case rel => exact ⟨HP4.out, HF4.out⟩
        · obtain ⟨hx1, hx2, hD⟩ := HBW.out.1 rfl
          have HD := Lib.hid hD
          clear hD HBW
          go_wp2_with fail
          refine (move_p 1 rfl HP33.out (by omega) hn (by decide)).mono ?_
          rintro e w4 ⟨rfl, hP4, hF4⟩
          have HP4 := Lib.hid hP4
          have HF4 := Lib.hid (HF33.out.trans hF4)
          have q4 := hP4.p0
          clear hP4 hF4
          dsimp only
          go_wp2_with fail
          go_loopg [5] (y + 1 - (x + 1)) (fun g v5 wr => ∃ b : Nat, (x + 1) ≤ b ∧ b ≤ y ∧ Hid (g = y + 1 - b) ∧ Hid (Ps B gp gi gb c r bs wr b start nc st sv) ∧ Hid (PF B w wr))
          case atStart => exact ⟨(x + 1), Nat.le_refl _, by omega, rfl, HP4.out, HF4.out⟩
          case round =>
            obtain ⟨b, hxb, hby, HK, HPb, HFb⟩ := hrel
            have qb := HPb.out.p0
            by_cases hlt : b < y
            · obtain ⟨d1, d2⟩ := HD.out.2.1 b (by omega) hlt
              have d1' : ¬ pk bs b < 48 := by omega
              have d2' : ¬ 57 < pk bs b := by omega
              clear d1 d2
              go_wp2_with fail
              refine (peek0_p HPb.out (by omega) hn).mono ?_
              rintro e wq ⟨rfl, rfl⟩
              dsimp only
              go_wp2_with fail
              refine (move_p 1 rfl HPb.out (by omega) hn (by decide)).mono ?_
              rintro e wLw ⟨rfl, hPLw, hFLw⟩
              have HPLw := Lib.hid hPLw
              have HFLw := Lib.hid (HFb.out.trans hFLw)
              have qLw := hPLw.p0
              clear hPLw hFLw
              dsimp only
              go_wp2_with fail
              go_roundg (y + 1 - (b + 1))
              case measure => have := HK.out; omega
              case rel => exact ⟨b + 1, by omega, by omega, rfl, HPLw.out, HFLw.out⟩
            · have hbe : b = y := by omega
              subst hbe
              have hd := HD.out.2.2
              by_cases d1 : pk bs b < 48
              · clear hd
                go_wp2_with fail
                refine (peek0_p HPb.out (by omega) hn).mono ?_
                rintro e wq ⟨rfl, rfl⟩
                dsimp only
                go_wp2_with fail
                go_meet
                case rel => exact ⟨HPb.out, HFb.out⟩
              · have d2 : 57 < pk bs b := by omega
                clear hd
                go_wp2_with fail
                refine (peek0_p HPb.out (by omega) hn).mono ?_
                rintro e wq ⟨rfl, rfl⟩
                dsimp only
                go_wp2_with fail
                go_meet
                case rel => exact ⟨HPb.out, HFb.out⟩
      case rest =>
        obtain ⟨HP4, HF4⟩ := hcut
        have q4 := HP4.out.p0
        clear HP33 HF33 q33 HBW
        go_upto_if 80 with (go_at_call 31; refine (peek0_p HP4.out (by omega) hn).mono ?_; rintro e wq ⟨rfl, rfl⟩)
        go_cut [7, 8] from 74 to 117 (fun v7 v8 wc => Hid (Ps B gp gi gb c r bs wc z start nc st sv) ∧ Hid (PF B w wc))
        case first =>
          rcases H3.out with ⟨hf, hyz, hD⟩ | ⟨hf, hzy⟩
          · have HDf := Lib.hid hD
            clear hD
            have e2 : (pk bs (y) == 46) = true := by rw [beq_iff_eq]; exact hf
            have e3 := HDf.out.2.1 (y + 1) (Nat.le_refl _) hyz
            have e4 : ¬ pk bs (y + 1) < 48 := by omega
            have e5 : ¬ 57 < pk bs (y + 1) := by omega
            clear hf e3
            go_wp2_with fail
            refine (move_p 1 rfl HP4.out (by omega) hn (by decide)).mono ?_
            rintro e w5 ⟨rfl, hP5, hF5⟩
            have HP5 := Lib.hid hP5
            have HF5 := Lib.hid (HF4.out.trans hF5)
            have q5 := hP5.p0
            clear hP5 hF5
            dsimp only
            go_wp2_with fail
            refine (peek0_p HP5.out (by omega) hn).mono ?_
            rintro e wq ⟨rfl, rfl⟩
            dsimp only
            go_wp2_with fail
            go_loopg [8] (z + 1 - (y + 1)) (fun g v8 wr => ∃ b : Nat, (y + 1) ≤ b ∧ b ≤ z ∧ Hid (g = z + 1 - b) ∧ Hid (Ps B gp gi gb c r bs wr b start nc st sv) ∧ Hid (PF B w wr))
            case atStart => exact ⟨(y + 1), Nat.le_refl _, by omega, rfl, HP5.out, HF5.out⟩
            case round =>
              obtain ⟨b, hxb, hby, HK, HPb, HFb⟩ := hrel
              have qb := HPb.out.p0
              by_cases hlt : b < z
              · obtain ⟨d1, d2⟩ := HDf.out.2.1 b (by omega) hlt
                have d1' : ¬ pk bs b < 48 := by omega
                have d2' : ¬ 57 < pk bs b := by omega
                clear d1 d2
                go_wp2_with fail
                refine (peek0_p HPb.out (by omega) hn).mono ?_
                rintro e wq ⟨rfl, rfl⟩
                dsimp only
                go_wp2_with fail
                refine (move_p 1 rfl HPb.out (by omega) hn (by decide)).mono ?_
                rintro e wLf ⟨rfl, hPLf, hFLf⟩
                have HPLf := Lib.hid hPLf
                have HFLf := Lib.hid (HFb.out.trans hFLf)
                have qLf := hPLf.p0
                clear hPLf hFLf
                dsimp only
                go_wp2_with fail
                go_roundg (z + 1 - (b + 1))
                case measure => have := HK.out; omega
                case rel => exact ⟨b + 1, by omega, by omega, rfl, HPLf.out, HFLf.out⟩
              · have hbe : b = z := by omega
                subst hbe
                have hd := HDf.out.2.2
                by_cases d1 : pk bs b < 48
                · clear hd
                  go_wp2_with fail
                  refine (peek0_p HPb.out (by omega) hn).mono ?_
                  rintro e wq ⟨rfl, rfl⟩
                  dsimp only
                  go_wp2_with fail
                  go_meet
                  case rel => exact ⟨HPb.out, HFb.out⟩
                · have d2 : 57 < pk bs b := by omega
                  clear hd
                  go_wp2_with fail
                  refine (peek0_p HPb.out (by omega) hn).mono ?_
                  rintro e wq ⟨rfl, rfl⟩
                  dsimp only
                  go_wp2_with fail
                  go_meet
                  case rel => exact ⟨HPb.out, HFb.out⟩
          · have e2 : (pk bs (y) == 46) = false := by rw [beq_eq_false_iff_ne]; exact hf
            subst hzy
            clear hf
            go_wp2_with fail
            go_meet
            case rel => exact ⟨HP4.out, HF4.out⟩
        case rest =>
          obtain ⟨HP6, HF6⟩ := hcut
          have q6 := HP6.out.p0
          clear HP4 HF4 q4 H3
          go_wp2_with fail
          refine (pos_p HP6.out (by omega) (by omega) hn).mono ?_
          rintro e w7 ⟨rfl, hP7, hF7⟩
          have HP7 := Lib.hid hP7
          have HF7 := Lib.hid (HF6.out.trans hF7)
          have q7 := hP7.p0
          clear hP7 hF7 q6
          dsimp only
          go_upto_region 26 with (go_at_call 31; refine (peek0_p HP7.out (by omega) hn).mono ?_; rintro e wq ⟨rfl, rfl⟩)
          go_cut [133] from 118 to 132 (fun v133 wc => ∃ be : Bool, v133 = .bool be ∧ Hid ((be = true → ∃ d, ExpSign bs (z + 1) d ∧ d < j ∧ Dg bs d j) ∧ (be = false → j = z)) ∧ Hid (Ps B gp gi gb c r bs wc z start nc st sv) ∧ Hid (PF B w wc))
          case first =>
            rcases H4.out with ⟨hz1, hz2, hj⟩ | ⟨hE, hX⟩
            · have e6 : (pk bs z == 101) = false := by rw [beq_eq_false_iff_ne]; exact hz1
              have e7 : (pk bs z == 69) = false := by rw [beq_eq_false_iff_ne]; exact hz2
              clear hz1 hz2
              go_wp2_with fail
              go_meet
              case rel => exact ⟨false, rfl, ⟨fun h => absurd h (by decide), fun _ => hj⟩, HP7, HF7⟩
            · have HX := Lib.hid hX
              clear hX
              have hE1 : (pk bs z == 101) = true ∨ ((pk bs z == 101) = false ∧ (pk bs z == 69) = true) := by
                rcases hE with h | h
                · exact .inl (by rw [beq_iff_eq]; exact h)
                · exact .inr ⟨by rw [beq_eq_false_iff_ne]; omega, by rw [beq_iff_eq]; exact h⟩
              clear hE
              rcases hE1 with h | ⟨h, h'⟩
              all_goals
                go_wp2_with fail
                go_meet
                case rel => exact ⟨true, rfl, ⟨fun _ => HX.out, fun h => absurd h (by decide)⟩, HP7, HF7⟩
          case rest =>
            obtain ⟨be, rfl, HBE, HP77, HF77⟩ := hcut
            clear HP7 HF7 q7 H4
            have q77 := HP77.out.p0
            cases be
            · have hj := HBE.out.2 rfl
              subst hj
              go_wp2
              go_ret
              exact ⟨rfl, HP77.out, HF77.out⟩
            · obtain ⟨d, hS, hdj, hD⟩ := HBE.out.1 rfl
              have HDe := Lib.hid hD
              have HSe := Lib.hid hS
              have d0 := hD.2.1 d (Nat.le_refl _) hdj
              have d1 : ¬ pk bs d < 48 := by omega
              have d2 : ¬ 57 < pk bs d := by omega
              have hzd : z + 1 ≤ d := by rcases hS with ⟨_, h⟩ | ⟨_, _, h⟩ <;> omega
              clear hD hS d0 HBE
              go_wp2_with fail
              refine (move_p 1 rfl HP77.out (by omega) hn (by decide)).mono ?_
              rintro e w8 ⟨rfl, hP8, hF8⟩
              have HP8 := Lib.hid hP8
              have HF8 := Lib.hid (HF77.out.trans hF8)
              have q8 := hP8.p0
              clear hP8 hF8
              dsimp only
              go_upto_region 29 with (go_at_call 31; refine (peek0_p HP8.out (by omega) hn).mono ?_; rintro e wq ⟨rfl, rfl⟩)
              go_cut [149] from 134 to 148 (fun v149 wc => ∃ bg : Bool, v149 = .bool bg ∧ Hid ((bg = true → d = z + 1 + 1) ∧ (bg = false → d = z + 1)) ∧ Hid (Ps B gp gi gb c r bs wc (z + 1) start nc st sv) ∧ Hid (PF B w wc))
              case first =>
                rcases HSe.out with ⟨hs, hd⟩ | ⟨hs1, hs2, hd⟩
                · have hE1 : (pk bs (z + 1) == 43) = true ∨ ((pk bs (z + 1) == 43) = false ∧ (pk bs (z + 1) == 45) = true) := by
                    rcases hs with h | h
                    · exact .inl (by rw [beq_iff_eq]; exact h)
                    · exact .inr ⟨by rw [beq_eq_false_iff_ne]; omega, by rw [beq_iff_eq]; exact h⟩
                  clear hs
                  rcases hE1 with h | ⟨h, h'⟩
                  all_goals
                    go_wp2_with fail
                    go_meet
                    case rel => exact ⟨true, rfl, ⟨fun _ => hd, fun h => absurd h (by decide)⟩, HP8, HF8⟩
                · have e6 : (pk bs (z + 1) == 43) = false := by rw [beq_eq_false_iff_ne]; exact hs1
                  have e7 : (pk bs (z + 1) == 45) = false := by rw [beq_eq_false_iff_ne]; exact hs2
                  clear hs1 hs2
                  go_wp2_with fail
                  go_meet
                  case rel => exact ⟨false, rfl, ⟨fun h => absurd h (by decide), fun _ => hd⟩, HP8, HF8⟩
              case rest =>
                obtain ⟨bg, rfl, HBG, HP88, HF88⟩ := hcut
                clear HP8 HF8 q8 HSe
                have q88 := HP88.out.p0
                go_upto_if 149 with (fail)
                go_cut [] from 134 to 154 (fun wc => Hid (Ps B gp gi gb c r bs wc d start nc st sv) ∧ Hid (PF B w wc))
                case first =>
                  cases bg
                  · have hd := HBG.out.2 rfl
                    subst hd
                    go_wp2_with fail
                    go_meet
                    case rel => exact ⟨HP88.out, HF88.out⟩
                  · have hd := HBG.out.1 rfl
                    go_wp2_with fail
                    refine (move_p 1 rfl HP88.out (by omega) hn (by decide)).mono ?_
                    rintro e w9 ⟨rfl, hP9, hF9⟩
                    have HP9 := Lib.hid hP9
                    have HF9 := Lib.hid (HF88.out.trans hF9)
                    have q9 := hP9.p0
                    clear hP9 hF9
                    dsimp only
                    subst hd
                    go_wp2_with fail
                    go_meet
                    case rel => exact ⟨HP9.out, HF9.out⟩
                case rest =>
                  obtain ⟨HP9, HF9⟩ := hcut
                  clear HP88 HF88 q88
                  have q9 := HP9.out.p0
                  go_wp2_with fail
                  refine (peek0_p HP9.out (by omega) hn).mono ?_
                  rintro e wq ⟨rfl, rfl⟩
                  dsimp only
                  go_wp2_with fail
                  go_loopg [12] (j + 1 - d) (fun g v12 wr => ∃ b : Nat, d ≤ b ∧ b ≤ j ∧ Hid (g = j + 1 - b) ∧ Hid (Ps B gp gi gb c r bs wr b start nc st sv) ∧ Hid (PF B w wr))
                  case atStart => exact ⟨d, Nat.le_refl _, by omega, rfl, HP9.out, HF9.out⟩
                  case round =>
                    obtain ⟨b, hxb, hby, HK, HPb, HFb⟩ := hrel
                    have qb := HPb.out.p0
                    by_cases hlt : b < j
                    · obtain ⟨d1, d2⟩ := HDe.out.2.1 b (by omega) hlt
                      have d1' : ¬ pk bs b < 48 := by omega
                      have d2' : ¬ 57 < pk bs b := by omega
                      clear d1 d2
                      go_wp2_with fail
                      refine (peek0_p HPb.out (by omega) hn).mono ?_
                      rintro e wq ⟨rfl, rfl⟩
                      dsimp only
                      go_wp2_with fail
                      refine (move_p 1 rfl HPb.out (by omega) hn (by decide)).mono ?_
                      rintro e wLe ⟨rfl, hPLe, hFLe⟩
                      have HPLe := Lib.hid hPLe
                      have HFLe := Lib.hid (HFb.out.trans hFLe)
                      have qLe := hPLe.p0
                      clear hPLe hFLe
                      dsimp only
                      go_wp2_with fail
                      go_roundg (j + 1 - (b + 1))
                      case measure => have := HK.out; omega
                      case rel => exact ⟨b + 1, by omega, by omega, rfl, HPLe.out, HFLe.out⟩
                    · have hbe : b = j := by omega
                      subst hbe
                      have hd := HDe.out.2.2
                      by_cases d1 : pk bs b < 48
                      · clear hd
                        go_wp2_with fail
                        refine (peek0_p HPb.out (by omega) hn).mono ?_
                        rintro e wq ⟨rfl, rfl⟩
                        dsimp only
                        go_wp2_with fail
                        go_ret
                        exact ⟨rfl, HPb.out, HFb.out⟩
                      · have d2 : 57 < pk bs b := by omega
                        clear hd
                        go_wp2_with fail
                        refine (peek0_p HPb.out (by omega) hn).mono ?_
                        rintro e wq ⟨rfl, rfl⟩
                        dsimp only
                        go_wp2_with fail
                        go_ret
                        exact ⟨rfl, HPb.out, HFb.out⟩
end
end Go.Proofs.YtanllbfpnpojnaaDoor
