/- The parser's tokens: words and strings. -/
import Derived.Test.YtanllbfpnpojnaaDoorTokens
set_option linter.unusedVariables false
namespace Go.Proofs.YtanllbfpnpojnaaDoor
open Go.RowKit

section
variable {B gp gi gb c : Nat} {r : Value} {bs : List UInt8} {w w' : World} {pos start p' s' i j : Nat} {nc : Bool} {st : List Int} {sv : Value}

set_option maxRecDepth 100000 in
set_option maxHeartbeats 3200000 in
theorem literal_p (h : Ps B gp gi gb c r bs w i start nc st sv) (hT : LitTok bs i j) (hjn : j ≤ bs.length) (hn : bs.length ≤ 5000) :
    Calls Tryd.prog 39 #[.pointer (some ⟨gp, 0, none⟩)] w fun e w' => e = .returned (.bool true) ∧ Ps B gp gi gb c r bs w' j start nc st sv ∧ PF B w w' := by
  have HP := Lib.hid h
  have HF : Hid (PF B w w) := PF.refl _ _
  have q := h.p0
  clear h
  rcases hT with ⟨h0, h1, h2, h3, rfl⟩ | ⟨h0, h1, h2, h3, h4, rfl⟩ | ⟨h0, h1, h2, h3, rfl⟩
  · have H0 := Lib.hid h0
    have H1 := Lib.hid h1
    have H2 := Lib.hid h2
    have H3 := Lib.hid h3
    clear h0 h1 h2 h3
    go_enter Tryd.func39, Tryd.ntmps39
    go_wp2_with fail
    refine (peek_p 0 rfl HP.out (by omega) hn).mono ?_
    rintro e wq ⟨rfl, rfl⟩
    rw [show pk bs (i + 0) = _ from H0.out]
    dsimp only
    go_wp2_with fail
    refine (peek_p 1 rfl HP.out (by omega) hn).mono ?_
    rintro e wq ⟨rfl, rfl⟩
    rw [H1.out]
    dsimp only
    go_wp2_with fail
    refine (peek_p 2 rfl HP.out (by omega) hn).mono ?_
    rintro e wq ⟨rfl, rfl⟩
    rw [H2.out]
    dsimp only
    go_wp2_with fail
    refine (peek_p 3 rfl HP.out (by omega) hn).mono ?_
    rintro e wq ⟨rfl, rfl⟩
    rw [H3.out]
    dsimp only
    go_wp2_with fail
    refine (move_p 4 rfl HP.out (by omega) hn (by decide)).mono ?_
    rintro e w1 ⟨rfl, hP1, hF1⟩
    have HP1 := Lib.hid hP1
    have HF1 := Lib.hid (HF.out.trans hF1)
    have q1 := hP1.p0
    clear hP1 hF1
    dsimp only
    go_wp2
    go_ret
    exact ⟨rfl, HP1.out, HF1.out⟩
  · have H0 := Lib.hid h0
    have H1 := Lib.hid h1
    have H2 := Lib.hid h2
    have H3 := Lib.hid h3
    have H4 := Lib.hid h4
    clear h0 h1 h2 h3 h4
    go_enter Tryd.func39, Tryd.ntmps39
    go_wp2_with fail
    refine (peek_p 0 rfl HP.out (by omega) hn).mono ?_
    rintro e wq ⟨rfl, rfl⟩
    rw [show pk bs (i + 0) = _ from H0.out]
    dsimp only
    go_wp2_with fail
    refine (peek_p 1 rfl HP.out (by omega) hn).mono ?_
    rintro e wq ⟨rfl, rfl⟩
    rw [H1.out]
    dsimp only
    go_wp2_with fail
    refine (peek_p 2 rfl HP.out (by omega) hn).mono ?_
    rintro e wq ⟨rfl, rfl⟩
    rw [H2.out]
    dsimp only
    go_wp2_with fail
    refine (peek_p 3 rfl HP.out (by omega) hn).mono ?_
    rintro e wq ⟨rfl, rfl⟩
    rw [H3.out]
    dsimp only
    go_wp2_with fail
    refine (peek_p 4 rfl HP.out (by omega) hn).mono ?_
    rintro e wq ⟨rfl, rfl⟩
    rw [H4.out]
    dsimp only
    go_wp2_with fail
    refine (move_p 5 rfl HP.out (by omega) hn (by decide)).mono ?_
    rintro e w1 ⟨rfl, hP1, hF1⟩
    have HP1 := Lib.hid hP1
    have HF1 := Lib.hid (HF.out.trans hF1)
    have q1 := hP1.p0
    clear hP1 hF1
    dsimp only
    go_wp2
    go_ret
    exact ⟨rfl, HP1.out, HF1.out⟩
  · have H0 := Lib.hid h0
    have H1 := Lib.hid h1
    have H2 := Lib.hid h2
    have H3 := Lib.hid h3
    clear h0 h1 h2 h3
    go_enter Tryd.func39, Tryd.ntmps39
    go_wp2_with fail
    refine (peek_p 0 rfl HP.out (by omega) hn).mono ?_
    rintro e wq ⟨rfl, rfl⟩
    rw [show pk bs (i + 0) = _ from H0.out]
    dsimp only
    go_wp2_with fail
    refine (peek_p 1 rfl HP.out (by omega) hn).mono ?_
    rintro e wq ⟨rfl, rfl⟩
    rw [H1.out]
    dsimp only
    go_wp2_with fail
    refine (peek_p 2 rfl HP.out (by omega) hn).mono ?_
    rintro e wq ⟨rfl, rfl⟩
    rw [H2.out]
    dsimp only
    go_wp2_with fail
    refine (peek_p 3 rfl HP.out (by omega) hn).mono ?_
    rintro e wq ⟨rfl, rfl⟩
    rw [H3.out]
    dsimp only
    go_wp2_with fail
    refine (move_p 4 rfl HP.out (by omega) hn (by decide)).mono ?_
    rintro e w1 ⟨rfl, hP1, hF1⟩
    have HP1 := Lib.hid hP1
    have HF1 := Lib.hid (HF.out.trans hF1)
    have q1 := hP1.p0
    clear hP1 hF1
    dsimp only
    go_wp2
    go_ret
    exact ⟨rfl, HP1.out, HF1.out⟩

set_option maxRecDepth 100000 in
set_option maxHeartbeats 3200000 in
/-- A word is no number. -/
theorem number_no (h : Ps B gp gi gb c r bs w i start nc st sv) (hx : 57 < pk bs i) (hs : start ≤ i) (hin : i ≤ bs.length) (hn : bs.length ≤ 5000) :
    Calls Tryd.prog 38 #[.pointer (some ⟨gp, 0, none⟩)] w fun e w' => e = .returned (.bool false) ∧ Ps B gp gi gb c r bs w' i start nc st sv ∧ PF B w w' := by
  have HP0 := Lib.hid h
  have q0 := h.p0
  have e1 : (pk bs i == 45) = false := by rw [beq_eq_false_iff_ne]; omega
  have e2 : 49 ≤ pk bs i := by omega
  have e3 : ¬ pk bs i ≤ 57 := by omega
  have e4 : ¬ pk bs i = 48 := by omega
  clear h
  go_enter Tryd.func38, Tryd.ntmps38
  go_wp2_with fail
  refine (pos_p HP0.out hs hin hn).mono ?_
  rintro e w1 ⟨rfl, hP1, hF1⟩
  have HP1 := Lib.hid hP1
  have HF1 := Lib.hid hF1
  have q1 := hP1.p0
  clear hP1 hF1 q0
  dsimp only
  go_wp2_with fail
  refine (peek0_p HP1.out (by omega) hn).mono ?_
  rintro e wq ⟨rfl, rfl⟩
  dsimp only
  go_wp2_with fail
  refine (peek0_p HP1.out (by omega) hn).mono ?_
  rintro e wq ⟨rfl, rfl⟩
  dsimp only
  go_wp2_with fail
  refine (rewind_p rfl HP1.out hs hin hn).mono ?_
  rintro e w2 ⟨rfl, hP2, hF2⟩
  have HP2 := Lib.hid hP2
  have HF2 := Lib.hid (HF1.out.trans hF2)
  clear hP2 hF2
  dsimp only
  go_wp2
  go_ret
  exact ⟨rfl, HP2.out, HF2.out⟩

set_option maxRecDepth 100000 in
set_option maxHeartbeats 3200000 in
theorem string_p (h : Ps B gp gi gb c r bs w i i nc st sv) (hT : StrTok bs i j) (hjn : j ≤ bs.length) (hn : bs.length ≤ 5000) (hc : c ≤ 9223372036854775807) :
    Calls Tryd.prog 36 #[.pointer (some ⟨gp, 0, none⟩)] w fun e w' => e = .returned (.bool true) ∧ Ps B gp gi gb c r bs w' j i nc st sv ∧ PF B w w' := by
  have HP0 := Lib.hid h
  have HF0 : Hid (PF B w w) := PF.refl _ _
  have q0 := h.p0
  have hij : i + 2 ≤ j := hT.1
  have HT := Lib.hid hT
  clear h hT
  go_enter Tryd.func36, Tryd.ntmps36
  go_wp2_with fail
  refine (move_p 1 rfl HP0.out (by omega) hn (by decide)).mono ?_
  rintro e w1 ⟨rfl, hP1, hF1⟩
  have HP1 := Lib.hid hP1
  have HF1 := Lib.hid (HF0.out.trans hF1)
  have q1 := hP1.p0
  clear hP1 hF1
  dsimp only
  go_wp2_with fail
  go_loopg [3, 4, 5] (j - (i + 1)) (fun g v3 v4 v5 wr => ∃ b : Nat, i < b ∧ b ≤ j - 1 ∧ Hid (g = j - b) ∧ Hid (Ps B gp gi gb c r bs wr b i nc st sv) ∧ Hid (PF B w wr))
  case atStart => exact ⟨i + 1, by omega, by omega, rfl, HP1.out, HF1.out⟩
  case round =>
    obtain ⟨b, hib, hbj, HK, HPb, HFb⟩ := hrel
    have qb := HPb.out.p0
    clear HP0 HF0 q0 HP1 HF1 q1
    by_cases hlast : b = j - 1
    · have hjb : j = b + 1 := by omega
      subst hjb
      have hx : pk bs b = 34 := by have := HT.out.2.2.1; simpa using this
      have HE : Hid (esc bs i b = false) := Lib.hid (by have := HT.out.2.2.2.1; simpa using this)
      have HXX := Lib.hid hx
      clear hx hlast
      go_wp2_with fail
      refine (peek0_p HPb.out (by omega) hn).mono ?_
      rintro e wq ⟨rfl, rfl⟩
      rw [HXX.out]
      dsimp only
      go_wp2_with fail
      refine (pos_p HPb.out (by omega) (by omega) hn).mono ?_
      rintro e w2 ⟨rfl, hP2, hF2⟩
      have HP2 := Lib.hid hP2
      have HF2 := Lib.hid (HFb.out.trans hF2)
      have q2 := hP2.p0
      clear hP2 hF2 qb
      dsimp only
      obtain ⟨d, hd⟩ : ∃ d, b - i = d + 1 := ⟨b - i - 1, by omega⟩
      have hid : b = i + (d + 1) := by omega
      rw [hd]
      go_wp2_with fail
      go_loopg [4, 5] (d + 2) (fun g v4 v5 wr => ∃ (m : Nat) (ev : Bool), m ≤ d + 1 ∧ v4 = .bool ev ∧ ((m = 0 ∧ v5 = .int .i64 (-1)) ∨ (∃ m', m = m' + 1 ∧ v5 = .int .i64 (m' : Int))) ∧ Hid (g = m + 1) ∧ Hid (Bool.xor ev (esc bs i (i + m)) = esc bs i b) ∧ Hid (Ps B gp gi gb c r bs wr b i nc st sv) ∧ Hid (PF B w wr))
      case atStart => exact ⟨d + 1, false, Nat.le_refl _, rfl, .inr ⟨d, rfl, by go_num⟩, rfl, by rw [← hid]; simp [Hid], HP2.out, HF2.out⟩
      case round =>
        obtain ⟨m, ev, hm, rfl, hv5, HKm, HX, HPm, HFm⟩ := hrel
        have qm := HPm.out.p0
        clear HP2 HF2 q2
        rcases hv5 with ⟨rfl, rfl⟩ | ⟨m', rfl, rfl⟩
        · have hev : ev = false := by
            have h1 := HX.out
            rw [HE.out, Nat.add_zero, esc_start] at h1
            simpa using h1
          subst hev
          go_wp2_with fail
          refine (move_p 1 rfl HPm.out (by omega) hn (by decide)).mono ?_
          rintro e w9 ⟨rfl, hP9, hF9⟩
          have HP9 := Lib.hid hP9
          have HF9 := Lib.hid (HFm.out.trans hF9)
          have q9 := hP9.p0
          clear hP9 hF9
          dsimp only
          go_wp2
          go_ret
          exact ⟨rfl, HP9.out, HF9.out⟩
        · have hml : (m' : Int) < ((b - i : Nat) : Int) := by omega
          have hm0 : (0 : Int) ≤ (m' : Int) := by omega
          go_wp2_with fail
          refine (lexeme_p HPm.out hib (by omega) hn hc).mono ?_
          rintro e w3 ⟨rfl, hP3, hF3⟩
          have HP3 := Lib.hid hP3
          have HF3 := Lib.hid (HFm.out.trans hF3)
          have q3 := hP3.p0
          have hby : w3.cell? ⟨gb, i + m', none⟩ = some (.int .u8 (pk bs (i + m'))) := hP3.byte (by omega)
          clear hP3 hF3 qm
          dsimp only
          by_cases h92 : pk bs (i + m') = 92
          · have HX' : Hid (Bool.xor (!ev) (esc bs i (i + m')) = esc bs i b) := by
              have h1 := HX.out
              rw [← Nat.add_assoc, esc_back (by omega) h92] at h1
              show Bool.xor (!ev) (esc bs i (i + m')) = esc bs i b
              rw [← h1]
              cases ev <;> cases esc bs i (i + m') <;> rfl
            have e3 : (pk bs (i + m') == 92) = true := by rw [beq_iff_eq]; exact h92
            clear h92
            go_wp2_with fail
            go_roundg (m' + 1)
            case measure => have := HKm.out; omega
            case rel =>
              refine ⟨m', !ev, by omega, rfl, ?_, rfl, HX'.out, HP3.out, HF3.out⟩
              cases m' with
              | zero => exact .inl ⟨rfl, by go_num⟩
              | succ m'' => exact .inr ⟨m'', rfl, by go_num⟩
          · have hev : ev = false := by
              have h1 := HX.out
              rw [HE.out, ← Nat.add_assoc, esc_other h92] at h1
              simpa using h1
            have e3 : (pk bs (i + m') == 92) = false := by rw [beq_eq_false_iff_ne]; exact h92
            clear h92
            subst hev
            go_wp2_with fail
            refine (move_p 1 rfl HP3.out (by omega) hn (by decide)).mono ?_
            rintro e w9 ⟨rfl, hP9, hF9⟩
            have HP9 := Lib.hid hP9
            have HF9 := Lib.hid (HF3.out.trans hF9)
            have q9 := hP9.p0
            clear hP9 hF9
            dsimp only
            go_wp2
            go_ret
            exact ⟨rfl, HP9.out, HF9.out⟩
    · have hbj' : b < j - 1 := by omega
      obtain ⟨hnz, hq⟩ := HT.out.2.2.2.2 b hib hbj'
      by_cases hx : pk bs b = 34
      · have HE : Hid (esc bs i b = true) := hq hx
        have HXX := Lib.hid hx
        clear hx hq hnz hlast
        go_wp2_with fail
        refine (peek0_p HPb.out (by omega) hn).mono ?_
        rintro e wq ⟨rfl, rfl⟩
        rw [HXX.out]
        dsimp only
        go_wp2_with fail
        refine (pos_p HPb.out (by omega) (by omega) hn).mono ?_
        rintro e w2 ⟨rfl, hP2, hF2⟩
        have HP2 := Lib.hid hP2
        have HF2 := Lib.hid (HFb.out.trans hF2)
        have q2 := hP2.p0
        clear hP2 hF2 qb
        dsimp only
        obtain ⟨d, hd⟩ : ∃ d, b - i = d + 1 := ⟨b - i - 1, by omega⟩
        have hid : b = i + (d + 1) := by omega
        rw [hd]
        go_wp2_with fail
        go_loopg [4, 5] (d + 2) (fun g v4 v5 wr => ∃ (m : Nat) (ev : Bool), m ≤ d + 1 ∧ v4 = .bool ev ∧ ((m = 0 ∧ v5 = .int .i64 (-1)) ∨ (∃ m', m = m' + 1 ∧ v5 = .int .i64 (m' : Int))) ∧ Hid (g = m + 1) ∧ Hid (Bool.xor ev (esc bs i (i + m)) = esc bs i b) ∧ Hid (Ps B gp gi gb c r bs wr b i nc st sv) ∧ Hid (PF B w wr))
        case atStart => exact ⟨d + 1, false, Nat.le_refl _, rfl, .inr ⟨d, rfl, by go_num⟩, rfl, by rw [← hid]; simp [Hid], HP2.out, HF2.out⟩
        case round =>
          obtain ⟨m, ev, hm, rfl, hv5, HKm, HX, HPm, HFm⟩ := hrel
          have qm := HPm.out.p0
          clear HP2 HF2 q2
          rcases hv5 with ⟨rfl, rfl⟩ | ⟨m', rfl, rfl⟩
          · have hev : ev = true := by
              have h1 := HX.out
              rw [HE.out, Nat.add_zero, esc_start] at h1
              simpa using h1
            subst hev
            go_wp2_with fail
            refine (move_p 1 rfl HPm.out (by omega) hn (by decide)).mono ?_
            rintro e w9 ⟨rfl, hP9, hF9⟩
            have HP9 := Lib.hid hP9
            have HF9 := Lib.hid (HFm.out.trans hF9)
            have q9 := hP9.p0
            clear hP9 hF9
            dsimp only
            go_wp2_with fail
            go_roundg (j - (b + 1))
            case measure => have := HK.out; omega
            case rel => exact ⟨b + 1, by omega, by omega, rfl, HP9.out, HF9.out⟩
          · have hml : (m' : Int) < ((b - i : Nat) : Int) := by omega
            have hm0 : (0 : Int) ≤ (m' : Int) := by omega
            go_wp2_with fail
            refine (lexeme_p HPm.out hib (by omega) hn hc).mono ?_
            rintro e w3 ⟨rfl, hP3, hF3⟩
            have HP3 := Lib.hid hP3
            have HF3 := Lib.hid (HFm.out.trans hF3)
            have q3 := hP3.p0
            have hby : w3.cell? ⟨gb, i + m', none⟩ = some (.int .u8 (pk bs (i + m'))) := hP3.byte (by omega)
            clear hP3 hF3 qm
            dsimp only
            by_cases h92 : pk bs (i + m') = 92
            · have HX' : Hid (Bool.xor (!ev) (esc bs i (i + m')) = esc bs i b) := by
                have h1 := HX.out
                rw [← Nat.add_assoc, esc_back (by omega) h92] at h1
                show Bool.xor (!ev) (esc bs i (i + m')) = esc bs i b
                rw [← h1]
                cases ev <;> cases esc bs i (i + m') <;> rfl
              have e3 : (pk bs (i + m') == 92) = true := by rw [beq_iff_eq]; exact h92
              clear h92
              go_wp2_with fail
              go_roundg (m' + 1)
              case measure => have := HKm.out; omega
              case rel =>
                refine ⟨m', !ev, by omega, rfl, ?_, rfl, HX'.out, HP3.out, HF3.out⟩
                cases m' with
                | zero => exact .inl ⟨rfl, by go_num⟩
                | succ m'' => exact .inr ⟨m'', rfl, by go_num⟩
            · have hev : ev = true := by
                have h1 := HX.out
                rw [HE.out, ← Nat.add_assoc, esc_other h92] at h1
                simpa using h1
              have e3 : (pk bs (i + m') == 92) = false := by rw [beq_eq_false_iff_ne]; exact h92
              clear h92
              subst hev
              go_wp2_with fail
              refine (move_p 1 rfl HP3.out (by omega) hn (by decide)).mono ?_
              rintro e w9 ⟨rfl, hP9, hF9⟩
              have HP9 := Lib.hid hP9
              have HF9 := Lib.hid (HF3.out.trans hF9)
              have q9 := hP9.p0
              clear hP9 hF9
              dsimp only
              go_wp2_with fail
              go_roundg (j - (b + 1))
              case measure => have := HK.out; omega
              case rel => exact ⟨b + 1, by omega, by omega, rfl, HP9.out, HF9.out⟩
      · have e1 : (pk bs b == 34) = false := by rw [beq_eq_false_iff_ne]; exact hx
        have e2 : (pk bs b == 0) = false := by rw [beq_eq_false_iff_ne]; exact hnz
        clear hx hq hnz hlast
        go_wp2_with fail
        refine (peek0_p HPb.out (by omega) hn).mono ?_
        rintro e wq ⟨rfl, rfl⟩
        dsimp only
        go_wp2_with fail
        refine (move_p 1 rfl HPb.out (by omega) hn (by decide)).mono ?_
        rintro e w9 ⟨rfl, hP9, hF9⟩
        have HP9 := Lib.hid hP9
        have HF9 := Lib.hid (HFb.out.trans hF9)
        have q9 := hP9.p0
        clear hP9 hF9
        dsimp only
        go_wp2_with fail
        go_roundg (j - (b + 1))
        case measure => have := HK.out; omega
        case rel => exact ⟨b + 1, by omega, by omega, rfl, HP9.out, HF9.out⟩
end
end Go.Proofs.YtanllbfpnpojnaaDoor
