/- The parser's next step at a key and at a value. -/
import Derived.Test.YtanllbfpnpojnaaDoorNextA
set_option linter.unusedVariables false
namespace Go.Proofs.YtanllbfpnpojnaaDoor
open Go.RowKit

section
variable {B gp gi gb c : Nat} {r : Value} {bs : List UInt8} {w w' : World} {pos start p' s' i j k m g y cap : Nat} {nc : Bool} {st : List Int} {sv : Value} {top x : Int}

set_option maxRecDepth 100000 in
set_option maxHeartbeats 3200000 in
theorem next_key {m0 : Nat} (h : Ps B gp gi gb c r bs w i start nc (st ++ [top]) sv) (htop : top = 1) (hL : Lead bs i k nc top) (hT : StrTok bs k j) (hBm : Bls bs j m0) (hm58 : pk bs m0 = 58) (hn : bs.length ≤ 5000) (hc : c ≤ 9223372036854775807) (hst : st.length ≤ 100000) :
    Calls Tryd.prog 12 #[.pointer (some ⟨gp, 0, none⟩)] w fun e w' => Stepped B gp gi gb c r bs w 4 k j (m0 + 1) false (st ++ [2]) e w' := by
  have HKK : Hid (pk bs k = 34) := hT.2.1
  have HKK2 : True := trivial
  have hkj : k + 2 ≤ j := hT.1
  have hjm : j ≤ m0 := hBm.1
  have hmn : m0 < bs.length := lt_of_pk (by omega)
  have HTT := Lib.hid hT
  have HBM := Lib.hid hBm
  have HM58 := Lib.hid hm58
  have HTOP := Lib.hid htop
  have hbm : ¬ isBl (pk bs m0) := by rw [hm58]; unfold isBl; omega
  clear hT hBm hm58 htop
  obtain ⟨g, cap, rfl, hcap⟩ := h.form
  obtain ⟨m, hm1, hm2, hmk, hm3⟩ := hL.first (by rw [HKK.out]; unfold isBl; omega) (by omega)
  generalize hy : st.length = y at *
  have HP0 := Lib.hid h
  have HF0 : Hid (PF B w w) := PF.refl _ _
  have hy0 : (0 : Int) ≤ (y : Int) := by omega
  clear h hL
  go_enter Tryd.func12, Tryd.ntmps12
  go_wp2_with fail
  refine (white_p m HP0.out hm1 hm2 (by omega) hn).mono ?_
  rintro e w1 ⟨rfl, hP1, hF1⟩
  have HP1 := Lib.hid hP1
  have HF1 := Lib.hid (HF0.out.trans hF1)
  have q1 := hP1.p0
  clear hP1 hF1
  dsimp only
  go_wp2_with fail
  refine (peek0_p HP1.out (by omega) hn).mono ?_
  rintro e wq ⟨rfl, rfl⟩
  dsimp only
  have r1 := HP1.out.p1
  have t1 := HP1.out.top_ hy
  clear hm1 hm2
  go_wp2_with fail
  go_quiet (fail)
  have HP2 := Lib.hid (HP1.out.drawn nq)
  have HF2 := Lib.hid (HF1.out.drewN nq)
  have q2 := HP2.out.p0
  have s2 := HP2.out.p3
  have sf2 := HP2.out.pf3
  go_upto_if 29 with (fail)
  go_cut [4] from 9 to 59 (fun v4 wc => v4 = .int .u8 (pk bs k) ∧ Hid (Ps B gp gi gb c r bs wc k start false (st ++ [top]) (.slice (some ⟨g, 0, none⟩) (y + 1) cap)) ∧ Hid (PF B w wc))
  case first =>
    rcases hm3 with ⟨rfl, rfl⟩ | ⟨h44, hmk', hB, htop⟩
    · have e1 : (pk bs m == 44) = false := by rw [HKK.out]; decide
      go_wp2_with fail
      go_meet
      case rel => exact ⟨rfl, HP2, HF2⟩
    · have e1 : (pk bs m == 44) = true := by rw [beq_iff_eq]; exact h44
      have HB := Lib.hid hB
      clear h44 hB HKK2
      rcases htop with rfl | rfl
      all_goals
        go_wp2_with fail
        refine (move_p 1 rfl HP2.out (by omega) hn (by decide)).mono ?_
        rintro e w3 ⟨rfl, hP3, hF3⟩
        have HP3 := Lib.hid hP3
        have HF3 := Lib.hid (HF2.out.trans hF3)
        have q3 := hP3.p0
        clear hP3 hF3
        dsimp only
        go_wp2_with fail
        refine (white_p k HP3.out HB.out (by rw [HKK.out]; unfold isBl; omega) (by omega) hn).mono ?_
        rintro e w4 ⟨rfl, hP4, hF4⟩
        have HP4 := Lib.hid hP4
        have HF4 := Lib.hid (HF3.out.trans hF4)
        have q4 := hP4.p0
        clear hP4 hF4
        dsimp only
        have s4 := HP4.out.p3
        have sf4 := HP4.out.pf3
        go_wp2_with fail
        have HP5 := Lib.hid (HP4.out.flag false)
        have HF5 := Lib.hid (HF4.out.trans (HP4.out.pflag (.bool false)))
        clear s4 sf4
        generalize w4.setCell ⟨gp, 3, none⟩ (.bool false) = w5 at *
        have q5 := HP5.out.p0
        refine (peek0_p HP5.out (by omega) hn).mono ?_
        rintro e wq ⟨rfl, rfl⟩
        dsimp only
        go_wp2_with fail
        go_meet
        case rel => exact ⟨rfl, HP5, HF5⟩
  case rest =>
    obtain ⟨rfl, HPk, HFk⟩ := hcut
    rw [HKK.out]
    have qk := HPk.out.p0
    clear HP0 HF0 HP1 HF1 HP2 HF2 q1 q2 r1 t1 s2 sf2 hm3
    have htop := HTOP.out
    subst htop
    go_wp2_with fail
    refine (skip_p HPk.out).mono ?_
    rintro e w6 ⟨rfl, hP6, hF6⟩
    have HP6 := Lib.hid hP6
    have HF6 := Lib.hid (HFk.out.trans hF6)
    have q6 := hP6.p0
    clear hP6 hF6
    dsimp only
    have s6 := HP6.out.p3
    go_wp2_with fail
    refine (string_p HP6.out HTT.out (by omega) hn hc).mono ?_
    rintro e w7 ⟨rfl, hP7, hF7⟩
    have HP7 := Lib.hid hP7
    have HF7 := Lib.hid (HF6.out.trans hF7)
    have q7 := hP7.p0
    clear hP7 hF7
    dsimp only
    go_wp2_with fail
    refine (pos_p HP7.out (by omega) (by omega) hn).mono ?_
    rintro e w8 ⟨rfl, hP8, hF8⟩
    have HP8 := Lib.hid hP8
    have HF8 := Lib.hid (HF7.out.trans hF8)
    have q8 := hP8.p0
    clear hP8 hF8
    dsimp only
    go_wp2_with fail
    refine (white_p m0 HP8.out HBM.out hbm (by omega) hn).mono ?_
    rintro e w9 ⟨rfl, hP9, hF9⟩
    have HP9 := Lib.hid hP9
    have HF9 := Lib.hid (HF8.out.trans hF9)
    have q9 := hP9.p0
    clear hP9 hF9
    dsimp only
    go_wp2_with fail
    refine (peek0_p HP9.out (by omega) hn).mono ?_
    rintro e wq ⟨rfl, rfl⟩
    rw [HM58.out]
    dsimp only
    go_wp2_with fail
    refine (move_p 1 rfl HP9.out (by omega) hn (by decide)).mono ?_
    rintro e w10 ⟨rfl, hP10, hF10⟩
    have HP10 := Lib.hid hP10
    have HF10 := Lib.hid (HF9.out.trans hF10)
    have q10 := hP10.p0
    clear hP10 hF10
    dsimp only
    have r10 := HP10.out.p1
    have t10 := HP10.out.top_ hy
    have rf10 := HP10.out.ftop y
    go_wp2_with fail
    go_region
    go_wp2_with fail
    have HP11 := Lib.hid (HP10.out.settop (x' := 2) hy)
    have HF11 := Lib.hid (HF10.out.trans (HP10.out.psettop (v := .int .u32 2) y))
    clear r10 t10 rf10 q10
    generalize w10.setCell ⟨g, y, none⟩ (.int .u32 2) = w11 at *
    have q11 := HP11.out.p0
    have b0 : (0 : Int) ≤ ((j - k : Nat) : Int) := by omega
    have b1 : ((j - k : Nat) : Int) ≤ ((m0 + 1 - k : Nat) : Int) := by omega
    go_region_held3 (fun w' => w'.cell? ⟨gp, 0, none⟩ = some (.pointer (some ⟨gi, 0, none⟩)))
      (first | go_keep | assumption)
      (first
        | (go_at_call 35; refine (shift_p HP11.out.drew.drew (by omega) (by omega) hn hc).mono ?_; rintro e w12 ⟨rfl, hP12, hF12⟩; have q12 := hP12.p0)
        | fail)
    go_wp2
    go_ret2
    exact ⟨_, _, rfl, by omega, hP12, HF11.out.drew.drew.trans hF12⟩

set_option maxRecDepth 100000 in
set_option maxHeartbeats 3200000 in
theorem next_str (h : Ps B gp gi gb c r bs w i start nc (st ++ [top]) sv) (htop : top ≠ 1) (hL : Lead bs i k nc top) (hT : StrTok bs k j) (hn : bs.length ≤ 5000) (hc : c ≤ 9223372036854775807) (hst : st.length ≤ 100000) :
    Calls Tryd.prog 12 #[.pointer (some ⟨gp, 0, none⟩)] w fun e w' => Stepped B gp gi gb c r bs w 4 k j j true (st ++ [back top]) e w' := by
  have HKK : Hid (pk bs k = 34) := hT.2.1
  have hkj : k < j := by have := hT.1; omega
  have hjn : j ≤ bs.length := by have := lt_of_pk (bs := bs) (i := j - 1) (by rw [hT.2.2.1]; decide); omega
  have HTT := Lib.hid hT
  have HKK2 : True := trivial
  have HT1 : Hid ((top == 1) = false) := Lib.hid (by rw [beq_eq_false_iff_ne]; exact htop)
  clear hT htop
  obtain ⟨g, cap, rfl, hcap⟩ := h.form
  obtain ⟨m, hm1, hm2, hmk, hm3⟩ := hL.first (by rw [HKK.out]; unfold isBl; omega) (by omega)
  generalize hy : st.length = y at *
  have HP0 := Lib.hid h
  have HF0 : Hid (PF B w w) := PF.refl _ _
  have hy0 : (0 : Int) ≤ (y : Int) := by omega
  clear h hL
  go_enter Tryd.func12, Tryd.ntmps12
  go_wp2_with fail
  refine (white_p m HP0.out hm1 hm2 (by omega) hn).mono ?_
  rintro e w1 ⟨rfl, hP1, hF1⟩
  have HP1 := Lib.hid hP1
  have HF1 := Lib.hid (HF0.out.trans hF1)
  have q1 := hP1.p0
  clear hP1 hF1
  dsimp only
  go_wp2_with fail
  refine (peek0_p HP1.out (by omega) hn).mono ?_
  rintro e wq ⟨rfl, rfl⟩
  dsimp only
  have r1 := HP1.out.p1
  have t1 := HP1.out.top_ hy
  clear hm1 hm2
  go_wp2_with fail
  go_quiet (fail)
  have HP2 := Lib.hid (HP1.out.drawn nq)
  have HF2 := Lib.hid (HF1.out.drewN nq)
  have q2 := HP2.out.p0
  have s2 := HP2.out.p3
  have sf2 := HP2.out.pf3
  go_upto_if 29 with (fail)
  go_cut [4] from 9 to 59 (fun v4 wc => v4 = .int .u8 (pk bs k) ∧ Hid (Ps B gp gi gb c r bs wc k start false (st ++ [top]) (.slice (some ⟨g, 0, none⟩) (y + 1) cap)) ∧ Hid (PF B w wc))
  case first =>
    rcases hm3 with ⟨rfl, rfl⟩ | ⟨h44, hmk', hB, htop⟩
    · have e1 : (pk bs m == 44) = false := by rw [HKK.out]; decide
      go_wp2_with fail
      go_meet
      case rel => exact ⟨rfl, HP2, HF2⟩
    · have e1 : (pk bs m == 44) = true := by rw [beq_iff_eq]; exact h44
      have HB := Lib.hid hB
      clear h44 hB HKK2
      rcases htop with rfl | rfl
      · exact absurd HT1.out (by decide)
      all_goals
        go_wp2_with fail
        refine (move_p 1 rfl HP2.out (by omega) hn (by decide)).mono ?_
        rintro e w3 ⟨rfl, hP3, hF3⟩
        have HP3 := Lib.hid hP3
        have HF3 := Lib.hid (HF2.out.trans hF3)
        have q3 := hP3.p0
        clear hP3 hF3
        dsimp only
        go_wp2_with fail
        refine (white_p k HP3.out HB.out (by rw [HKK.out]; unfold isBl; omega) (by omega) hn).mono ?_
        rintro e w4 ⟨rfl, hP4, hF4⟩
        have HP4 := Lib.hid hP4
        have HF4 := Lib.hid (HF3.out.trans hF4)
        have q4 := hP4.p0
        clear hP4 hF4
        dsimp only
        have s4 := HP4.out.p3
        have sf4 := HP4.out.pf3
        go_wp2_with fail
        have HP5 := Lib.hid (HP4.out.flag false)
        have HF5 := Lib.hid (HF4.out.trans (HP4.out.pflag (.bool false)))
        clear s4 sf4
        generalize w4.setCell ⟨gp, 3, none⟩ (.bool false) = w5 at *
        have q5 := HP5.out.p0
        refine (peek0_p HP5.out (by omega) hn).mono ?_
        rintro e wq ⟨rfl, rfl⟩
        dsimp only
        go_wp2_with fail
        go_meet
        case rel => exact ⟨rfl, HP5, HF5⟩
  case rest =>
    obtain ⟨rfl, HPk, HFk⟩ := hcut
    rw [HKK.out]
    have qk := HPk.out.p0
    clear HP0 HF0 HP1 HF1 HP2 HF2 q1 q2 r1 t1 s2 sf2 hm3
    go_wp2_with fail
    refine (skip_p HPk.out).mono ?_
    rintro e w6 ⟨rfl, hP6, hF6⟩
    have HP6 := Lib.hid hP6
    have HF6 := Lib.hid (HFk.out.trans hF6)
    have q6 := hP6.p0
    clear hP6 hF6
    dsimp only
    have r6 := HP6.out.p1
    have s6 := HP6.out.p3
    have rf6 := HP6.out.pf1
    have sf6 := HP6.out.pf3
    have et := HT1.out
    by_cases hx : top = 2
    · have e2 : (top == 2) = true := by rw [beq_iff_eq]; exact hx
      have HBK : Hid (back top = 1) := by show back top = 1; unfold back; rw [if_pos hx]
      clear hx
      go_wp2_with fail
      have HP7 := Lib.hid (HP6.out.flag true)
      have HF7 := Lib.hid (HF6.out.trans (HP6.out.pflag (.bool true)))
      clear r6 rf6 s6 sf6 q6
      generalize w6.setCell ⟨gp, 3, none⟩ (.bool true) = w7 at *
      have q7 := HP7.out.p0
      have r7 := HP7.out.p1
      have t7 := HP7.out.top_ hy
      have rf7 := HP7.out.ftop y
      have HPa := Lib.hid (HP7.out.settop (x' := 1) hy)
      have HFa := Lib.hid (HF7.out.trans (HP7.out.psettop (v := .int .u32 1) y))
      have qa := HPa.out.p0
      go_region
      go_wp2_with fail
      have HP8 : Hid (Ps B gp gi gb c r bs (w7.setCell ⟨g, y, none⟩ (.int .u32 1)).drew k k true (st ++ [1]) (.slice (some ⟨g, 0, none⟩) (y + 1) cap)) := HPa.out.drew
      have HF8 : Hid (PF B w (w7.setCell ⟨g, y, none⟩ (.int .u32 1)).drew) := HFa.out.drew
      clear r7 t7 rf7 qa q7
      generalize (w7.setCell ⟨g, y, none⟩ (.int .u32 1)).drew = w8 at *
      have q8 := HP8.out.p0
      refine (string_p HP8.out HTT.out hjn hn hc).mono ?_
      rintro e w11 ⟨rfl, hP11, hF11⟩
      have HP11 := Lib.hid hP11
      have HF11 := Lib.hid (HF8.out.trans hF11)
      have q11 := hP11.p0
      clear hP11 hF11
      dsimp only
      go_wp2_with fail
      refine (shift_p HP11.out hkj hjn hn hc).mono ?_
      rintro e w12 ⟨rfl, hP12, hF12⟩
      have HP12 := Lib.hid hP12
      have HF12 := Lib.hid (HF11.out.trans hF12)
      have q12 := hP12.p0
      clear hP12 hF12
      dsimp only
      go_wp2
      go_ret2
      exact ⟨_, _, rfl, by omega, by rw [HBK.out]; exact HP12.out, HF12.out⟩
    · have e2 : (top == 2) = false := by rw [beq_eq_false_iff_ne]; exact hx
      have HBK : Hid (back top = top) := by show back top = top; unfold back; rw [if_neg hx]
      clear hx
      have HP7 := Lib.hid (HP6.out.flag true)
      have HF7 := Lib.hid (HF6.out.trans (HP6.out.pflag (.bool true)))
      have q7 := HP7.out.p0
      go_wp2_with fail
      clear r6 rf6 s6 sf6 q6
      generalize w6.setCell ⟨gp, 3, none⟩ (.bool true) = w7 at *
      refine (string_p HP7.out HTT.out hjn hn hc).mono ?_
      rintro e w11 ⟨rfl, hP11, hF11⟩
      have HP11 := Lib.hid hP11
      have HF11 := Lib.hid (HF7.out.trans hF11)
      have q11 := hP11.p0
      clear hP11 hF11
      dsimp only
      go_wp2_with fail
      refine (shift_p HP11.out hkj hjn hn hc).mono ?_
      rintro e w12 ⟨rfl, hP12, hF12⟩
      have HP12 := Lib.hid hP12
      have HF12 := Lib.hid (HF11.out.trans hF12)
      have q12 := hP12.p0
      clear hP12 hF12
      dsimp only
      go_wp2
      go_ret2
      exact ⟨_, _, rfl, by omega, by rw [HBK.out]; exact HP12.out, HF12.out⟩


theorem NumTok.first {bs : List UInt8} {i j : Nat} (h : NumTok bs i j) : pk bs i = 45 ∨ (48 ≤ pk bs i ∧ pk bs i ≤ 57) := by
  obtain ⟨a, b, c, h1, h2, _⟩ := h
  rcases h1 with ⟨h, _⟩ | ⟨_, rfl⟩
  · exact .inl h
  · rcases h2 with ⟨h, _⟩ | ⟨h, h', _⟩ <;> omega
theorem LitTok.first {bs : List UInt8} {i j : Nat} (h : LitTok bs i j) : pk bs i = 116 ∨ pk bs i = 102 ∨ pk bs i = 110 := by
  rcases h with ⟨h, _⟩ | ⟨h, _⟩ | ⟨h, _⟩ <;> omega

set_option maxRecDepth 100000 in
set_option maxHeartbeats 3200000 in
theorem next_num (h : Ps B gp gi gb c r bs w i start nc (st ++ [top]) sv) (htop : top ≠ 1) (hL : Lead bs i k nc top) (hT : NumTok bs k j) (hjn : j ≤ bs.length) (hn : bs.length ≤ 5000) (hc : c ≤ 9223372036854775807) (hst : st.length ≤ 100000) :
    Calls Tryd.prog 12 #[.pointer (some ⟨gp, 0, none⟩)] w fun e w' => Stepped B gp gi gb c r bs w 3 k j j true (st ++ [back top]) e w' := by
  have hkj : k < j := hT.lt
  have hfc := hT.first
  have hkn' : k < bs.length := lt_of_pk (by omega)
  have HNB : Hid (¬ isBl (pk bs k)) := Lib.hid (by unfold isBl; omega)
  have HN44 : Hid ((pk bs k == 44) = false) := Lib.hid (by rw [beq_eq_false_iff_ne]; omega)
  have c1 : (pk bs k == 123) = false := by rw [beq_eq_false_iff_ne]; omega
  have c2 : (pk bs k == 125) = false := by rw [beq_eq_false_iff_ne]; omega
  have c3 : (pk bs k == 91) = false := by rw [beq_eq_false_iff_ne]; omega
  have c4 : (pk bs k == 93) = false := by rw [beq_eq_false_iff_ne]; omega
  have c5 : (pk bs k == 34) = false := by rw [beq_eq_false_iff_ne]; omega
  clear hfc
  have HTT := Lib.hid hT
  have HKK2 : True := trivial
  have HT1 : Hid ((top == 1) = false) := Lib.hid (by rw [beq_eq_false_iff_ne]; exact htop)
  clear hT htop
  obtain ⟨g, cap, rfl, hcap⟩ := h.form
  obtain ⟨m, hm1, hm2, hmk, hm3⟩ := hL.first HNB.out (by omega)
  generalize hy : st.length = y at *
  have HP0 := Lib.hid h
  have HF0 : Hid (PF B w w) := PF.refl _ _
  have hy0 : (0 : Int) ≤ (y : Int) := by omega
  clear h hL
  go_enter Tryd.func12, Tryd.ntmps12
  go_wp2_with fail
  refine (white_p m HP0.out hm1 hm2 (by omega) hn).mono ?_
  rintro e w1 ⟨rfl, hP1, hF1⟩
  have HP1 := Lib.hid hP1
  have HF1 := Lib.hid (HF0.out.trans hF1)
  have q1 := hP1.p0
  clear hP1 hF1
  dsimp only
  go_wp2_with fail
  refine (peek0_p HP1.out (by omega) hn).mono ?_
  rintro e wq ⟨rfl, rfl⟩
  dsimp only
  have r1 := HP1.out.p1
  have t1 := HP1.out.top_ hy
  clear hm1 hm2
  go_wp2_with fail
  go_quiet (fail)
  have HP2 := Lib.hid (HP1.out.drawn nq)
  have HF2 := Lib.hid (HF1.out.drewN nq)
  have q2 := HP2.out.p0
  have s2 := HP2.out.p3
  have sf2 := HP2.out.pf3
  go_upto_if 29 with (fail)
  go_cut [4] from 9 to 59 (fun v4 wc => v4 = .int .u8 (pk bs k) ∧ Hid (Ps B gp gi gb c r bs wc k start false (st ++ [top]) (.slice (some ⟨g, 0, none⟩) (y + 1) cap)) ∧ Hid (PF B w wc))
  case first =>
    rcases hm3 with ⟨rfl, rfl⟩ | ⟨h44, hmk', hB, htop⟩
    · have e1 : (pk bs m == 44) = false := HN44.out
      go_wp2_with fail
      go_meet
      case rel => exact ⟨rfl, HP2, HF2⟩
    · have e1 : (pk bs m == 44) = true := by rw [beq_iff_eq]; exact h44
      have HB := Lib.hid hB
      clear h44 hB HKK2
      rcases htop with rfl | rfl
      · exact absurd HT1.out (by decide)
      all_goals
        go_wp2_with fail
        refine (move_p 1 rfl HP2.out (by omega) hn (by decide)).mono ?_
        rintro e w3 ⟨rfl, hP3, hF3⟩
        have HP3 := Lib.hid hP3
        have HF3 := Lib.hid (HF2.out.trans hF3)
        have q3 := hP3.p0
        clear hP3 hF3
        dsimp only
        go_wp2_with fail
        refine (white_p k HP3.out HB.out HNB.out (by omega) hn).mono ?_
        rintro e w4 ⟨rfl, hP4, hF4⟩
        have HP4 := Lib.hid hP4
        have HF4 := Lib.hid (HF3.out.trans hF4)
        have q4 := hP4.p0
        clear hP4 hF4
        dsimp only
        have s4 := HP4.out.p3
        have sf4 := HP4.out.pf3
        go_wp2_with fail
        have HP5 := Lib.hid (HP4.out.flag false)
        have HF5 := Lib.hid (HF4.out.trans (HP4.out.pflag (.bool false)))
        clear s4 sf4
        generalize w4.setCell ⟨gp, 3, none⟩ (.bool false) = w5 at *
        have q5 := HP5.out.p0
        refine (peek0_p HP5.out (by omega) hn).mono ?_
        rintro e wq ⟨rfl, rfl⟩
        dsimp only
        go_wp2_with fail
        go_meet
        case rel => exact ⟨rfl, HP5, HF5⟩
  case rest =>
    obtain ⟨rfl, HPk, HFk⟩ := hcut
    have qk := HPk.out.p0
    clear HP0 HF0 HP1 HF1 HP2 HF2 q1 q2 r1 t1 s2 sf2 hm3
    go_wp2_with fail
    refine (skip_p HPk.out).mono ?_
    rintro e w6 ⟨rfl, hP6, hF6⟩
    have HP6 := Lib.hid hP6
    have HF6 := Lib.hid (HFk.out.trans hF6)
    have q6 := hP6.p0
    clear hP6 hF6
    dsimp only
    have r6 := HP6.out.p1
    have s6 := HP6.out.p3
    have rf6 := HP6.out.pf1
    have sf6 := HP6.out.pf3
    have et := HT1.out
    by_cases hx : top = 2
    · have e2 : (top == 2) = true := by rw [beq_iff_eq]; exact hx
      have HBK : Hid (back top = 1) := by show back top = 1; unfold back; rw [if_pos hx]
      clear hx
      go_wp2_with fail
      have HP7 := Lib.hid (HP6.out.flag true)
      have HF7 := Lib.hid (HF6.out.trans (HP6.out.pflag (.bool true)))
      clear r6 rf6 s6 sf6 q6
      generalize w6.setCell ⟨gp, 3, none⟩ (.bool true) = w7 at *
      have q7 := HP7.out.p0
      have r7 := HP7.out.p1
      have t7 := HP7.out.top_ hy
      have rf7 := HP7.out.ftop y
      have HPa := Lib.hid (HP7.out.settop (x' := 1) hy)
      have HFa := Lib.hid (HF7.out.trans (HP7.out.psettop (v := .int .u32 1) y))
      have qa := HPa.out.p0
      go_region
      go_wp2_with fail
      have HP8 : Hid (Ps B gp gi gb c r bs (w7.setCell ⟨g, y, none⟩ (.int .u32 1)).drew k k true (st ++ [1]) (.slice (some ⟨g, 0, none⟩) (y + 1) cap)) := HPa.out.drew
      have HF8 : Hid (PF B w (w7.setCell ⟨g, y, none⟩ (.int .u32 1)).drew) := HFa.out.drew
      clear r7 t7 rf7 qa q7
      generalize (w7.setCell ⟨g, y, none⟩ (.int .u32 1)).drew = w8 at *
      have q8 := HP8.out.p0
      refine (number_p HP8.out HTT.out (Nat.le_refl _) hjn hn).mono ?_
      rintro e w11 ⟨rfl, hP11, hF11⟩
      have HP11 := Lib.hid hP11
      have HF11 := Lib.hid (HF8.out.trans hF11)
      have q11 := hP11.p0
      clear hP11 hF11
      dsimp only
      go_wp2_with fail
      refine (shift_p HP11.out hkj hjn hn hc).mono ?_
      rintro e w12 ⟨rfl, hP12, hF12⟩
      have HP12 := Lib.hid hP12
      have HF12 := Lib.hid (HF11.out.trans hF12)
      have q12 := hP12.p0
      clear hP12 hF12
      dsimp only
      go_wp2
      go_ret2
      exact ⟨_, _, rfl, by omega, by rw [HBK.out]; exact HP12.out, HF12.out⟩
    · have e2 : (top == 2) = false := by rw [beq_eq_false_iff_ne]; exact hx
      have HBK : Hid (back top = top) := by show back top = top; unfold back; rw [if_neg hx]
      clear hx
      have HP7 := Lib.hid (HP6.out.flag true)
      have HF7 := Lib.hid (HF6.out.trans (HP6.out.pflag (.bool true)))
      have q7 := HP7.out.p0
      go_wp2_with fail
      clear r6 rf6 s6 sf6 q6
      generalize w6.setCell ⟨gp, 3, none⟩ (.bool true) = w7 at *
      refine (number_p HP7.out HTT.out (Nat.le_refl _) hjn hn).mono ?_
      rintro e w11 ⟨rfl, hP11, hF11⟩
      have HP11 := Lib.hid hP11
      have HF11 := Lib.hid (HF7.out.trans hF11)
      have q11 := hP11.p0
      clear hP11 hF11
      dsimp only
      go_wp2_with fail
      refine (shift_p HP11.out hkj hjn hn hc).mono ?_
      rintro e w12 ⟨rfl, hP12, hF12⟩
      have HP12 := Lib.hid hP12
      have HF12 := Lib.hid (HF11.out.trans hF12)
      have q12 := hP12.p0
      clear hP12 hF12
      dsimp only
      go_wp2
      go_ret2
      exact ⟨_, _, rfl, by omega, by rw [HBK.out]; exact HP12.out, HF12.out⟩


set_option maxRecDepth 100000 in
set_option maxHeartbeats 3200000 in
theorem next_lit (h : Ps B gp gi gb c r bs w i start nc (st ++ [top]) sv) (htop : top ≠ 1) (hL : Lead bs i k nc top) (hT : LitTok bs k j) (hn : bs.length ≤ 5000) (hc : c ≤ 9223372036854775807) (hst : st.length ≤ 100000) :
    Calls Tryd.prog 12 #[.pointer (some ⟨gp, 0, none⟩)] w fun e w' => Stepped B gp gi gb c r bs w 2 k j j true (st ++ [back top]) e w' := by
  have hkj : k < j := by rcases hT with ⟨_, _, _, _, h⟩ | ⟨_, _, _, _, _, h⟩ | ⟨_, _, _, _, h⟩ <;> omega
  have hjn : j ≤ bs.length := by
    rcases hT with ⟨_, _, _, h, h'⟩ | ⟨_, _, _, _, h, h'⟩ | ⟨_, _, _, h, h'⟩
    · have := lt_of_pk (bs := bs) (i := k + 3) (by omega); omega
    · have := lt_of_pk (bs := bs) (i := k + 4) (by omega); omega
    · have := lt_of_pk (bs := bs) (i := k + 3) (by omega); omega
  have hfc := hT.first
  have hkn' : k < bs.length := lt_of_pk (by omega)
  have HNB : Hid (¬ isBl (pk bs k)) := Lib.hid (by unfold isBl; omega)
  have HN44 : Hid ((pk bs k == 44) = false) := Lib.hid (by rw [beq_eq_false_iff_ne]; omega)
  have c1 : (pk bs k == 123) = false := by rw [beq_eq_false_iff_ne]; omega
  have c2 : (pk bs k == 125) = false := by rw [beq_eq_false_iff_ne]; omega
  have c3 : (pk bs k == 91) = false := by rw [beq_eq_false_iff_ne]; omega
  have c4 : (pk bs k == 93) = false := by rw [beq_eq_false_iff_ne]; omega
  have c5 : (pk bs k == 34) = false := by rw [beq_eq_false_iff_ne]; omega
  have HC57 : Hid (57 < pk bs k) := Lib.hid (by omega)
  clear hfc
  have HTT := Lib.hid hT
  have HKK2 : True := trivial
  have HT1 : Hid ((top == 1) = false) := Lib.hid (by rw [beq_eq_false_iff_ne]; exact htop)
  clear hT htop
  obtain ⟨g, cap, rfl, hcap⟩ := h.form
  obtain ⟨m, hm1, hm2, hmk, hm3⟩ := hL.first HNB.out (by omega)
  generalize hy : st.length = y at *
  have HP0 := Lib.hid h
  have HF0 : Hid (PF B w w) := PF.refl _ _
  have hy0 : (0 : Int) ≤ (y : Int) := by omega
  clear h hL
  go_enter Tryd.func12, Tryd.ntmps12
  go_wp2_with fail
  refine (white_p m HP0.out hm1 hm2 (by omega) hn).mono ?_
  rintro e w1 ⟨rfl, hP1, hF1⟩
  have HP1 := Lib.hid hP1
  have HF1 := Lib.hid (HF0.out.trans hF1)
  have q1 := hP1.p0
  clear hP1 hF1
  dsimp only
  go_wp2_with fail
  refine (peek0_p HP1.out (by omega) hn).mono ?_
  rintro e wq ⟨rfl, rfl⟩
  dsimp only
  have r1 := HP1.out.p1
  have t1 := HP1.out.top_ hy
  clear hm1 hm2
  go_wp2_with fail
  go_quiet (fail)
  have HP2 := Lib.hid (HP1.out.drawn nq)
  have HF2 := Lib.hid (HF1.out.drewN nq)
  have q2 := HP2.out.p0
  have s2 := HP2.out.p3
  have sf2 := HP2.out.pf3
  go_upto_if 29 with (fail)
  go_cut [4] from 9 to 59 (fun v4 wc => v4 = .int .u8 (pk bs k) ∧ Hid (Ps B gp gi gb c r bs wc k start false (st ++ [top]) (.slice (some ⟨g, 0, none⟩) (y + 1) cap)) ∧ Hid (PF B w wc))
  case first =>
    rcases hm3 with ⟨rfl, rfl⟩ | ⟨h44, hmk', hB, htop⟩
    · have e1 : (pk bs m == 44) = false := HN44.out
      go_wp2_with fail
      go_meet
      case rel => exact ⟨rfl, HP2, HF2⟩
    · have e1 : (pk bs m == 44) = true := by rw [beq_iff_eq]; exact h44
      have HB := Lib.hid hB
      clear h44 hB HKK2
      rcases htop with rfl | rfl
      · exact absurd HT1.out (by decide)
      all_goals
        go_wp2_with fail
        refine (move_p 1 rfl HP2.out (by omega) hn (by decide)).mono ?_
        rintro e w3 ⟨rfl, hP3, hF3⟩
        have HP3 := Lib.hid hP3
        have HF3 := Lib.hid (HF2.out.trans hF3)
        have q3 := hP3.p0
        clear hP3 hF3
        dsimp only
        go_wp2_with fail
        refine (white_p k HP3.out HB.out HNB.out (by omega) hn).mono ?_
        rintro e w4 ⟨rfl, hP4, hF4⟩
        have HP4 := Lib.hid hP4
        have HF4 := Lib.hid (HF3.out.trans hF4)
        have q4 := hP4.p0
        clear hP4 hF4
        dsimp only
        have s4 := HP4.out.p3
        have sf4 := HP4.out.pf3
        go_wp2_with fail
        have HP5 := Lib.hid (HP4.out.flag false)
        have HF5 := Lib.hid (HF4.out.trans (HP4.out.pflag (.bool false)))
        clear s4 sf4
        generalize w4.setCell ⟨gp, 3, none⟩ (.bool false) = w5 at *
        have q5 := HP5.out.p0
        refine (peek0_p HP5.out (by omega) hn).mono ?_
        rintro e wq ⟨rfl, rfl⟩
        dsimp only
        go_wp2_with fail
        go_meet
        case rel => exact ⟨rfl, HP5, HF5⟩
  case rest =>
    obtain ⟨rfl, HPk, HFk⟩ := hcut
    have qk := HPk.out.p0
    clear HP0 HF0 HP1 HF1 HP2 HF2 q1 q2 r1 t1 s2 sf2 hm3
    go_wp2_with fail
    refine (skip_p HPk.out).mono ?_
    rintro e w6 ⟨rfl, hP6, hF6⟩
    have HP6 := Lib.hid hP6
    have HF6 := Lib.hid (HFk.out.trans hF6)
    have q6 := hP6.p0
    clear hP6 hF6
    dsimp only
    have r6 := HP6.out.p1
    have s6 := HP6.out.p3
    have rf6 := HP6.out.pf1
    have sf6 := HP6.out.pf3
    have et := HT1.out
    by_cases hx : top = 2
    · have e2 : (top == 2) = true := by rw [beq_iff_eq]; exact hx
      have HBK : Hid (back top = 1) := by show back top = 1; unfold back; rw [if_pos hx]
      clear hx
      go_wp2_with fail
      have HP7 := Lib.hid (HP6.out.flag true)
      have HF7 := Lib.hid (HF6.out.trans (HP6.out.pflag (.bool true)))
      clear r6 rf6 s6 sf6 q6
      generalize w6.setCell ⟨gp, 3, none⟩ (.bool true) = w7 at *
      have q7 := HP7.out.p0
      have r7 := HP7.out.p1
      have t7 := HP7.out.top_ hy
      have rf7 := HP7.out.ftop y
      have HPa := Lib.hid (HP7.out.settop (x' := 1) hy)
      have HFa := Lib.hid (HF7.out.trans (HP7.out.psettop (v := .int .u32 1) y))
      have qa := HPa.out.p0
      go_region
      go_wp2_with fail
      have HP8 : Hid (Ps B gp gi gb c r bs (w7.setCell ⟨g, y, none⟩ (.int .u32 1)).drew k k true (st ++ [1]) (.slice (some ⟨g, 0, none⟩) (y + 1) cap)) := HPa.out.drew
      have HF8 : Hid (PF B w (w7.setCell ⟨g, y, none⟩ (.int .u32 1)).drew) := HFa.out.drew
      clear r7 t7 rf7 qa q7
      generalize (w7.setCell ⟨g, y, none⟩ (.int .u32 1)).drew = w8 at *
      have q8 := HP8.out.p0
      refine (number_no HP8.out HC57.out (Nat.le_refl _) (by omega) hn).mono ?_
      rintro e w13 ⟨rfl, hP13, hF13⟩
      have HP13 := Lib.hid hP13
      have HF13 := Lib.hid (HF8.out.trans hF13)
      have q13 := hP13.p0
      clear hP13 hF13
      dsimp only
      go_wp2_with fail
      refine (literal_p HP13.out HTT.out hjn hn).mono ?_
      rintro e w11 ⟨rfl, hP11, hF11⟩
      have HP11 := Lib.hid hP11
      have HF11 := Lib.hid (HF13.out.trans hF11)
      have q11 := hP11.p0
      clear hP11 hF11
      dsimp only
      go_wp2_with fail
      refine (shift_p HP11.out hkj hjn hn hc).mono ?_
      rintro e w12 ⟨rfl, hP12, hF12⟩
      have HP12 := Lib.hid hP12
      have HF12 := Lib.hid (HF11.out.trans hF12)
      have q12 := hP12.p0
      clear hP12 hF12
      dsimp only
      go_wp2
      go_ret2
      exact ⟨_, _, rfl, by omega, by rw [HBK.out]; exact HP12.out, HF12.out⟩
    · have e2 : (top == 2) = false := by rw [beq_eq_false_iff_ne]; exact hx
      have HBK : Hid (back top = top) := by show back top = top; unfold back; rw [if_neg hx]
      clear hx
      have HP7 := Lib.hid (HP6.out.flag true)
      have HF7 := Lib.hid (HF6.out.trans (HP6.out.pflag (.bool true)))
      have q7 := HP7.out.p0
      go_wp2_with fail
      clear r6 rf6 s6 sf6 q6
      generalize w6.setCell ⟨gp, 3, none⟩ (.bool true) = w7 at *
      refine (number_no HP7.out HC57.out (Nat.le_refl _) (by omega) hn).mono ?_
      rintro e w13 ⟨rfl, hP13, hF13⟩
      have HP13 := Lib.hid hP13
      have HF13 := Lib.hid (HF7.out.trans hF13)
      have q13 := hP13.p0
      clear hP13 hF13
      dsimp only
      go_wp2_with fail
      refine (literal_p HP13.out HTT.out hjn hn).mono ?_
      rintro e w11 ⟨rfl, hP11, hF11⟩
      have HP11 := Lib.hid hP11
      have HF11 := Lib.hid (HF13.out.trans hF11)
      have q11 := hP11.p0
      clear hP11 hF11
      dsimp only
      go_wp2_with fail
      refine (shift_p HP11.out hkj hjn hn hc).mono ?_
      rintro e w12 ⟨rfl, hP12, hF12⟩
      have HP12 := Lib.hid hP12
      have HF12 := Lib.hid (HF11.out.trans hF12)
      have q12 := hP12.p0
      clear hP12 hF12
      dsimp only
      go_wp2
      go_ret2
      exact ⟨_, _, rfl, by omega, by rw [HBK.out]; exact HP12.out, HF12.out⟩

end
end Go.Proofs.YtanllbfpnpojnaaDoor
