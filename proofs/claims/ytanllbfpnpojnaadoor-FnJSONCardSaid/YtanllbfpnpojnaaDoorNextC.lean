/- The parser's next step at a closing bracket. -/
import Derived.Test.YtanllbfpnpojnaaDoorNextA
set_option linter.unusedVariables false
namespace Go.Proofs.YtanllbfpnpojnaaDoor
open Go.RowKit

section
variable {B gp gi gb c : Nat} {r : Value} {bs : List UInt8} {w w' : World} {pos start p' s' i j k g y cap : Nat} {nc : Bool} {st : List Int} {sv : Value} {top x : Int}

set_option maxRecDepth 100000 in
set_option maxHeartbeats 3200000 in
theorem next_endobj (h : Ps B gp gi gb c r bs w i start nc ((st ++ [x]) ++ [1]) sv) (hB : Bls bs i k) (hk : pk bs k = 125) (hn : bs.length ≤ 5000) (hc : c ≤ 9223372036854775807) (hst : st.length ≤ 100000) :
    Calls Tryd.prog 12 #[.pointer (some ⟨gp, 0, none⟩)] w fun e w' => Stepped B gp gi gb c r bs w 6 k (k + 1) (k + 1) true (st ++ [back x]) e w' := by
  have hkn : k < bs.length := lt_of_pk (by omega)
  have HKK := Lib.hid hk
  obtain ⟨g, cap, rfl, hcap⟩ := h.form
  have hbl : ¬ isBl (pk bs k) := by rw [hk]; unfold isBl; omega
  clear hk
  obtain ⟨y, hy1⟩ : ∃ y, st.length = y := ⟨_, rfl⟩
  have hy : (st ++ [x]).length = y + 1 := by simp [hy1]
  rw [hy] at h hcap
  have HP0 := Lib.hid h
  have HF0 : Hid (PF B w w) := PF.refl _ _
  have hy0 : (0 : Int) ≤ (y : Int) := by omega
  have hy3 : (y : Int) + 1 ≤ (cap : Int) := by omega
  clear h
  cases nc
  all_goals
    go_enter Tryd.func12, Tryd.ntmps12
    go_wp2_with fail
    refine (white_p k HP0.out hB hbl (by omega) hn).mono ?_
    rintro e w1 ⟨rfl, hP1, hF1⟩
    have HP1 := Lib.hid hP1
    have HF1 := Lib.hid (HF0.out.trans hF1)
    have q1 := hP1.p0
    clear hP1 hF1
    dsimp only
    go_wp2_with fail
    refine (peek0_p HP1.out (by omega) hn).mono ?_
    rintro e wq ⟨rfl, rfl⟩
    rw [HKK.out]
    dsimp only
    have r1 := HP1.out.p1
    have t1 := HP1.out.top_ hy
    go_wp2_with fail
    go_quiet (fail)
    have HP2 := Lib.hid (HP1.out.drawn nq)
    have HF2 := Lib.hid (HF1.out.drewN nq)
    have q2 := HP2.out.p0
    clear r1 t1
    go_wp2_with fail
    refine (skip_p HP2.out).mono ?_
    rintro e w6 ⟨rfl, hP6, hF6⟩
    have HP6 := Lib.hid hP6
    have HF6 := Lib.hid (HF2.out.trans hF6)
    have q6 := hP6.p0
    clear hP6 hF6
    dsimp only
    have r6 := HP6.out.p1
    have s6 := HP6.out.p3
    have rf6 := HP6.out.pf1
    have sf6 := HP6.out.pf3
    clear q1 q2
    go_wp2_with fail
    have HP7 := Lib.hid (HP6.out.flag true)
    have HF7 := Lib.hid (HF6.out.trans (HP6.out.pflag (.bool true)))
    clear r6 rf6 s6 sf6 q6
    generalize w6.setCell ⟨gp, 3, none⟩ (.bool true) = w7 at *
    have r7 := HP7.out.p1
    have rf7 := HP7.out.pf1
    go_region
    go_wp2_with fail
    have HP8 := Lib.hid (HP7.out.pop hy)
    have HF8 := Lib.hid (HF7.out.trans (HP7.out.ppop (.slice (some ⟨g, 0, none⟩) (y + 1) cap)))
    clear r7 rf7
    generalize w7.setCell ⟨gp, 1, none⟩ (.slice (some ⟨g, 0, none⟩) (y + 1) cap) = w8 at *
    have r8 := HP8.out.p1
    have q8 := HP8.out.p0
    have t8 := HP8.out.top_ hy1
    by_cases hx : x = 2
    · have e1 : (x == 2) = true := by rw [beq_iff_eq]; exact hx
      have HBK : Hid (back x = 1) := by show back x = 1; unfold back; rw [if_pos hx]
      clear hx
      go_quiet (fail)
      go_wp2_with fail
      have HP9 := Lib.hid (HP8.out.drew.drawn nq)
      have HF9 := Lib.hid (HF8.out.drew.drewN nq)
      clear r8 t8 q8
      generalize w8.drew.drewN nq = w9 at *
      have r9 := HP9.out.p1
      have q9 := HP9.out.p0
      have t9 := HP9.out.top_ hy1
      have rf9 := HP9.out.ftop y
      have HP10 := Lib.hid (HP9.out.settop (x' := 1) hy1)
      have HF10 := Lib.hid (HF9.out.trans (HP9.out.psettop (v := .int .u32 1) y))
      have q10 := HP10.out.p0
      go_region
      go_wp2_with fail
      refine (move_p 1 rfl (by first | exact HP10.out | exact HP10.out.drew) (by omega) hn (by decide)).mono ?_
      rintro e w11 ⟨rfl, hP11, hF11⟩
      have HP11 := Lib.hid hP11
      have HF11 : Hid (PF B w w11) := Lib.hid (HF10.out.trans (by first | exact hF11 | exact ((PF.refl B _).drew.trans hF11)))
      have q11 := hP11.p0
      clear hP11 hF11
      dsimp only
      go_wp2_with fail
      refine (shift_p HP11.out (by omega) (by omega) hn hc).mono ?_
      rintro e w12 ⟨rfl, hP12, hF12⟩
      have HP12 := Lib.hid hP12
      have HF12 := Lib.hid (HF11.out.trans hF12)
      have q12 := hP12.p0
      clear hP12 hF12
      dsimp only
      go_wp2
      go_ret2
      exact ⟨_, _, rfl, by omega, by rw [HBK.out]; exact HP12.out, HF12.out⟩
    · have e1 : (x == 2) = false := by rw [beq_eq_false_iff_ne]; exact hx
      have HBK : Hid (back x = x) := by show back x = x; unfold back; rw [if_neg hx]
      clear hx
      go_quiet (fail)
      go_wp2_with fail
      refine (move_p 1 rfl (HP8.out.drawn _) (by omega) hn (by decide)).mono ?_
      rintro e w11 ⟨rfl, hP11, hF11⟩
      have HP11 := Lib.hid hP11
      have HF11 : Hid (PF B w w11) := Lib.hid ((HF8.out.drewN _).trans hF11)
      have q11 := hP11.p0
      clear hP11 hF11
      dsimp only
      go_wp2_with fail
      refine (shift_p HP11.out (by omega) (by omega) hn hc).mono ?_
      rintro e w12 ⟨rfl, hP12, hF12⟩
      have HP12 := Lib.hid hP12
      have HF12 := Lib.hid (HF11.out.trans hF12)
      have q12 := hP12.p0
      clear hP12 hF12
      dsimp only
      go_wp2
      go_ret2
      exact ⟨_, _, rfl, by omega, by rw [HBK.out]; exact HP12.out, HF12.out⟩

set_option maxRecDepth 100000 in
set_option maxHeartbeats 3200000 in
theorem next_endarr (h : Ps B gp gi gb c r bs w i start nc ((st ++ [x]) ++ [3]) sv) (hB : Bls bs i k) (hk : pk bs k = 93) (hn : bs.length ≤ 5000) (hc : c ≤ 9223372036854775807) (hst : st.length ≤ 100000) :
    Calls Tryd.prog 12 #[.pointer (some ⟨gp, 0, none⟩)] w fun e w' => Stepped B gp gi gb c r bs w 8 k (k + 1) (k + 1) true (st ++ [back x]) e w' := by
  have hkn : k < bs.length := lt_of_pk (by omega)
  have HKK := Lib.hid hk
  obtain ⟨g, cap, rfl, hcap⟩ := h.form
  have hbl : ¬ isBl (pk bs k) := by rw [hk]; unfold isBl; omega
  clear hk
  obtain ⟨y, hy1⟩ : ∃ y, st.length = y := ⟨_, rfl⟩
  have hy : (st ++ [x]).length = y + 1 := by simp [hy1]
  rw [hy] at h hcap
  have HP0 := Lib.hid h
  have HF0 : Hid (PF B w w) := PF.refl _ _
  have hy0 : (0 : Int) ≤ (y : Int) := by omega
  have hy3 : (y : Int) + 1 ≤ (cap : Int) := by omega
  clear h
  cases nc
  all_goals
    go_enter Tryd.func12, Tryd.ntmps12
    go_wp2_with fail
    refine (white_p k HP0.out hB hbl (by omega) hn).mono ?_
    rintro e w1 ⟨rfl, hP1, hF1⟩
    have HP1 := Lib.hid hP1
    have HF1 := Lib.hid (HF0.out.trans hF1)
    have q1 := hP1.p0
    clear hP1 hF1
    dsimp only
    go_wp2_with fail
    refine (peek0_p HP1.out (by omega) hn).mono ?_
    rintro e wq ⟨rfl, rfl⟩
    rw [HKK.out]
    dsimp only
    have r1 := HP1.out.p1
    have t1 := HP1.out.top_ hy
    go_wp2_with fail
    go_quiet (fail)
    have HP2 := Lib.hid (HP1.out.drawn nq)
    have HF2 := Lib.hid (HF1.out.drewN nq)
    have q2 := HP2.out.p0
    clear r1 t1
    go_wp2_with fail
    refine (skip_p HP2.out).mono ?_
    rintro e w6 ⟨rfl, hP6, hF6⟩
    have HP6 := Lib.hid hP6
    have HF6 := Lib.hid (HF2.out.trans hF6)
    have q6 := hP6.p0
    clear hP6 hF6
    dsimp only
    have r6 := HP6.out.p1
    have s6 := HP6.out.p3
    have rf6 := HP6.out.pf1
    have sf6 := HP6.out.pf3
    clear q1 q2
    go_wp2_with fail
    have HP7 := Lib.hid (HP6.out.flag true)
    have HF7 := Lib.hid (HF6.out.trans (HP6.out.pflag (.bool true)))
    clear r6 rf6 s6 sf6 q6
    generalize w6.setCell ⟨gp, 3, none⟩ (.bool true) = w7 at *
    have r7 := HP7.out.p1
    have rf7 := HP7.out.pf1
    go_region
    go_wp2_with fail
    have HP8 := Lib.hid (HP7.out.pop hy)
    have HF8 := Lib.hid (HF7.out.trans (HP7.out.ppop (.slice (some ⟨g, 0, none⟩) (y + 1) cap)))
    clear r7 rf7
    generalize w7.setCell ⟨gp, 1, none⟩ (.slice (some ⟨g, 0, none⟩) (y + 1) cap) = w8 at *
    have r8 := HP8.out.p1
    have q8 := HP8.out.p0
    have t8 := HP8.out.top_ hy1
    by_cases hx : x = 2
    · have e1 : (x == 2) = true := by rw [beq_iff_eq]; exact hx
      have HBK : Hid (back x = 1) := by show back x = 1; unfold back; rw [if_pos hx]
      clear hx
      go_quiet (fail)
      go_wp2_with fail
      have HP9 := Lib.hid (HP8.out.drew.drawn nq)
      have HF9 := Lib.hid (HF8.out.drew.drewN nq)
      clear r8 t8 q8
      generalize w8.drew.drewN nq = w9 at *
      have r9 := HP9.out.p1
      have q9 := HP9.out.p0
      have t9 := HP9.out.top_ hy1
      have rf9 := HP9.out.ftop y
      have HP10 := Lib.hid (HP9.out.settop (x' := 1) hy1)
      have HF10 := Lib.hid (HF9.out.trans (HP9.out.psettop (v := .int .u32 1) y))
      have q10 := HP10.out.p0
      go_region
      go_wp2_with fail
      refine (move_p 1 rfl (by first | exact HP10.out | exact HP10.out.drew) (by omega) hn (by decide)).mono ?_
      rintro e w11 ⟨rfl, hP11, hF11⟩
      have HP11 := Lib.hid hP11
      have HF11 : Hid (PF B w w11) := Lib.hid (HF10.out.trans (by first | exact hF11 | exact ((PF.refl B _).drew.trans hF11)))
      have q11 := hP11.p0
      clear hP11 hF11
      dsimp only
      go_wp2_with fail
      refine (shift_p HP11.out (by omega) (by omega) hn hc).mono ?_
      rintro e w12 ⟨rfl, hP12, hF12⟩
      have HP12 := Lib.hid hP12
      have HF12 := Lib.hid (HF11.out.trans hF12)
      have q12 := hP12.p0
      clear hP12 hF12
      dsimp only
      go_wp2
      go_ret2
      exact ⟨_, _, rfl, by omega, by rw [HBK.out]; exact HP12.out, HF12.out⟩
    · have e1 : (x == 2) = false := by rw [beq_eq_false_iff_ne]; exact hx
      have HBK : Hid (back x = x) := by show back x = x; unfold back; rw [if_neg hx]
      clear hx
      go_quiet (fail)
      go_wp2_with fail
      refine (move_p 1 rfl (HP8.out.drawn _) (by omega) hn (by decide)).mono ?_
      rintro e w11 ⟨rfl, hP11, hF11⟩
      have HP11 := Lib.hid hP11
      have HF11 : Hid (PF B w w11) := Lib.hid ((HF8.out.drewN _).trans hF11)
      have q11 := hP11.p0
      clear hP11 hF11
      dsimp only
      go_wp2_with fail
      refine (shift_p HP11.out (by omega) (by omega) hn hc).mono ?_
      rintro e w12 ⟨rfl, hP12, hF12⟩
      have HP12 := Lib.hid hP12
      have HF12 := Lib.hid (HF11.out.trans hF12)
      have q12 := hP12.p0
      clear hP12 hF12
      dsimp only
      go_wp2
      go_ret2
      exact ⟨_, _, rfl, by omega, by rw [HBK.out]; exact HP12.out, HF12.out⟩
end
end Go.Proofs.YtanllbfpnpojnaaDoor
