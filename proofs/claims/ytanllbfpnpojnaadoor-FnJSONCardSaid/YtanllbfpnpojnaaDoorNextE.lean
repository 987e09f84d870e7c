/- The parser's last step, and its small methods. -/
import Derived.Test.YtanllbfpnpojnaaDoorWords
import Derived.Test.YtanllbfpnpojnaaDoorStates
set_option linter.unusedVariables false
namespace Go.Proofs.YtanllbfpnpojnaaDoor
open Go.RowKit

section
variable {B gp gi gb c : Nat} {r : Value} {bs : List UInt8} {w w' : World} {pos start p' s' i j k m g y cap : Nat} {nc : Bool} {st : List Int} {sv : Value} {top x : Int} {a0 : Addr}

set_option maxRecDepth 100000 in
set_option maxHeartbeats 3200000 in
theorem number_zero (h : Ps B gp gi gb c r bs w i start nc st sv) (hx : pk bs i = 0) (hs : start ≤ i) (hin : i ≤ bs.length) (hn : bs.length ≤ 5000) :
    Calls Tryd.prog 38 #[.pointer (some ⟨gp, 0, none⟩)] w fun e w' => e = .returned (.bool false) ∧ Ps B gp gi gb c r bs w' i start nc st sv ∧ PF B w w' := by
  have HP0 := Lib.hid h
  have q0 := h.p0
  have HX := Lib.hid hx
  clear h hx
  go_enter Tryd.func38, Tryd.ntmps38
  go_wp2_with fail
  refine (pos_p HP0.out hs hin hn).mono ?_
  rintro e w1 ⟨rfl, hP1, hF1⟩
  have HP1 := Lib.hid hP1
  have HF1 := Lib.hid hF1
  have q1 := hP1.p0
  clear hP1 hF1 q0
  dsimp only
  go_wp2_with fail
  refine (peek0_p HP1.out (by omega) hn).mono ?_
  rintro e wq ⟨rfl, rfl⟩
  rw [HX.out]
  dsimp only
  go_wp2_with fail
  refine (peek0_p HP1.out (by omega) hn).mono ?_
  rintro e wq ⟨rfl, rfl⟩
  rw [HX.out]
  dsimp only
  go_wp2_with fail
  refine (rewind_p rfl HP1.out hs hin hn).mono ?_
  rintro e w2 ⟨rfl, hP2, hF2⟩
  have HP2 := Lib.hid hP2
  have HF2 := Lib.hid (HF1.out.trans hF2)
  clear hP2 hF2
  dsimp only
  go_wp2
  go_ret
  exact ⟨rfl, HP2.out, HF2.out⟩

set_option maxRecDepth 100000 in
set_option maxHeartbeats 3200000 in
theorem literal_zero (h : Ps B gp gi gb c r bs w i start nc st sv) (hx : pk bs i = 0) (hin : i ≤ bs.length) (hn : bs.length ≤ 5000) :
    Calls Tryd.prog 39 #[.pointer (some ⟨gp, 0, none⟩)] w fun e w' => e = .returned (.bool false) ∧ w = w' := by
  have HP := Lib.hid h
  have q := h.p0
  have HX := Lib.hid hx
  clear h hx
  go_enter Tryd.func39, Tryd.ntmps39
  go_wp2_with fail
  refine (peek0_p HP.out (by omega) hn).mono ?_
  rintro e wq ⟨rfl, rfl⟩
  rw [HX.out]
  dsimp only
  go_wp2
  go_ret
  exact ⟨rfl, rfl⟩

set_option maxRecDepth 100000 in
set_option maxHeartbeats 3200000 in
theorem next_end (h : Ps B gp gi gb c r bs w i start nc (st ++ [0]) sv) (hB : Bls bs i bs.length) (hn : bs.length ≤ 5000) (hc : c ≤ 9223372036854775807) (hst : st.length ≤ 100000) (hv : w.cell? ⟨0, 0, none⟩ = some (.iface 150 (.pointer (some a0)))) (h0 : ¬ Turned B w 0) :
    Calls Tryd.prog 12 #[.pointer (some ⟨gp, 0, none⟩)] w fun e w' => e = .returned (.tuple #[.int .u32 0, .slice none 0 0]) ∧ (∃ sv', Ps B gp gi gb c r bs w' bs.length bs.length true (st ++ [0]) sv') ∧ PF B w w' := by
  obtain ⟨g, cap, rfl, hcap⟩ := h.form
  generalize hy : st.length = y at *
  have HX : Hid (pk bs bs.length = 0) := pk_ge (Nat.le_refl _)
  have hbl : ¬ isBl (pk bs bs.length) := by rw [pk_ge (Nat.le_refl _)]; unfold isBl; omega
  have HP0 := Lib.hid h
  have HF0 : Hid (PF B w w) := PF.refl _ _
  have HV := Lib.hid hv
  have H0 := Lib.hid h0
  have hlt0 : 0 < w.heap.size := World.block_lt_of_cell? w _ hv
  have HBB := Lib.hid hB
  clear h hv h0 hB
  cases nc
  all_goals
    go_enter Tryd.func12, Tryd.ntmps12
    go_wp2_with fail
    refine (white_p bs.length HP0.out HBB.out hbl (Nat.le_refl _) hn).mono ?_
    rintro e w1 ⟨rfl, hP1, hF1⟩
    have HP1 := Lib.hid hP1
    have HF1 := Lib.hid (HF0.out.trans hF1)
    have q1 := hP1.p0
    clear hP1 hF1
    dsimp only
    go_wp2_with fail
    refine (peek0_p HP1.out (by omega) hn).mono ?_
    rintro e wq ⟨rfl, rfl⟩
    rw [HX.out]
    dsimp only
    have r1 := HP1.out.p1
    have t1 := HP1.out.top_ hy
    go_wp2_with fail
    go_quiet (fail)
    have HP2 := Lib.hid (HP1.out.drawn nq)
    have HF2 := Lib.hid (HF1.out.drewN nq)
    have q2 := HP2.out.p0
    clear r1 t1
    go_wp2_with fail
    refine (skip_p HP2.out).mono ?_
    rintro e w6 ⟨rfl, hP6, hF6⟩
    have HP6 := Lib.hid hP6
    have HF6 := Lib.hid (HF2.out.trans hF6)
    have q6 := hP6.p0
    clear hP6 hF6
    dsimp only
    have r6 := HP6.out.p1
    have s6 := HP6.out.p3
    have rf6 := HP6.out.pf1
    have sf6 := HP6.out.pf3
    go_wp2_with fail
    have HP7 := Lib.hid (HP6.out.flag true)
    have HF7 := Lib.hid (HF6.out.trans (HP6.out.pflag (.bool true)))
    clear r6 rf6 s6 sf6 q6 q1 q2
    generalize w6.setCell ⟨gp, 3, none⟩ (.bool true) = w7 at *
    have q7 := HP7.out.p0
    refine (number_zero HP7.out HX.out (Nat.le_refl _) (Nat.le_refl _) hn).mono ?_
    rintro e w8 ⟨rfl, hP8, hF8⟩
    have HP8 := Lib.hid hP8
    have HF8 := Lib.hid (HF7.out.trans hF8)
    have q8 := hP8.p0
    clear hP8 hF8
    dsimp only
    go_wp2_with fail
    refine (literal_zero HP8.out HX.out (Nat.le_refl _) hn).mono ?_
    rintro e wq ⟨rfl, rfl⟩
    dsimp only
    go_wp2_with fail
    refine (peek0_p HP8.out (by omega) hn).mono ?_
    rintro e wq ⟨rfl, rfl⟩
    rw [HX.out]
    dsimp only
    have hv8 : w8.cell? ⟨0, 0, none⟩ = some (.iface 150 (.pointer (some a0))) := (HF8.out.cell hlt0 H0.out).trans HV.out
    go_wp2_with fail
    refine (err_p HP8.out rfl hn hv8).mono ?_
    rintro e w9 ⟨rfl, hP9, hF9⟩
    have HP9 := Lib.hid hP9
    have HF9 := Lib.hid (HF8.out.trans hF9)
    have q9 := hP9.p0
    clear hP9 hF9
    dsimp only
    go_wp2
    go_ret2
    exact ⟨rfl, ⟨_, HP9.out⟩, HF9.out⟩

set_option maxHeartbeats 400000 in
theorem perr_p (h : Ps B gp gi gb c r bs w bs.length start nc st sv) (hn : bs.length ≤ 5000) {v : Value} (hv : w.cell? ⟨0, 0, none⟩ = some v) :
    Calls Tryd.prog 16 #[.pointer (some ⟨gp, 0, none⟩)] w fun e w' => e = .returned v ∧ Ps B gp gi gb c r bs w' bs.length start nc st sv ∧ PF B w w' := by
  have HP := Lib.hid h
  have q0 := h.p0
  have q2 := h.p2
  clear h
  go_enter Tryd.func16, Tryd.ntmps16
  go_wp2_with fail
  refine (err_p HP.out rfl hn hv).mono ?_
  rintro e w1 ⟨rfl, hP, hF⟩
  dsimp only
  go_wp2
  go_ret
  exact ⟨rfl, hP, hF⟩

set_option maxHeartbeats 400000 in
theorem state_p (h : Ps B gp gi gb c r bs w pos start nc (st ++ [x]) sv) (hst : st.length ≤ 100000) :
    Calls Tryd.prog 15 #[.pointer (some ⟨gp, 0, none⟩)] w fun e w' => e = .returned (.int .u32 x) ∧ Ps B gp gi gb c r bs w' pos start nc (st ++ [x]) sv ∧ PF B w w' := by
  obtain ⟨g, cap, rfl, hcap⟩ := h.form
  have HP := Lib.hid h
  have r1 := h.p1
  generalize hy : st.length = y at *
  have t1 := h.top_ hy
  clear h
  go_enter Tryd.func15, Tryd.ntmps15
  go_wp2
  go_quiet (fail)
  go_wp2
  go_ret
  exact ⟨rfl, HP.out.drawn _, (PF.refl B w).drewN _⟩
end

theorem kind_2 (w : World) : Calls Tryd.prog 13 #[.int .u32 2] w fun e w' => e = .returned (.string (kindS 2)) ∧ w = w' := by
  go_enter Tryd.func13, Tryd.ntmps13
  go_wp2
  go_ret
  exact ⟨rfl, rfl⟩

theorem kind_3 (w : World) : Calls Tryd.prog 13 #[.int .u32 3] w fun e w' => e = .returned (.string (kindS 3)) ∧ w = w' := by
  go_enter Tryd.func13, Tryd.ntmps13
  go_wp2
  go_ret
  exact ⟨rfl, rfl⟩

theorem kind_4 (w : World) : Calls Tryd.prog 13 #[.int .u32 4] w fun e w' => e = .returned (.string (kindS 4)) ∧ w = w' := by
  go_enter Tryd.func13, Tryd.ntmps13
  go_wp2
  go_ret
  exact ⟨rfl, rfl⟩

theorem kind_5 (w : World) : Calls Tryd.prog 13 #[.int .u32 5] w fun e w' => e = .returned (.string (kindS 5)) ∧ w = w' := by
  go_enter Tryd.func13, Tryd.ntmps13
  go_wp2
  go_ret
  exact ⟨rfl, rfl⟩

theorem kind_6 (w : World) : Calls Tryd.prog 13 #[.int .u32 6] w fun e w' => e = .returned (.string (kindS 6)) ∧ w = w' := by
  go_enter Tryd.func13, Tryd.ntmps13
  go_wp2
  go_ret
  exact ⟨rfl, rfl⟩

theorem kind_7 (w : World) : Calls Tryd.prog 13 #[.int .u32 7] w fun e w' => e = .returned (.string (kindS 7)) ∧ w = w' := by
  go_enter Tryd.func13, Tryd.ntmps13
  go_wp2
  go_ret
  exact ⟨rfl, rfl⟩

theorem kind_8 (w : World) : Calls Tryd.prog 13 #[.int .u32 8] w fun e w' => e = .returned (.string (kindS 8)) ∧ w = w' := by
  go_enter Tryd.func13, Tryd.ntmps13
  go_wp2
  go_ret
  exact ⟨rfl, rfl⟩

theorem stateS_0 (w : World) : Calls Tryd.prog 14 #[.int .u32 0] w fun e w' => e = .returned (.string (stateS 0)) ∧ w = w' := by
  go_enter Tryd.func14, Tryd.ntmps14
  go_wp2
  go_ret
  exact ⟨rfl, rfl⟩

theorem stateS_1 (w : World) : Calls Tryd.prog 14 #[.int .u32 1] w fun e w' => e = .returned (.string (stateS 1)) ∧ w = w' := by
  go_enter Tryd.func14, Tryd.ntmps14
  go_wp2
  go_ret
  exact ⟨rfl, rfl⟩

theorem stateS_2 (w : World) : Calls Tryd.prog 14 #[.int .u32 2] w fun e w' => e = .returned (.string (stateS 2)) ∧ w = w' := by
  go_enter Tryd.func14, Tryd.ntmps14
  go_wp2
  go_ret
  exact ⟨rfl, rfl⟩

theorem stateS_3 (w : World) : Calls Tryd.prog 14 #[.int .u32 3] w fun e w' => e = .returned (.string (stateS 3)) ∧ w = w' := by
  go_enter Tryd.func14, Tryd.ntmps14
  go_wp2
  go_ret
  exact ⟨rfl, rfl⟩

theorem kind_p (w : World) {kd : Int} (h : 2 ≤ kd ∧ kd ≤ 8) : Calls Tryd.prog 13 #[.int .u32 kd] w fun e w' => e = .returned (.string (kindS kd)) ∧ w = w' := by
  rcases (by omega : kd = 2 ∨ kd = 3 ∨ kd = 4 ∨ kd = 5 ∨ kd = 6 ∨ kd = 7 ∨ kd = 8) with rfl | rfl | rfl | rfl | rfl | rfl | rfl
  · exact kind_2 w
  · exact kind_3 w
  · exact kind_4 w
  · exact kind_5 w
  · exact kind_6 w
  · exact kind_7 w
  · exact kind_8 w
theorem stateS_p (w : World) {x : Int} (h : 0 ≤ x ∧ x ≤ 3) : Calls Tryd.prog 14 #[.int .u32 x] w fun e w' => e = .returned (.string (stateS x)) ∧ w = w' := by
  rcases (by omega : x = 0 ∨ x = 1 ∨ x = 2 ∨ x = 3) with rfl | rfl | rfl | rfl
  · exact stateS_0 w
  · exact stateS_1 w
  · exact stateS_2 w
  · exact stateS_3 w
end Go.Proofs.YtanllbfpnpojnaaDoor
