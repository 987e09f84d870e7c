/- The parser's next step. -/
import Derived.Test.YtanllbfpnpojnaaDoorWords
import Derived.Test.YtanllbfpnpojnaaDoorStates
set_option linter.unusedVariables false
namespace Go.Proofs.YtanllbfpnpojnaaDoor
open Go.RowKit

theorem Lead.first {bs : List UInt8} {i k : Nat} {nc : Bool} {top : Int} (h : Lead bs i k nc top) (hk : ¬ isBl (pk bs k)) (hkn : k ≤ bs.length) :
    ∃ m, Bls bs i m ∧ ¬ isBl (pk bs m) ∧ m ≤ k ∧ ((m = k ∧ nc = false) ∨ (pk bs m = 44 ∧ m < k ∧ Bls bs (m + 1) k ∧ (top = 1 ∨ top = 3))) := by
  rcases h with ⟨h1, h2⟩ | ⟨h1, m, h2, h3, h4⟩
  · exact ⟨k, h2, hk, Nat.le_refl _, .inl ⟨rfl, h1⟩⟩
  · exact ⟨m, h2, by rw [h3]; unfold isBl; omega, by have := h4.1; omega, .inr ⟨h3, by have := h4.1; omega, h4, h1⟩⟩

section
variable {B gp gi gb c : Nat} {r : Value} {bs : List UInt8} {w w' : World} {pos start p' s' i j k g y cap : Nat} {nc : Bool} {st : List Int} {sv : Value} {top x : Int}

set_option maxRecDepth 100000 in
set_option maxHeartbeats 3200000 in
theorem next_obj (h : Ps B gp gi gb c r bs w i start nc (st ++ [top]) sv) (hL : Lead bs i k nc top) (hk : pk bs k = 123) (hn : bs.length ≤ 5000) (hc : c ≤ 9223372036854775807) (hst : st.length ≤ 100000) :
    Calls Tryd.prog 12 #[.pointer (some ⟨gp, 0, none⟩)] w fun e w' => Stepped B gp gi gb c r bs w 5 k (k + 1) (k + 1) false ((st ++ [top]) ++ [1]) e w' := by
  obtain ⟨i43, h43, h43z, h43s, h43b⟩ := info_parts info43
  have hkn : k < bs.length := lt_of_pk (by omega)
  have HKK := Lib.hid hk
  have HKK2 : True := trivial
  clear hk
  obtain ⟨g, cap, rfl, hcap⟩ := h.form
  obtain ⟨m, hm1, hm2, hmk, hm3⟩ := hL.first (by rw [HKK.out]; unfold isBl; omega) (by omega)
  generalize hy : st.length = y at *
  have HP0 := Lib.hid h
  have HF0 : Hid (PF B w w) := PF.refl _ _
  have hy0 : (0 : Int) ≤ (y : Int) := by omega
  clear h hL
  go_enter Tryd.func12, Tryd.ntmps12
  go_wp2_with fail
  refine (white_p m HP0.out hm1 hm2 (by omega) hn).mono ?_
  rintro e w1 ⟨rfl, hP1, hF1⟩
  have HP1 := Lib.hid hP1
  have HF1 := Lib.hid (HF0.out.trans hF1)
  have q1 := hP1.p0
  clear hP1 hF1
  dsimp only
  go_wp2_with fail
  refine (peek0_p HP1.out (by omega) hn).mono ?_
  rintro e wq ⟨rfl, rfl⟩
  dsimp only
  have r1 := HP1.out.p1
  have t1 := HP1.out.top_ hy
  clear hm1 hm2
  go_wp2_with fail
  go_quiet (fail)
  have HP2 := Lib.hid (HP1.out.drawn nq)
  have HF2 := Lib.hid (HF1.out.drewN nq)
  have q2 := HP2.out.p0
  have s2 := HP2.out.p3
  have sf2 := HP2.out.pf3
  go_upto_if 29 with (fail)
  go_cut [4] from 9 to 59 (fun v4 wc => v4 = .int .u8 (pk bs k) ∧ Hid (Ps B gp gi gb c r bs wc k start false (st ++ [top]) (.slice (some ⟨g, 0, none⟩) (y + 1) cap)) ∧ Hid (PF B w wc))
  case first =>
    rcases hm3 with ⟨rfl, rfl⟩ | ⟨h44, hmk', hB, htop⟩
    · have e1 : (pk bs m == 44) = false := by rw [HKK.out]; decide
      go_wp2_with fail
      go_meet
      case rel => exact ⟨rfl, HP2, HF2⟩
    · have e1 : (pk bs m == 44) = true := by rw [beq_iff_eq]; exact h44
      have HB := Lib.hid hB
      clear h44 hB HKK2
      rcases htop with rfl | rfl
      all_goals
        go_wp2_with fail
        refine (move_p 1 rfl HP2.out (by omega) hn (by decide)).mono ?_
        rintro e w3 ⟨rfl, hP3, hF3⟩
        have HP3 := Lib.hid hP3
        have HF3 := Lib.hid (HF2.out.trans hF3)
        have q3 := hP3.p0
        clear hP3 hF3
        dsimp only
        go_wp2_with fail
        refine (white_p k HP3.out HB.out (by rw [HKK.out]; unfold isBl; omega) (by omega) hn).mono ?_
        rintro e w4 ⟨rfl, hP4, hF4⟩
        have HP4 := Lib.hid hP4
        have HF4 := Lib.hid (HF3.out.trans hF4)
        have q4 := hP4.p0
        clear hP4 hF4
        dsimp only
        have s4 := HP4.out.p3
        have sf4 := HP4.out.pf3
        go_wp2_with fail
        have HP5 := Lib.hid (HP4.out.flag false)
        have HF5 := Lib.hid (HF4.out.trans (HP4.out.pflag (.bool false)))
        clear s4 sf4
        generalize w4.setCell ⟨gp, 3, none⟩ (.bool false) = w5 at *
        have q5 := HP5.out.p0
        refine (peek0_p HP5.out (by omega) hn).mono ?_
        rintro e wq ⟨rfl, rfl⟩
        dsimp only
        go_wp2_with fail
        go_meet
        case rel => exact ⟨rfl, HP5, HF5⟩
  case rest =>
    obtain ⟨rfl, HPk, HFk⟩ := hcut
    rw [HKK.out]
    have qk := HPk.out.p0
    clear HP0 HF0 HP1 HF1 HP2 HF2 q1 q2 r1 t1 s2 sf2 hm3
    go_wp2_with fail
    refine (skip_p HPk.out).mono ?_
    rintro e w6 ⟨rfl, hP6, hF6⟩
    have HP6 := Lib.hid hP6
    have HF6 := Lib.hid (HFk.out.trans hF6)
    have q6 := hP6.p0
    clear hP6 hF6
    dsimp only
    have r6 := HP6.out.p1
    have s6 := HP6.out.p3
    have rf6 := HP6.out.pf1
    have sf6 := HP6.out.pf3
    have hrow : Hid (w6.ownsRow B 43 1 (.slice (some ⟨g, 0, none⟩) (y + 1) cap) (y + 1) ((st ++ [top]).map (Value.int .u32))) := by
      have h1 := HP6.out.own
      rw [List.length_append, hy] at h1
      exact h1
    have hw6 : gp < w6.heap.size := HP6.out.par.lt
    have hB6 : B ≤ w6.heap.size := by have := HP6.out.hp; omega
    have hne : Hid ((Value.slice (some ⟨g, 0, none⟩) (y + 1) cap).ownBlock ≠ some gp) := own_ne_blk HP6.out.own HP6.out.par (by decide)
    have hn6 := World.new_ne w6 ⟨gp, 1, none⟩ r6
    go_wp2_with (at_builtin; refine wpList_append_lies _ rfl (.tmp 96) (.tmp 97) 57 rfl B 43 i43 _ 1 4 Tryd.underlying57 h43 h43z h43s h43b rfl (by omega) (.slice (some ⟨g, 0, none⟩) (y + 1) cap) (y + 1) ((st ++ [top]).map (Value.int .u32)) rfl (hrow.out.alloc _) ⟨w6.heap.size, 0, none⟩ 1 1 [.int .u32 1] rfl rfl (World.news_of_block (cs := #[.int .u32 1]) (t := 43) (fr := (0, 0)) (heap_alloc_new w6 _)) (by simp [Value.oneCell']) (by omega) (by unfold maxLen; omega) (by omega) (by simp; omega) (w6.heap.size + 1) (by simp) ?_; intro g2 cap2 w7 hown hgrow hat hlt; have hf7 : Frm (fun k => (Value.slice (some ⟨g, 0, none⟩) (y + 1) cap).ownBlock = some k) w6 w7 := ((Frm.refl _ w6).alloc _).trans (Frm.of_grownBy hgrow); have gf7 : w7.frozen? ⟨gp, 1, none⟩ = false := (hf7.frozen hw6 hne.out).trans rf6; have gc7 : w7.cell? ⟨gp, 1, none⟩ = some (.slice (some ⟨g, 0, none⟩) (y + 1) cap) := (hf7.cell hw6 hne.out).trans r6; have gq7 : w7.cell? ⟨gp, 0, none⟩ = some (.pointer (some ⟨gi, 0, none⟩)) := (hf7.cell hw6 hne.out).trans q6)
    have HP8 : Hid (Ps B gp gi gb c r bs (w7.setCell ⟨gp, 1, none⟩ (.slice (some ⟨g2, 0, none⟩) (y + 1 + 1) cap2)) k k false ((st ++ [top]) ++ [1]) (.slice (some ⟨g2, 0, none⟩) (y + 1 + 1) cap2)) := HP6.out.restate hf7 (by rw [List.length_append, List.length_append, List.map_append, hy]; exact hown)
    have HF8 := Lib.hid (HF6.out.trans (HP6.out.prestate (sv' := .slice (some ⟨g2, 0, none⟩) (y + 1 + 1) cap2) hf7))
    clear hown hgrow hat hlt hf7 gf7 gc7 gq7 hrow hne hn6 r6 rf6 s6 sf6
    generalize w7.setCell ⟨gp, 1, none⟩ (.slice (some ⟨g2, 0, none⟩) (y + 1 + 1) cap2) = w8 at *
    have q8 := HP8.out.p0
    refine (move_p 1 rfl HP8.out (by omega) hn (by decide)).mono ?_
    rintro e w9 ⟨rfl, hP9, hF9⟩
    have HP9 := Lib.hid hP9
    have HF9 := Lib.hid (HF8.out.trans hF9)
    have q9 := hP9.p0
    clear hP9 hF9
    dsimp only
    go_wp2_with fail
    refine (shift_p HP9.out (by omega) (by omega) hn hc).mono ?_
    rintro e w10 ⟨rfl, hP10, hF10⟩
    have HP10 := Lib.hid hP10
    have HF10 := Lib.hid (HF9.out.trans hF10)
    have q10 := hP10.p0
    clear hP10 hF10
    dsimp only
    go_wp2
    go_ret2
    exact ⟨_, _, rfl, by omega, HP10.out, HF10.out⟩

set_option maxRecDepth 100000 in
set_option maxHeartbeats 3200000 in
theorem next_arr (h : Ps B gp gi gb c r bs w i start nc (st ++ [top]) sv) (hL : Lead bs i k nc top) (hk : pk bs k = 91) (hn : bs.length ≤ 5000) (hc : c ≤ 9223372036854775807) (hst : st.length ≤ 100000) :
    Calls Tryd.prog 12 #[.pointer (some ⟨gp, 0, none⟩)] w fun e w' => Stepped B gp gi gb c r bs w 7 k (k + 1) (k + 1) false ((st ++ [top]) ++ [3]) e w' := by
  obtain ⟨i43, h43, h43z, h43s, h43b⟩ := info_parts info43
  have hkn : k < bs.length := lt_of_pk (by omega)
  have HKK := Lib.hid hk
  have HKK2 : True := trivial
  clear hk
  obtain ⟨g, cap, rfl, hcap⟩ := h.form
  obtain ⟨m, hm1, hm2, hmk, hm3⟩ := hL.first (by rw [HKK.out]; unfold isBl; omega) (by omega)
  generalize hy : st.length = y at *
  have HP0 := Lib.hid h
  have HF0 : Hid (PF B w w) := PF.refl _ _
  have hy0 : (0 : Int) ≤ (y : Int) := by omega
  clear h hL
  go_enter Tryd.func12, Tryd.ntmps12
  go_wp2_with fail
  refine (white_p m HP0.out hm1 hm2 (by omega) hn).mono ?_
  rintro e w1 ⟨rfl, hP1, hF1⟩
  have HP1 := Lib.hid hP1
  have HF1 := Lib.hid (HF0.out.trans hF1)
  have q1 := hP1.p0
  clear hP1 hF1
  dsimp only
  go_wp2_with fail
  refine (peek0_p HP1.out (by omega) hn).mono ?_
  rintro e wq ⟨rfl, rfl⟩
  dsimp only
  have r1 := HP1.out.p1
  have t1 := HP1.out.top_ hy
  clear hm1 hm2
  go_wp2_with fail
  go_quiet (fail)
  have HP2 := Lib.hid (HP1.out.drawn nq)
  have HF2 := Lib.hid (HF1.out.drewN nq)
  have q2 := HP2.out.p0
  have s2 := HP2.out.p3
  have sf2 := HP2.out.pf3
  go_upto_if 29 with (fail)
  go_cut [4] from 9 to 59 (fun v4 wc => v4 = .int .u8 (pk bs k) ∧ Hid (Ps B gp gi gb c r bs wc k start false (st ++ [top]) (.slice (some ⟨g, 0, none⟩) (y + 1) cap)) ∧ Hid (PF B w wc))
  case first =>
    rcases hm3 with ⟨rfl, rfl⟩ | ⟨h44, hmk', hB, htop⟩
    · have e1 : (pk bs m == 44) = false := by rw [HKK.out]; decide
      go_wp2_with fail
      go_meet
      case rel => exact ⟨rfl, HP2, HF2⟩
    · have e1 : (pk bs m == 44) = true := by rw [beq_iff_eq]; exact h44
      have HB := Lib.hid hB
      clear h44 hB HKK2
      rcases htop with rfl | rfl
      all_goals
        go_wp2_with fail
        refine (move_p 1 rfl HP2.out (by omega) hn (by decide)).mono ?_
        rintro e w3 ⟨rfl, hP3, hF3⟩
        have HP3 := Lib.hid hP3
        have HF3 := Lib.hid (HF2.out.trans hF3)
        have q3 := hP3.p0
        clear hP3 hF3
        dsimp only
        go_wp2_with fail
        refine (white_p k HP3.out HB.out (by rw [HKK.out]; unfold isBl; omega) (by omega) hn).mono ?_
        rintro e w4 ⟨rfl, hP4, hF4⟩
        have HP4 := Lib.hid hP4
        have HF4 := Lib.hid (HF3.out.trans hF4)
        have q4 := hP4.p0
        clear hP4 hF4
        dsimp only
        have s4 := HP4.out.p3
        have sf4 := HP4.out.pf3
        go_wp2_with fail
        have HP5 := Lib.hid (HP4.out.flag false)
        have HF5 := Lib.hid (HF4.out.trans (HP4.out.pflag (.bool false)))
        clear s4 sf4
        generalize w4.setCell ⟨gp, 3, none⟩ (.bool false) = w5 at *
        have q5 := HP5.out.p0
        refine (peek0_p HP5.out (by omega) hn).mono ?_
        rintro e wq ⟨rfl, rfl⟩
        dsimp only
        go_wp2_with fail
        go_meet
        case rel => exact ⟨rfl, HP5, HF5⟩
  case rest =>
    obtain ⟨rfl, HPk, HFk⟩ := hcut
    rw [HKK.out]
    have qk := HPk.out.p0
    clear HP0 HF0 HP1 HF1 HP2 HF2 q1 q2 r1 t1 s2 sf2 hm3
    go_wp2_with fail
    refine (skip_p HPk.out).mono ?_
    rintro e w6 ⟨rfl, hP6, hF6⟩
    have HP6 := Lib.hid hP6
    have HF6 := Lib.hid (HFk.out.trans hF6)
    have q6 := hP6.p0
    clear hP6 hF6
    dsimp only
    have r6 := HP6.out.p1
    have s6 := HP6.out.p3
    have rf6 := HP6.out.pf1
    have sf6 := HP6.out.pf3
    have hrow : Hid (w6.ownsRow B 43 1 (.slice (some ⟨g, 0, none⟩) (y + 1) cap) (y + 1) ((st ++ [top]).map (Value.int .u32))) := by
      have h1 := HP6.out.own
      rw [List.length_append, hy] at h1
      exact h1
    have hw6 : gp < w6.heap.size := HP6.out.par.lt
    have hB6 : B ≤ w6.heap.size := by have := HP6.out.hp; omega
    have hne : Hid ((Value.slice (some ⟨g, 0, none⟩) (y + 1) cap).ownBlock ≠ some gp) := own_ne_blk HP6.out.own HP6.out.par (by decide)
    have hn6 := World.new_ne w6 ⟨gp, 1, none⟩ r6
    go_wp2_with (at_builtin; refine wpList_append_lies _ rfl (.tmp 181) (.tmp 182) 57 rfl B 43 i43 _ 1 4 Tryd.underlying57 h43 h43z h43s h43b rfl (by omega) (.slice (some ⟨g, 0, none⟩) (y + 1) cap) (y + 1) ((st ++ [top]).map (Value.int .u32)) rfl (hrow.out.alloc _) ⟨w6.heap.size, 0, none⟩ 1 1 [.int .u32 3] rfl rfl (World.news_of_block (cs := #[.int .u32 3]) (t := 43) (fr := (0, 0)) (heap_alloc_new w6 _)) (by simp [Value.oneCell']) (by omega) (by unfold maxLen; omega) (by omega) (by simp; omega) (w6.heap.size + 1) (by simp) ?_; intro g2 cap2 w7 hown hgrow hat hlt; have hf7 : Frm (fun k => (Value.slice (some ⟨g, 0, none⟩) (y + 1) cap).ownBlock = some k) w6 w7 := ((Frm.refl _ w6).alloc _).trans (Frm.of_grownBy hgrow); have gf7 : w7.frozen? ⟨gp, 1, none⟩ = false := (hf7.frozen hw6 hne.out).trans rf6; have gc7 : w7.cell? ⟨gp, 1, none⟩ = some (.slice (some ⟨g, 0, none⟩) (y + 1) cap) := (hf7.cell hw6 hne.out).trans r6; have gq7 : w7.cell? ⟨gp, 0, none⟩ = some (.pointer (some ⟨gi, 0, none⟩)) := (hf7.cell hw6 hne.out).trans q6)
    have HP8 : Hid (Ps B gp gi gb c r bs (w7.setCell ⟨gp, 1, none⟩ (.slice (some ⟨g2, 0, none⟩) (y + 1 + 1) cap2)) k k false ((st ++ [top]) ++ [3]) (.slice (some ⟨g2, 0, none⟩) (y + 1 + 1) cap2)) := HP6.out.restate hf7 (by rw [List.length_append, List.length_append, List.map_append, hy]; exact hown)
    have HF8 := Lib.hid (HF6.out.trans (HP6.out.prestate (sv' := .slice (some ⟨g2, 0, none⟩) (y + 1 + 1) cap2) hf7))
    clear hown hgrow hat hlt hf7 gf7 gc7 gq7 hrow hne hn6 r6 rf6 s6 sf6
    generalize w7.setCell ⟨gp, 1, none⟩ (.slice (some ⟨g2, 0, none⟩) (y + 1 + 1) cap2) = w8 at *
    have q8 := HP8.out.p0
    refine (move_p 1 rfl HP8.out (by omega) hn (by decide)).mono ?_
    rintro e w9 ⟨rfl, hP9, hF9⟩
    have HP9 := Lib.hid hP9
    have HF9 := Lib.hid (HF8.out.trans hF9)
    have q9 := hP9.p0
    clear hP9 hF9
    dsimp only
    go_wp2_with fail
    refine (shift_p HP9.out (by omega) (by omega) hn hc).mono ?_
    rintro e w10 ⟨rfl, hP10, hF10⟩
    have HP10 := Lib.hid hP10
    have HF10 := Lib.hid (HF9.out.trans hF10)
    have q10 := hP10.p0
    clear hP10 hF10
    dsimp only
    go_wp2
    go_ret2
    exact ⟨_, _, rfl, by omega, HP10.out, HF10.out⟩
end
end Go.Proofs.YtanllbfpnpojnaaDoor
