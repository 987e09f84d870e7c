/- The reference reads a value. -/
import Derived.Test.YtanllbfpnpojnaaDoorParse
set_option linter.unusedVariables false
namespace Go.Proofs.YtanllbfpnpojnaaDoor
open Go.RowKit

section
variable {B R : Nat} {A : Option Addr} {c : Nat} {bs xs : List UInt8} {vo va : Value} {w1 w w' : World} {a b : Nat} {qs : List (Pc × Value)}

set_option maxRecDepth 100000 in
set_option maxHeartbeats 6400000 in
theorem value_step (hn : bs.length ≤ 2147483647) (hc : bs.length ≤ c) (hc2 : c ≤ 9223372036854775807) (ih : ∀ a', a < a' → ValAt B R A c bs a') : ValAt B R A c bs a := by
  intro w qs xs vo va h ha hx
  have hmf : ∀ (fn : Fn) (first cap : Array Value) (w : World), (Instr.makeFunc fn first cap).run Tryd.prog w = .ok (.func fn first cap) w := fun _ _ _ _ => rfl
  have HH := Lib.hid h
  have IH := Lib.hid ih
  have HFEW : Hid (qs.length ≤ a) := h.few
  clear h ih
  go_enter Tryd.func7, Tryd.ntmps7
  go_wp2_with fail
  refine (blanks_s HH.out.rs hn ha).mono ?_
  rintro e w2 ⟨rfl, k, hB, hk, hS⟩
  have HB := Lib.hid hB
  have hak : a ≤ k := hB.1
  have HD := Lib.hid (HH.out.of_rs hS hak)
  have HF := Lib.hid hS.frm
  clear hB hS
  dsimp only
  go_wp2_with fail
  have g1 : w2.cell? ⟨R, 1, none⟩ = some (.int .i64 (k : Int)) := HD.out.rs.c1
  go_region_held3 (fun w' => w'.cell? ⟨R, 1, none⟩ = some (.int .i64 (k : Int)))
    (first | go_keep | assumption)
    (first
      | (go_at_call 18; refine (peek_s (w1 := w2) HD.out.rs.drew hn hk).mono ?_; rintro e w3 ⟨rfl, hS3⟩; have k3 := hS3.c1)
      | fail)
  have HD3 := Lib.hid (HD.out.of_rs hS3 (Nat.le_refl _))
  have HF3 := Lib.hid (HF.out.trans hS3.frm)
  clear hS3 k3 g1
  obtain ⟨A', c', rfl⟩ : ∃ A' c', va = .slice A' xs.length c' := by
    rcases HH.out.abv.2 with ⟨e, h0⟩ | ⟨g, cap, cur, e, _⟩
    · exact ⟨_, _, by rw [e, h0]⟩
    · exact ⟨_, _, e⟩
  have k3 : w3.cell? ⟨R, 3, none⟩ = some (.slice A' xs.length c') := HD3.out.rs.c3
  by_cases hdeep : 40 < xs.length
  · have hd : (40 : Int) < (xs.length : Int) := by omega
    go_wp2
    go_ret
    exact .inl ⟨k, _, _, rfl, hk, HD3.out.rs.here, HF3.out⟩
  · have hd : ¬ (40 : Int) < (xs.length : Int) := by omega
    by_cases h123 : pk bs k = 123
    · have H123 := Lib.hid h123
      have hlt : k < bs.length := lt_of_pk (by omega)
      rw [h123]
      clear h123
      go_wp2_with fail
      refine (bracket_open 123 5 _ HD3.out rfl hn hc hc2 hlt H123.out (by omega)).mono ?_
      rintro e w4 ⟨rfl, vo4, v4, va4, hR4, hF4⟩
      have HR4 := Lib.hid hR4
      have HF4 := Lib.hid (HF3.out.trans hF4)
      clear hR4 hF4 k3
      dsimp only
      go_wp2_with fail
      refine (list_obj HR4.out hn (by omega) (fun w' a' qs' vo' va' h1 h2 h3 => member_s h3 hn hc hc2 h2 (by omega) (fun a'' h4 => IH.out a'' (by omega)))).mono ?_
      rintro e w5 (⟨b5, vo5, va5, rfl, hb5, hS5, hF5⟩ | ⟨b5, new5, vo5, va5, rfl, hb5, hR5, hF5, hL5, hcl5, hle5⟩)
      · dsimp only
        go_wp2
        go_ret
        exact .inl ⟨b5, _, _, rfl, hb5, hS5, HF4.out.trans hF5⟩
      · have HR5 := Lib.hid hR5
        have HF5 := Lib.hid (HF4.out.trans hF5)
        have HV : Hid (ValOk bs xs a (b5 + 1) (⟨5, k, k + 1, 1⟩ :: (new5.map Prod.fst ++ [⟨6, b5, b5 + 1, topR xs⟩]))) := ValOk.obj HB.out H123.out hL5 hcl5
        have hlt5 : b5 < bs.length := lt_of_pk (by omega)
        clear hR5 hF5 hL5 hcl5
        dsimp only
        go_wp2_with fail
        refine (bracket_close 123 6 _ HR5.out rfl hn hc hc2 hlt5 (by omega)).mono ?_
        rintro e w6 ⟨rfl, vo6, v6, va6, hR6, hF6⟩
        have HR6 := Lib.hid hR6
        have HF6 := Lib.hid (HF5.out.trans hF6)
        clear hR6 hF6
        dsimp only
        go_wp2
        go_ret
        refine .inr ⟨b5 + 1, (⟨5, k, k + 1, 1⟩, v4) :: (new5 ++ [(⟨6, b5, b5 + 1, topR xs⟩, v6)]), vo6, va6, rfl, by omega, ?_, HF6.out, by simpa using HV.out, by omega⟩
        have h6 := HR6.out
        rw [topR_obj] at h6
        simpa using h6
    · by_cases h91 : pk bs k = 91
      · have H91 := Lib.hid h91
        have hlt : k < bs.length := lt_of_pk (by omega)
        rw [h91]
        clear h91
        go_wp2_with fail
        refine (bracket_open 91 7 _ HD3.out rfl hn hc hc2 hlt H91.out (by omega)).mono ?_
        rintro e w4 ⟨rfl, vo4, v4, va4, hR4, hF4⟩
        have HR4 := Lib.hid hR4
        have HF4 := Lib.hid (HF3.out.trans hF4)
        clear hR4 hF4 k3
        dsimp only
        go_wp2_with fail
        refine (list_arr HR4.out hn (by omega) (fun w' a' qs' vo' va' h1 h2 h3 => (IH.out a' (by omega) w' qs' _ vo' va' h3 h2 (by simp; omega)).mono (fun e w'' h => h.imp (fun h => h) (fun ⟨b, new, vo, va, h1, h2, h3, h4, h5, h6⟩ => ⟨b, new, vo, va, h1, h2, h3, h4, ElOk.of_val h5, h6⟩)))).mono ?_
        rintro e w5 (⟨b5, vo5, va5, rfl, hb5, hS5, hF5⟩ | ⟨b5, new5, vo5, va5, rfl, hb5, hR5, hF5, hL5, hcl5, hle5⟩)
        · dsimp only
          go_wp2
          go_ret
          exact .inl ⟨b5, _, _, rfl, hb5, hS5, HF4.out.trans hF5⟩
        · have HR5 := Lib.hid hR5
          have HF5 := Lib.hid (HF4.out.trans hF5)
          have HV : Hid (ValOk bs xs a (b5 + 1) (⟨7, k, k + 1, 3⟩ :: (new5.map Prod.fst ++ [⟨8, b5, b5 + 1, topR xs⟩]))) := ValOk.arr HB.out H91.out hL5 hcl5
          have hlt5 : b5 < bs.length := lt_of_pk (by omega)
          clear hR5 hF5 hL5 hcl5
          dsimp only
          go_wp2_with fail
          refine (bracket_close 91 8 _ HR5.out rfl hn hc hc2 hlt5 (by omega)).mono ?_
          rintro e w6 ⟨rfl, vo6, v6, va6, hR6, hF6⟩
          have HR6 := Lib.hid hR6
          have HF6 := Lib.hid (HF5.out.trans hF6)
          clear hR6 hF6
          dsimp only
          go_wp2
          go_ret
          refine .inr ⟨b5 + 1, (⟨7, k, k + 1, 3⟩, v4) :: (new5 ++ [(⟨8, b5, b5 + 1, topR xs⟩, v6)]), vo6, va6, rfl, by omega, ?_, HF6.out, by simpa using HV.out, by omega⟩
          have h6 := HR6.out
          rw [topR_arr] at h6
          simpa using h6
      · by_cases h34 : pk bs k = 34
        · have H34 := Lib.hid h34
          have hlt : k < bs.length := lt_of_pk (by omega)
          rw [h34]
          clear h34
          go_wp2_with fail
          refine (quoted_s HD3.out.rs hn hk).mono ?_
          rintro e w4 ⟨ok, j, rfl, hj, hS, hok⟩
          have HS := Lib.hid hS
          have HOK := Lib.hid hok
          clear hS hok
          dsimp only
          cases ok
          · go_wp2
            go_ret
            exact .inl ⟨j, _, _, rfl, hj, HS.out.here, HF3.out.trans HS.out.frm⟩
          · obtain ⟨hjn, hT⟩ := HOK.out rfl
            have hkj : k + 2 ≤ j := hT.1
            have HV : Hid (ValOk bs xs a j [⟨4, k, j, topR xs⟩]) := ValOk.str HB.out hT
            have HD4 := Lib.hid (HD3.out.of_rs HS.out (by omega))
            clear hT HOK
            go_wp2_with fail
            refine (state_s xs HD4.out.rs ⟨B, HD4.out.abv⟩ (by omega)).mono ?_
            rintro e w5 ⟨rfl, hS5⟩
            have HD5 := Lib.hid (HD4.out.of_rs hS5 (Nat.le_refl _))
            have HF5 := Lib.hid ((HF3.out.trans HS.out.frm).trans hS5.frm)
            clear hS5
            dsimp only
            go_wp2_with fail
            refine (note_s ⟨4, k, j, topR xs⟩ _ _ HD5.out rfl rfl hn hc hc2 rfl (by show k < j; omega) hjn (by have := HFEW.out; omega)).mono ?_
            rintro e w6 ⟨rfl, vo6, v6, hR6, hF6⟩
            have HR6 := Lib.hid hR6
            have HF6 := Lib.hid (HF5.out.trans hF6)
            clear hR6 hF6
            dsimp only
            go_wp2
            go_ret
            exact .inr ⟨j, [(⟨4, k, j, topR xs⟩, v6)], vo6, _, rfl, hjn, HR6.out, HF6.out, HV.out, by omega⟩
        · have q1 : (pk bs k == 123) = false := by rw [beq_eq_false_iff_ne]; exact h123
          have q2 : (pk bs k == 91) = false := by rw [beq_eq_false_iff_ne]; exact h91
          have q3 : (pk bs k == 34) = false := by rw [beq_eq_false_iff_ne]; exact h34
          clear h123 h91 h34
          go_wp2_with fail
          refine (literal_s [116, 114, 117, 101] HD3.out.rs hn hc hc2 hk (by decide) (by decide)).mono ?_
          rintro e wL4 ⟨okL4, jL4, rfl, hjL4, hSL4, htL4, hfL4⟩
          cases okL4
          rotate_left
          · obtain ⟨hjw, hW⟩ := htL4 rfl
            have hjk : jL4 = k + 4 := hjw
            have hjnL4 : jL4 ≤ bs.length := by have := hW.1; simp at this; omega
            have HVL4 : Hid (ValOk bs xs a jL4 [⟨2, k, jL4, topR xs⟩]) := by
              rw [hjk]
              exact ValOk.lit HB.out (lit_true hW)
            clear hW hjw
            have HDL4 := Lib.hid (HD3.out.of_rs hSL4 (by omega))
            have HGL4 := Lib.hid (HF3.out.trans hSL4.frm)
            clear hSL4 htL4 hfL4
            dsimp only
            go_wp2_with fail
            refine (state_s xs HDL4.out.rs ⟨B, HDL4.out.abv⟩ (by omega)).mono ?_
            rintro e v5 ⟨rfl, hS5⟩
            have HD5 := Lib.hid (HDL4.out.of_rs hS5 (Nat.le_refl _))
            have HF5 := Lib.hid (HGL4.out.trans hS5.frm)
            clear hS5
            dsimp only
            go_wp2_with fail
            refine (note_s ⟨2, k, jL4, topR xs⟩ _ _ HD5.out rfl rfl hn hc hc2 rfl (by show k < jL4; omega) hjnL4 (by have := HFEW.out; omega)).mono ?_
            rintro e v6 ⟨rfl, vo6, u6, hR6, hF6⟩
            have HR6 := Lib.hid hR6
            have HF6 := Lib.hid (HF5.out.trans hF6)
            clear hR6 hF6
            dsimp only
            go_wp2
            go_ret
            exact .inr ⟨jL4, [(⟨2, k, jL4, topR xs⟩, u6)], vo6, _, rfl, hjnL4, HR6.out, HF6.out, HVL4.out, by omega⟩
          have hjk' := (hfL4 rfl).symm
          subst hjk'
          have HDL4 := Lib.hid (HD3.out.of_rs hSL4 (Nat.le_refl _))
          have HFL4 := Lib.hid (HF3.out.trans hSL4.frm)
          clear hSL4 htL4 hfL4
          dsimp only
          go_wp2_with fail
          refine (literal_s [102, 97, 108, 115, 101] HDL4.out.rs hn hc hc2 hk (by decide) (by decide)).mono ?_
          rintro e wL5 ⟨okL5, jL5, rfl, hjL5, hSL5, htL5, hfL5⟩
          cases okL5
          rotate_left
          · obtain ⟨hjw, hW⟩ := htL5 rfl
            have hjk : jL5 = k + 5 := hjw
            have hjnL5 : jL5 ≤ bs.length := by have := hW.1; simp at this; omega
            have HVL5 : Hid (ValOk bs xs a jL5 [⟨2, k, jL5, topR xs⟩]) := by
              rw [hjk]
              exact ValOk.lit HB.out (lit_false hW)
            clear hW hjw
            have HDL5 := Lib.hid (HDL4.out.of_rs hSL5 (by omega))
            have HGL5 := Lib.hid (HFL4.out.trans hSL5.frm)
            clear hSL5 htL5 hfL5
            dsimp only
            go_wp2_with fail
            refine (state_s xs HDL5.out.rs ⟨B, HDL5.out.abv⟩ (by omega)).mono ?_
            rintro e v5 ⟨rfl, hS5⟩
            have HD5 := Lib.hid (HDL5.out.of_rs hS5 (Nat.le_refl _))
            have HF5 := Lib.hid (HGL5.out.trans hS5.frm)
            clear hS5
            dsimp only
            go_wp2_with fail
            refine (note_s ⟨2, k, jL5, topR xs⟩ _ _ HD5.out rfl rfl hn hc hc2 rfl (by show k < jL5; omega) hjnL5 (by have := HFEW.out; omega)).mono ?_
            rintro e v6 ⟨rfl, vo6, u6, hR6, hF6⟩
            have HR6 := Lib.hid hR6
            have HF6 := Lib.hid (HF5.out.trans hF6)
            clear hR6 hF6
            dsimp only
            go_wp2
            go_ret
            exact .inr ⟨jL5, [(⟨2, k, jL5, topR xs⟩, u6)], vo6, _, rfl, hjnL5, HR6.out, HF6.out, HVL5.out, by omega⟩
          have hjk' := (hfL5 rfl).symm
          subst hjk'
          have HDL5 := Lib.hid (HDL4.out.of_rs hSL5 (Nat.le_refl _))
          have HFL5 := Lib.hid (HFL4.out.trans hSL5.frm)
          clear hSL5 htL5 hfL5
          dsimp only
          go_wp2_with fail
          refine (literal_s [110, 117, 108, 108] HDL5.out.rs hn hc hc2 hk (by decide) (by decide)).mono ?_
          rintro e wL6 ⟨okL6, jL6, rfl, hjL6, hSL6, htL6, hfL6⟩
          cases okL6
          rotate_left
          · obtain ⟨hjw, hW⟩ := htL6 rfl
            have hjk : jL6 = k + 4 := hjw
            have hjnL6 : jL6 ≤ bs.length := by have := hW.1; simp at this; omega
            have HVL6 : Hid (ValOk bs xs a jL6 [⟨2, k, jL6, topR xs⟩]) := by
              rw [hjk]
              exact ValOk.lit HB.out (lit_null hW)
            clear hW hjw
            have HDL6 := Lib.hid (HDL5.out.of_rs hSL6 (by omega))
            have HGL6 := Lib.hid (HFL5.out.trans hSL6.frm)
            clear hSL6 htL6 hfL6
            dsimp only
            go_wp2_with fail
            refine (state_s xs HDL6.out.rs ⟨B, HDL6.out.abv⟩ (by omega)).mono ?_
            rintro e v5 ⟨rfl, hS5⟩
            have HD5 := Lib.hid (HDL6.out.of_rs hS5 (Nat.le_refl _))
            have HF5 := Lib.hid (HGL6.out.trans hS5.frm)
            clear hS5
            dsimp only
            go_wp2_with fail
            refine (note_s ⟨2, k, jL6, topR xs⟩ _ _ HD5.out rfl rfl hn hc hc2 rfl (by show k < jL6; omega) hjnL6 (by have := HFEW.out; omega)).mono ?_
            rintro e v6 ⟨rfl, vo6, u6, hR6, hF6⟩
            have HR6 := Lib.hid hR6
            have HF6 := Lib.hid (HF5.out.trans hF6)
            clear hR6 hF6
            dsimp only
            go_wp2
            go_ret
            exact .inr ⟨jL6, [(⟨2, k, jL6, topR xs⟩, u6)], vo6, _, rfl, hjnL6, HR6.out, HF6.out, HVL6.out, by omega⟩
          have hjk' := (hfL6 rfl).symm
          subst hjk'
          have HDL6 := Lib.hid (HDL5.out.of_rs hSL6 (Nat.le_refl _))
          have HFL6 := Lib.hid (HFL5.out.trans hSL6.frm)
          clear hSL6 htL6 hfL6
          dsimp only
          go_wp2_with fail
          refine (number_s HDL6.out.rs hn hk).mono ?_
          rintro e wN ⟨okN, jN, rfl, hjN, hSN, htN⟩
          cases okN
          · have HSN := Lib.hid hSN
            clear hSN htN
            dsimp only
            go_wp2
            go_ret
            exact .inl ⟨jN, _, _, rfl, hjN, HSN.out.here, HFL6.out.trans HSN.out.frm⟩
          · obtain ⟨hjnN, hT⟩ := htN rfl
            have hkj : k < jN := hT.lt
            have HVN : Hid (ValOk bs xs a jN [⟨3, k, jN, topR xs⟩]) := ValOk.num HB.out hT
            have hfN : True := trivial
            clear hT
            have HDN := Lib.hid (HDL6.out.of_rs hSN (by omega))
            have HGN := Lib.hid (HFL6.out.trans hSN.frm)
            clear hSN htN hfN
            dsimp only
            go_wp2_with fail
            refine (state_s xs HDN.out.rs ⟨B, HDN.out.abv⟩ (by omega)).mono ?_
            rintro e v5 ⟨rfl, hS5⟩
            have HD5 := Lib.hid (HDN.out.of_rs hS5 (Nat.le_refl _))
            have HF5 := Lib.hid (HGN.out.trans hS5.frm)
            clear hS5
            dsimp only
            go_wp2_with fail
            refine (note_s ⟨3, k, jN, topR xs⟩ _ _ HD5.out rfl rfl hn hc hc2 rfl (by show k < jN; omega) hjnN (by have := HFEW.out; omega)).mono ?_
            rintro e v6 ⟨rfl, vo6, u6, hR6, hF6⟩
            have HR6 := Lib.hid hR6
            have HF6 := Lib.hid (HF5.out.trans hF6)
            clear hR6 hF6
            dsimp only
            go_wp2
            go_ret
            exact .inr ⟨jN, [(⟨3, k, jN, topR xs⟩, u6)], vo6, _, rfl, hjnN, HR6.out, HF6.out, HVN.out, by omega⟩
end
end Go.Proofs.YtanllbfpnpojnaaDoor
