/- The reference reads members, lists and values. -/
import Derived.Test.YtanllbfpnpojnaaDoorBracket
set_option linter.unusedVariables false
namespace Go.Proofs.YtanllbfpnpojnaaDoor
open Go.RowKit

theorem pk_word {bs : List UInt8} {a : Nat} {s : List UInt8} (h : WordAt bs a s) (i : Nat) (hi : i < s.length) : pk bs (a + i) = ((s[i]'hi).toNat : Int) := by
  have h1 := h.1
  have h2 := h.2
  rw [pk_lt (by omega)]
  have : s[i]'hi = bs[a + i]'(by omega) := by
    have h3 : ((bs.drop a).take s.length)[i]? = s[i]? := by rw [h2]
    rw [List.getElem?_take_of_lt hi, List.getElem?_drop, List.getElem?_eq_getElem (by omega), List.getElem?_eq_getElem hi] at h3
    exact (Option.some.inj h3).symm
  rw [this]
theorem lit_true {bs : List UInt8} {a : Nat} (h : WordAt bs a [116, 114, 117, 101]) : LitTok bs a (a + 4) :=
  .inl ⟨pk_word h 0 (by decide), pk_word h 1 (by decide), pk_word h 2 (by decide), pk_word h 3 (by decide), rfl⟩
theorem lit_false {bs : List UInt8} {a : Nat} (h : WordAt bs a [102, 97, 108, 115, 101]) : LitTok bs a (a + 5) :=
  .inr (.inl ⟨pk_word h 0 (by decide), pk_word h 1 (by decide), pk_word h 2 (by decide), pk_word h 3 (by decide), pk_word h 4 (by decide), rfl⟩)
theorem lit_null {bs : List UInt8} {a : Nat} (h : WordAt bs a [110, 117, 108, 108]) : LitTok bs a (a + 4) :=
  .inr (.inr ⟨pk_word h 0 (by decide), pk_word h 1 (by decide), pk_word h 2 (by decide), pk_word h 3 (by decide), rfl⟩)
theorem NumTok.lt {bs : List UInt8} {i j : Nat} (h : NumTok bs i j) : i < j := by
  obtain ⟨a, b, c, h1, h2, h3, h4⟩ := h
  have a1 : i ≤ a := by rcases h1 with ⟨_, h⟩ | ⟨_, h⟩ <;> omega
  have a2 : a < b := by rcases h2 with ⟨_, h⟩ | ⟨_, _, h, _⟩ <;> omega
  have a3 : b ≤ c := by rcases h3 with ⟨_, h, _⟩ | ⟨_, h⟩ <;> omega
  have a4 : c ≤ j := by
    rcases h4 with ⟨_, _, h⟩ | ⟨_, d, hs, h, _⟩
    · omega
    · rcases hs with ⟨_, hs⟩ | ⟨_, _, hs⟩ <;> omega
  omega

section
variable {B R : Nat} {A : Option Addr} {c : Nat} {bs xs : List UInt8} {vo va : Value} {w1 w w' : World} {a b : Nat} {qs : List (Pc × Value)}

/-- It answers a truth; where that is true, what has been read is so and has been noted. -/
def Parsed (B R : Nat) (A : Option Addr) (c : Nat) (bs : List UInt8) (w : World) (Q : Nat → List Pc → Prop) (qs : List (Pc × Value)) (xs : List UInt8) (e : Ending) (w' : World) : Prop :=
  (∃ b vo' va', e = .returned (.bool false) ∧ b ≤ bs.length + 1 ∧ Rs B R A c bs vo' va' w' w' b ∧ Frm (fun k => B ≤ k) w w') ∨
  (∃ (b : Nat) (new : List (Pc × Value)) (vo' va' : Value), e = .returned (.bool true) ∧ b ≤ bs.length ∧ Rd B R A c bs w' b (qs ++ new) xs vo' va' ∧ Frm (fun k => B ≤ k) w w' ∧ Q b (new.map Prod.fst))

/-- The contract of the reading of a value at a place. -/
def ValAt (B R : Nat) (A : Option Addr) (c : Nat) (bs : List UInt8) (a : Nat) : Prop :=
  ∀ (w : World) (qs : List (Pc × Value)) (xs : List UInt8) (vo va : Value), Rd B R A c bs w a qs xs vo va → a ≤ bs.length + 1 → xs.length ≤ 41 →
    Calls Tryd.prog 7 #[.pointer (some ⟨R, 0, none⟩)] w fun e w' => Parsed B R A c bs w (fun b ps => ValOk bs xs a b ps ∧ a < b) qs xs e w'

theorem Rs.frm (h : Rs B R A c bs vo va w1 w a) : Frm (fun k => B ≤ k) w1 w := h.2.2.2.mono (fun k _ e => by have := h.2.2.1; omega)

set_option maxRecDepth 100000 in
set_option maxHeartbeats 1600000 in
theorem member_s (h : Rd B R A c bs w a qs (xs ++ [123]) vo va) (hn : bs.length ≤ 2147483647) (hc : bs.length ≤ c) (hc2 : c ≤ 9223372036854775807) (ha : a ≤ bs.length + 1) (hx : xs.length ≤ 40)
    (ih : ∀ a', a < a' → ValAt B R A c bs a') :
    Calls Tryd.prog 21 #[.pointer (some ⟨R, 0, none⟩)] w fun e w' => Parsed B R A c bs w (fun b ps => ElOk bs 1 a b ps ∧ a < b) qs (xs ++ [123]) e w' := by
  have HH := Lib.hid h
  have IH := Lib.hid ih
  have g1 := h.rs.c1
  have HF : Hid (qs.length ≤ a) := h.few
  clear h ih
  go_enter Tryd.func21, Tryd.ntmps21
  go_wp2_with fail
  refine (quoted_s HH.out.rs hn ha).mono ?_
  rintro e w2 ⟨ok, j, rfl, hj, hS, hok⟩
  have HS := Lib.hid hS
  have HOK := Lib.hid hok
  clear hS hok
  dsimp only
  cases ok
  · go_wp2
    go_ret
    exact .inl ⟨j, _, _, rfl, hj, HS.out.here, HS.out.frm⟩
  · obtain ⟨hjn, hT⟩ := HOK.out rfl
    have haj : a + 2 ≤ j := hT.1
    have HT := Lib.hid hT
    have HD := Lib.hid (HH.out.of_rs HS.out (by omega))
    clear hT HOK
    go_wp2_with fail
    refine (note_s ⟨4, a, j, 2⟩ _ _ HD.out rfl rfl hn hc hc2 rfl (by show a < j; omega) hjn (by have := HF.out; omega)).mono ?_
    rintro e w3 ⟨rfl, vo3, v3, hR3, hF3⟩
    have HR3 := Lib.hid hR3
    have HF3 := Lib.hid (HS.out.frm.trans hF3)
    clear hR3 hF3
    dsimp only
    go_wp2_with fail
    refine (blanks_s HR3.out.rs hn (by omega)).mono ?_
    rintro e w4 ⟨rfl, m, hB4, hm, hS4⟩
    have HB4 := Lib.hid hB4
    have HS4 := Lib.hid hS4
    have hjm : j ≤ m := hB4.1
    have hmn : m ≤ bs.length := hB4.le hjn
    clear hB4 hS4
    dsimp only
    by_cases h58 : pk bs m = 58
    · have HM := Lib.hid h58
      have hlt : m < bs.length := lt_of_pk (by omega)
      clear h58
      go_wp2_with fail
      refine (peek_s HS4.out hn hm).mono ?_
      rintro e w5 ⟨rfl, hS5⟩
      rw [HM.out]
      have g5 := hS5.c1
      have gf5 := hS5.f1
      have HS5 := Lib.hid hS5.inc
      clear hS5
      dsimp only
      go_wp2_with fail
      have HD5 := Lib.hid (HR3.out.of_rs HS5.out (by omega))
      refine (IH.out (m + 1) (by omega) _ _ _ _ _ HD5.out (by omega) (by simp; omega)).mono ?_
      have HFA := Lib.hid (HF3.out.trans HS5.out.frm)
      have HE : Hid (∀ b ps, ValOk bs (xs ++ [123]) (m + 1) b ps → ElOk bs 1 a b (⟨4, a, j, 2⟩ :: ps)) := fun b ps hv => ElOk.member HT.out HB4.out HM.out hv
      clear g5 gf5
      rintro e w6 (⟨b, vo6, va6, rfl, hb, hS6, hF6⟩ | ⟨b, new, vo6, va6, rfl, hb, hR6, hF6, hV, hlt6⟩)
      · dsimp only
        go_wp2
        go_ret
        exact .inl ⟨b, _, _, rfl, hb, hS6, HFA.out.trans hF6⟩
      · dsimp only
        go_wp2
        go_ret
        refine .inr ⟨b, (⟨4, a, j, 2⟩, v3) :: new, vo6, va6, rfl, hb, ?_, HFA.out.trans hF6, HE.out _ _ hV, by omega⟩
        rw [List.append_assoc] at hR6
        exact hR6
    · have h58' : ¬ pk bs m = 58 := h58
      go_wp2_with fail
      refine (peek_s HS4.out hn hm).mono ?_
      rintro e w5 ⟨rfl, hS5⟩
      have HS5 := Lib.hid hS5
      clear hS5
      dsimp only
      go_wp2
      go_ret
      exact .inl ⟨m, _, _, rfl, hm, HS5.out.here, HF3.out.trans HS5.out.frm⟩

set_option maxRecDepth 100000 in
set_option maxHeartbeats 1600000 in
theorem list_obj (h : Rd B R A c bs w a qs xs vo va) (hn : bs.length ≤ 2147483647) (ha : a ≤ bs.length)
    (hel : ∀ (w : World) (a' : Nat) (qs : List (Pc × Value)) (vo va : Value), a ≤ a' → a' ≤ bs.length + 1 → Rd B R A c bs w a' qs xs vo va → Calls Tryd.prog 21 #[.pointer (some ⟨R, 0, none⟩)] w fun e w' => Parsed B R A c bs w (fun b ps => ElOk bs 1 a' b ps ∧ a' < b) qs xs e w') :
    Calls Tryd.prog 20 #[.pointer (some ⟨R, 0, none⟩), .int .u8 125, .func (.func 21) #[.pointer (some ⟨R, 0, none⟩)] #[]] w fun e w' => Parsed B R A c bs w (fun b ps => ListOk bs 1 a b ps ∧ pk bs b = 125 ∧ a ≤ b) qs xs e w' := by
  have HH := Lib.hid h
  have HEL := Lib.hid hel
  clear h hel
  go_enter Tryd.func20, Tryd.ntmps20
  go_wp2_with fail
  refine (blanks_s HH.out.rs hn (by omega)).mono ?_
  rintro e w2 ⟨rfl, k, hB, hk, hS⟩
  have HB := Lib.hid hB
  have hak : a ≤ k := hB.1
  have hkn : k ≤ bs.length := hB.le ha
  have HD := Lib.hid (HH.out.of_rs hS hak)
  have HF := Lib.hid hS.frm
  clear hB hS
  dsimp only
  by_cases hc1 : pk bs k = 125
  · have HC := Lib.hid hc1
    have e1 : (pk bs k == 125) = true := by rw [beq_iff_eq]; exact hc1
    clear hc1
    go_wp2_with fail
    refine (peek_s HD.out.rs hn hk).mono ?_
    rintro e w3 ⟨rfl, hS3⟩
    have HS3 := Lib.hid hS3
    clear hS3
    dsimp only
    go_wp2
    go_ret
    exact .inr ⟨k, [], vo, va, rfl, hkn, by rw [List.append_nil]; exact HD.out.of_rs HS3.out (Nat.le_refl _), HF.out.trans HS3.out.frm, ListOk.empty HB.out, HC.out, hak⟩
  · have e1 : (pk bs k == 125) = false := by rw [beq_eq_false_iff_ne]; exact hc1
    clear hc1
    go_wp2_with fail
    refine (peek_s HD.out.rs hn hk).mono ?_
    rintro e w3 ⟨rfl, hS3⟩
    have HD3 := Lib.hid (HD.out.of_rs hS3 (Nat.le_refl _))
    have HF3 := Lib.hid (HF.out.trans hS3.frm)
    clear hS3
    dsimp only
    go_wp2_with fail
    go_loopg [] (bs.length + 2 - k) (fun g wr => ∃ (b : Nat) (new : List (Pc × Value)) (vo' va' : Value), k ≤ b ∧ b ≤ bs.length ∧ Hid (g = bs.length + 2 - b) ∧ Hid (ListPre bs 1 a b (new.map Prod.fst)) ∧ Hid (Rd B R A c bs wr b (qs ++ new) xs vo' va') ∧ Hid (Frm (fun k => B ≤ k) w wr))
    case atStart => exact ⟨k, [], vo, va, Nat.le_refl _, hkn, rfl, ListPre.start HB.out, by rw [List.append_nil]; exact HD3.out, HF3.out⟩
    case round =>
      obtain ⟨b, new, vo', va', hkb, hbn, HK, HL, HR, HFR⟩ := hrel
      go_wp2_with fail
      refine (HEL.out _ b _ _ _ (by omega) (by omega) HR.out).mono ?_
      rintro e w4 (⟨b2, vo4, va4, rfl, hb2, hS4, hF4⟩ | ⟨b2, new2, vo4, va4, rfl, hb2, hR4, hF4, hE4, hlt4⟩)
      · dsimp only
        go_wp2
        go_ret
        exact .inl ⟨b2, _, _, rfl, hb2, hS4, HFR.out.trans hF4⟩
      · rw [List.append_assoc] at hR4
        have HR4 := Lib.hid hR4
        have HF4 := Lib.hid (HFR.out.trans hF4)
        have HE4 := Lib.hid hE4
        clear hR4 hF4 hE4
        dsimp only
        go_wp2_with fail
        refine (blanks_s HR4.out.rs hn (by omega)).mono ?_
        rintro e w5 ⟨rfl, m, hB5, hm, hS5⟩
        have HB5 := Lib.hid hB5
        have hbm : b2 ≤ m := hB5.1
        have hmn : m ≤ bs.length := hB5.le hb2
        have HD5 := Lib.hid (HR4.out.of_rs hS5 hbm)
        have HF5 := Lib.hid (HF4.out.trans hS5.frm)
        clear hB5 hS5
        dsimp only
        by_cases hc2 : pk bs m = 125
        · have HC := Lib.hid hc2
          have e2 : (pk bs m == 125) = true := by rw [beq_iff_eq]; exact hc2
          clear hc2
          go_wp2_with fail
          refine (peek_s HD5.out.rs hn hm).mono ?_
          rintro e w6 ⟨rfl, hS6⟩
          have HS6 := Lib.hid hS6
          clear hS6
          dsimp only
          go_wp2
          go_ret
          exact .inr ⟨m, new ++ new2, vo4, va4, rfl, hmn, HD5.out.of_rs HS6.out (Nat.le_refl _), HF5.out.trans HS6.out.frm, by rw [List.map_append]; exact ListPre.last HL.out HE4.out HB5.out, HC.out, by omega⟩
        · have e2 : (pk bs m == 125) = false := by rw [beq_eq_false_iff_ne]; exact hc2
          clear hc2
          by_cases h44 : pk bs m = 44
          · have H44 := Lib.hid h44
            have hlt : m < bs.length := lt_of_pk (by omega)
            have e3 : (44 : Int) ≠ 125 := by decide
            rw [h44] at e2
            clear h44
            go_wp2_with fail
            refine (peek_s HD5.out.rs hn hm).mono ?_
            rintro e w6 ⟨rfl, hS6⟩
            rw [H44.out]
            have HD6 := Lib.hid (HD5.out.of_rs hS6 (Nat.le_refl _))
            have HF6 := Lib.hid (HF5.out.trans hS6.frm)
            clear hS6
            dsimp only
            go_wp2_with fail
            refine (peek_s HD6.out.rs hn hm).mono ?_
            rintro e w7 ⟨rfl, hS7⟩
            rw [H44.out]
            have g7 := hS7.c1
            have gf7 := hS7.f1
            have HS7 := Lib.hid hS7.inc
            clear hS7
            dsimp only
            go_wp2_with fail
            have HD7 := Lib.hid (HD6.out.of_rs HS7.out (Nat.le_succ m))
            have HF7 := Lib.hid (HF6.out.trans HS7.out.frm)
            clear g7 gf7
            refine (blanks_s HD7.out.rs hn (by omega)).mono ?_
            rintro e w8 ⟨rfl, m2, hB8, hm2, hS8⟩
            have HB8 := Lib.hid hB8
            have hmm : m + 1 ≤ m2 := hB8.1
            have hm2n : m2 ≤ bs.length := hB8.le hlt
            have HD8 := Lib.hid (HD7.out.of_rs hS8 hmm)
            have HF8 := Lib.hid (HF7.out.trans hS8.frm)
            clear hB8 hS8
            dsimp only
            go_wp2_with fail
            go_roundg (bs.length + 2 - m2)
            case measure => have := HK.out; omega
            case rel => exact ⟨m2, new ++ new2, vo4, va4, by omega, hm2n, rfl, by rw [List.map_append]; exact ListPre.next HL.out (by decide) HE4.out HB5.out H44.out HB8.out, HD8.out, HF8.out⟩
          · have e3 : ¬ pk bs m = 44 := h44
            go_wp2_with fail
            refine (peek_s HD5.out.rs hn hm).mono ?_
            rintro e w6 ⟨rfl, hS6⟩
            have HD6 := Lib.hid (HD5.out.of_rs hS6 (Nat.le_refl _))
            have HF6 := Lib.hid (HF5.out.trans hS6.frm)
            clear hS6
            dsimp only
            go_wp2_with fail
            refine (peek_s HD6.out.rs hn hm).mono ?_
            rintro e w7 ⟨rfl, hS7⟩
            have HS7 := Lib.hid hS7
            clear hS7
            dsimp only
            go_wp2
            go_ret
            exact .inl ⟨m, _, _, rfl, hm, HS7.out.here, HF6.out.trans HS7.out.frm⟩

set_option maxRecDepth 100000 in
set_option maxHeartbeats 1600000 in
theorem list_arr (h : Rd B R A c bs w a qs xs vo va) (hn : bs.length ≤ 2147483647) (ha : a ≤ bs.length)
    (hel : ∀ (w : World) (a' : Nat) (qs : List (Pc × Value)) (vo va : Value), a ≤ a' → a' ≤ bs.length + 1 → Rd B R A c bs w a' qs xs vo va → Calls Tryd.prog 7 #[.pointer (some ⟨R, 0, none⟩)] w fun e w' => Parsed B R A c bs w (fun b ps => ElOk bs 3 a' b ps ∧ a' < b) qs xs e w') :
    Calls Tryd.prog 20 #[.pointer (some ⟨R, 0, none⟩), .int .u8 93, .func (.func 7) #[.pointer (some ⟨R, 0, none⟩)] #[]] w fun e w' => Parsed B R A c bs w (fun b ps => ListOk bs 3 a b ps ∧ pk bs b = 93 ∧ a ≤ b) qs xs e w' := by
  have HH := Lib.hid h
  have HEL := Lib.hid hel
  clear h hel
  go_enter Tryd.func20, Tryd.ntmps20
  go_wp2_with fail
  refine (blanks_s HH.out.rs hn (by omega)).mono ?_
  rintro e w2 ⟨rfl, k, hB, hk, hS⟩
  have HB := Lib.hid hB
  have hak : a ≤ k := hB.1
  have hkn : k ≤ bs.length := hB.le ha
  have HD := Lib.hid (HH.out.of_rs hS hak)
  have HF := Lib.hid hS.frm
  clear hB hS
  dsimp only
  by_cases hc1 : pk bs k = 93
  · have HC := Lib.hid hc1
    have e1 : (pk bs k == 93) = true := by rw [beq_iff_eq]; exact hc1
    clear hc1
    go_wp2_with fail
    refine (peek_s HD.out.rs hn hk).mono ?_
    rintro e w3 ⟨rfl, hS3⟩
    have HS3 := Lib.hid hS3
    clear hS3
    dsimp only
    go_wp2
    go_ret
    exact .inr ⟨k, [], vo, va, rfl, hkn, by rw [List.append_nil]; exact HD.out.of_rs HS3.out (Nat.le_refl _), HF.out.trans HS3.out.frm, ListOk.empty HB.out, HC.out, hak⟩
  · have e1 : (pk bs k == 93) = false := by rw [beq_eq_false_iff_ne]; exact hc1
    clear hc1
    go_wp2_with fail
    refine (peek_s HD.out.rs hn hk).mono ?_
    rintro e w3 ⟨rfl, hS3⟩
    have HD3 := Lib.hid (HD.out.of_rs hS3 (Nat.le_refl _))
    have HF3 := Lib.hid (HF.out.trans hS3.frm)
    clear hS3
    dsimp only
    go_wp2_with fail
    go_loopg [] (bs.length + 2 - k) (fun g wr => ∃ (b : Nat) (new : List (Pc × Value)) (vo' va' : Value), k ≤ b ∧ b ≤ bs.length ∧ Hid (g = bs.length + 2 - b) ∧ Hid (ListPre bs 3 a b (new.map Prod.fst)) ∧ Hid (Rd B R A c bs wr b (qs ++ new) xs vo' va') ∧ Hid (Frm (fun k => B ≤ k) w wr))
    case atStart => exact ⟨k, [], vo, va, Nat.le_refl _, hkn, rfl, ListPre.start HB.out, by rw [List.append_nil]; exact HD3.out, HF3.out⟩
    case round =>
      obtain ⟨b, new, vo', va', hkb, hbn, HK, HL, HR, HFR⟩ := hrel
      go_wp2_with fail
      refine (HEL.out _ b _ _ _ (by omega) (by omega) HR.out).mono ?_
      rintro e w4 (⟨b2, vo4, va4, rfl, hb2, hS4, hF4⟩ | ⟨b2, new2, vo4, va4, rfl, hb2, hR4, hF4, hE4, hlt4⟩)
      · dsimp only
        go_wp2
        go_ret
        exact .inl ⟨b2, _, _, rfl, hb2, hS4, HFR.out.trans hF4⟩
      · rw [List.append_assoc] at hR4
        have HR4 := Lib.hid hR4
        have HF4 := Lib.hid (HFR.out.trans hF4)
        have HE4 := Lib.hid hE4
        clear hR4 hF4 hE4
        dsimp only
        go_wp2_with fail
        refine (blanks_s HR4.out.rs hn (by omega)).mono ?_
        rintro e w5 ⟨rfl, m, hB5, hm, hS5⟩
        have HB5 := Lib.hid hB5
        have hbm : b2 ≤ m := hB5.1
        have hmn : m ≤ bs.length := hB5.le hb2
        have HD5 := Lib.hid (HR4.out.of_rs hS5 hbm)
        have HF5 := Lib.hid (HF4.out.trans hS5.frm)
        clear hB5 hS5
        dsimp only
        by_cases hc2 : pk bs m = 93
        · have HC := Lib.hid hc2
          have e2 : (pk bs m == 93) = true := by rw [beq_iff_eq]; exact hc2
          clear hc2
          go_wp2_with fail
          refine (peek_s HD5.out.rs hn hm).mono ?_
          rintro e w6 ⟨rfl, hS6⟩
          have HS6 := Lib.hid hS6
          clear hS6
          dsimp only
          go_wp2
          go_ret
          exact .inr ⟨m, new ++ new2, vo4, va4, rfl, hmn, HD5.out.of_rs HS6.out (Nat.le_refl _), HF5.out.trans HS6.out.frm, by rw [List.map_append]; exact ListPre.last HL.out HE4.out HB5.out, HC.out, by omega⟩
        · have e2 : (pk bs m == 93) = false := by rw [beq_eq_false_iff_ne]; exact hc2
          clear hc2
          by_cases h44 : pk bs m = 44
          · have H44 := Lib.hid h44
            have hlt : m < bs.length := lt_of_pk (by omega)
            have e3 : (44 : Int) ≠ 93 := by decide
            rw [h44] at e2
            clear h44
            go_wp2_with fail
            refine (peek_s HD5.out.rs hn hm).mono ?_
            rintro e w6 ⟨rfl, hS6⟩
            rw [H44.out]
            have HD6 := Lib.hid (HD5.out.of_rs hS6 (Nat.le_refl _))
            have HF6 := Lib.hid (HF5.out.trans hS6.frm)
            clear hS6
            dsimp only
            go_wp2_with fail
            refine (peek_s HD6.out.rs hn hm).mono ?_
            rintro e w7 ⟨rfl, hS7⟩
            rw [H44.out]
            have g7 := hS7.c1
            have gf7 := hS7.f1
            have HS7 := Lib.hid hS7.inc
            clear hS7
            dsimp only
            go_wp2_with fail
            have HD7 := Lib.hid (HD6.out.of_rs HS7.out (Nat.le_succ m))
            have HF7 := Lib.hid (HF6.out.trans HS7.out.frm)
            clear g7 gf7
            refine (blanks_s HD7.out.rs hn (by omega)).mono ?_
            rintro e w8 ⟨rfl, m2, hB8, hm2, hS8⟩
            have HB8 := Lib.hid hB8
            have hmm : m + 1 ≤ m2 := hB8.1
            have hm2n : m2 ≤ bs.length := hB8.le hlt
            have HD8 := Lib.hid (HD7.out.of_rs hS8 hmm)
            have HF8 := Lib.hid (HF7.out.trans hS8.frm)
            clear hB8 hS8
            dsimp only
            go_wp2_with fail
            go_roundg (bs.length + 2 - m2)
            case measure => have := HK.out; omega
            case rel => exact ⟨m2, new ++ new2, vo4, va4, by omega, hm2n, rfl, by rw [List.map_append]; exact ListPre.next HL.out (by decide) HE4.out HB5.out H44.out HB8.out, HD8.out, HF8.out⟩
          · have e3 : ¬ pk bs m = 44 := h44
            go_wp2_with fail
            refine (peek_s HD5.out.rs hn hm).mono ?_
            rintro e w6 ⟨rfl, hS6⟩
            have HD6 := Lib.hid (HD5.out.of_rs hS6 (Nat.le_refl _))
            have HF6 := Lib.hid (HF5.out.trans hS6.frm)
            clear hS6
            dsimp only
            go_wp2_with fail
            refine (peek_s HD6.out.rs hn hm).mono ?_
            rintro e w7 ⟨rfl, hS7⟩
            have HS7 := Lib.hid hS7
            clear hS7
            dsimp only
            go_wp2
            go_ret
            exact .inl ⟨m, _, _, rfl, hm, HS7.out.here, HF6.out.trans HS7.out.frm⟩
end
end Go.Proofs.YtanllbfpnpojnaaDoor
