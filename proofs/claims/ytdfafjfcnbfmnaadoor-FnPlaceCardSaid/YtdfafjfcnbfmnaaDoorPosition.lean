/- The line, the column and the line of text of a place. -/
import Derived.Test.YtdfafjfcnbfmnaaDoorContext
import Derived.Test.YtdfafjfcnbfmnaaDoorPlain
set_option linter.unusedVariables false
namespace Go.Proofs.YtdfafjfcnbfmnaaDoor
open Go.RowKit

theorem bval_getD {bs : List UInt8} {P : Nat} (h : P < bs.length) : bs.getD P 0 = bs[P] := by simp [List.getD, h]

/-- The input's block holds no bytes. -/
theorem inp_buf_ne {w : World} {gi gb m c pos start : Nat} {r : Value} {bs : List UInt8} (hi : Inp w gi ⟨gb, 0, none⟩ m c r pos start) (hb : Buf w ⟨gb, 0, none⟩ (bvals bs)) : gb ≠ gi := by
  rintro rfl
  have h0 := hi.c0
  obtain ⟨u, hu, x, hx⟩ : ∃ u : Value, (bvals bs ++ [.int .u8 0])[0]? = some u ∧ ∃ x, u = .int .u8 x := by
    cases bs with
    | nil => exact ⟨_, rfl, 0, rfl⟩
    | cons b bs => exact ⟨_, rfl, _, rfl⟩
  have h1 := hb 0 u hu
  rw [addr_zero_add, h0, hx] at h1
  cases h1

/-- The input over bs at place P, its selection from st on; of what was there at first nothing but the input's block has turned. -/
def St (w1 : World) (gi gb cb : Nat) (r : Value) (bs : List UInt8) (w : World) (P st : Nat) : Prop :=
  Inp w gi ⟨gb, 0, none⟩ (bs.length + 1) cb r P st ∧ Buf w ⟨gb, 0, none⟩ (bvals bs) ∧ Frm (fun x => x = gi) w1 w

section
variable {w1 w w' : World} {gi gb cb : Nat} {r : Value} {bs : List UInt8} {P st : Nat}
theorem St.drawn (h : St w1 gi gb cb r bs w P st) (n : Nat) : St w1 gi gb cb r bs (w.drewN n) P st := ⟨h.1.drewN n, h.2.1, h.2.2.drewN n⟩
theorem St.turn (h : St w1 gi gb cb r bs w P st) (hne : gb ≠ gi) (hf : Frm (fun x => x = gi) w w') {P' st' : Nat} (hi : Inp w' gi ⟨gb, 0, none⟩ (bs.length + 1) cb r P' st') : St w1 gi gb cb r bs w' P' st' :=
  ⟨hi, h.2.1.frm hf (fun e => hne e), h.2.2.trans hf⟩
theorem pos_s (h : St w1 gi gb cb r bs w P st) (hp : st ≤ P) (hm : P ≤ 1000000) :
    Calls Tryd.prog 16 #[.pointer (some ⟨gi, 0, none⟩)] w fun e w' => e = .returned (.int .i64 ((P : Int) - st)) ∧ St w1 gi gb cb r bs w' P st := by
  refine (pos_any gi _ cb P st _ r w hp hm h.1).mono ?_
  rintro e w' ⟨rfl, n, rfl⟩
  exact ⟨rfl, h.drawn n⟩
theorem peek0_s (h : St w1 gi gb cb r bs w P st) (hP : P < bs.length) (hn : bs.length ≤ 5000) {bq : Nat} (hb : Hid (bq = bs[P].toNat)) :
    Calls Tryd.prog 17 #[.pointer (some ⟨gi, 0, none⟩), .int .i64 0] w fun e w' => e = .returned (.int .u8 (bq : Int)) ∧ w = w' :=
  peek0 gi _ cb P st _ r _ w (by omega) (by omega) h.1 (by rw [hb.out]; exact h.2.1.byte hP)
theorem peek1_s (h : St w1 gi gb cb r bs w P st) (hP : P + 1 ≤ bs.length) (hn : bs.length ≤ 5000) {bq : Nat} (hb : Hid (bq = (bs.getD (P + 1) 0).toNat)) :
    Calls Tryd.prog 17 #[.pointer (some ⟨gi, 0, none⟩), .int .i64 1] w fun e w' => e = .returned (.int .u8 (bq : Int)) ∧ w = w' := by
  refine peek1 gi _ cb P st _ r _ w (by omega) (by omega) h.1 ?_
  rw [hb.out]
  by_cases hl : P + 1 < bs.length
  · rw [bval_getD hl]
    exact h.2.1.byte hl
  · have he : P + 1 = bs.length := by omega
    have h0 : bs.getD (P + 1) 0 = 0 := by simp [List.getD, he]
    rw [h0, he]
    exact h.2.1.last
theorem move1_s (h : St w1 gi gb cb r bs w P st) (hne : gb ≠ gi) (hm : P + 1 ≤ 1000000) :
    Calls Tryd.prog 20 #[.pointer (some ⟨gi, 0, none⟩), .int .i64 1] w fun e w' => e = .returned (.tuple #[]) ∧ St w1 gi gb cb r bs w' (P + 1) st := by
  refine (move1 gi _ cb P st _ r w hm h.1).mono ?_
  rintro e w' ⟨rfl, hi, hf⟩
  exact ⟨rfl, h.turn hne hf hi⟩
theorem move2_s (h : St w1 gi gb cb r bs w P st) (hne : gb ≠ gi) (hm : P + 2 ≤ 1000000) :
    Calls Tryd.prog 20 #[.pointer (some ⟨gi, 0, none⟩), .int .i64 2] w fun e w' => e = .returned (.tuple #[]) ∧ St w1 gi gb cb r bs w' (P + 2) st := by
  refine (move2 gi _ cb P st _ r w hm h.1).mono ?_
  rintro e w' ⟨rfl, hi, hf⟩
  exact ⟨rfl, h.turn hne hf hi⟩
theorem skip_s (h : St w1 gi gb cb r bs w P st) (hne : gb ≠ gi) :
    Calls Tryd.prog 21 #[.pointer (some ⟨gi, 0, none⟩)] w fun e w' => e = .returned (.tuple #[]) ∧ St w1 gi gb cb r bs w' P P := by
  refine (skip_any gi _ cb P st _ r w h.1).mono ?_
  rintro e w' ⟨rfl, rfl⟩
  exact ⟨rfl, h.turn hne ((Frm.refl (fun x => x = gi) w).setCell (p := ⟨gi, 2, none⟩) (fun _ => rfl) _) (h.1.skipped P)⟩
end

set_option maxRecDepth 100000 in
set_option maxHeartbeats 1600000 in
theorem position_any (gr : Nat) (A : Option Addr) (ad : Addr) (bs : List UInt8) (T c : Nat) (p : Int) (w : World) (a0 : Addr)
    (hn : bs.length ≤ 5000) (hc : bs.length ≤ c) (hA : 0 < bs.length → A = some ad ∧ ad.block < gr) (hgr : gr < w.heap.size) (h4 : 4 < gr) (hT : T ≤ bs.length) (hap : Apart bs T) (ht : PlainText bs)
    (h : Blk w gr 56 (RdCells A bs.length c 0 p))
    (hsrc : ∀ j, j < bs.length → ∀ u, (bvals bs)[j]? = some u → w.cell? (ad.add j) = some u)
    (heof : w.cell? ⟨0, 0, none⟩ = some (.iface 125 (.pointer (some a0))))
    (hgra : Graph w) (htab : Lib.TabIs Tryd.prog w "internal/strconv.uint64pow10" .u64 Lib.pow10Tab) :
    Calls Tryd.prog 10 #[.iface 33 (.pointer (some ⟨gr, 0, none⟩)), .int .i64 (T : Int)] w fun e w' =>
      (∃ s : ByteArray, e = .returned (.tuple #[.int .i64 ((lcAt bs T).1 : Int), .int .i64 ((lcAt bs T).2 : Int), .string s])) ∧ Frm (fun x => x = gr) w w' := by
  have hlb : (bvals bs).length = bs.length := by simp [bvals]
  have hisb : ∀ u ∈ bvals bs, IsB u := by
    intro u hu
    obtain ⟨b, _, rfl⟩ := List.mem_map.1 hu
    exact ⟨_, rfl⟩
  have HT := Lib.hid ht
  have HAP := Lib.hid hap
  have HG := Lib.hid hgra
  have HTAB := Lib.hid htab
  have HE := Lib.hid heof
  have HH := Lib.hid h
  have HS := Lib.hid hsrc
  have HLB := Lib.hid hlb
  have HISB := Lib.hid hisb
  have HA := Lib.hid hA
  clear ht hap hgra htab heof h hsrc hlb hisb hA
  go_enter Tryd.func10, Tryd.ntmps10
  go_wp2_with fail
  refine (newInput_any gr A ad bs.length c p (bvals bs) w a0 (by omega) hc HA.out hgr HH.out HS.out HLB.out HISB.out HE.out).mono ?_
  rintro e w1 ⟨gi, gb, cb, r, rfl, hgi, hcb, hinp, hbuf, hf1⟩
  have hgbi := inp_buf_ne hinp hbuf
  have HI := Lib.hid hinp
  have HB := Lib.hid hbuf
  have HF1 := Lib.hid hf1
  have hgilt : gi < w1.heap.size := Blk.lt hinp
  have HV : Hid (w1.cell? ⟨0, 0, none⟩ = some (.iface 125 (.pointer (some a0)))) := (hf1.cell (World.block_lt_of_cell? w _ HE.out) (fun e => by have : (0 : Nat) = gr := e; omega)).trans HE.out
  clear hinp hbuf hf1
  go_wp2_with fail
  go_loopg [1, 4] (T + 1) (fun k v1 v4 wr => ∃ P st : Nat, st ≤ P ∧ P ≤ T ∧ v1 = .int .i64 ((T : Int) - st) ∧ v4 = .int .i64 ((lcAt bs P).1 : Int) ∧ Hid (k = T + 1 - P) ∧ Hid ((lcAt bs P).2 = P - st + 1) ∧ St w1 gi gb cb r bs wr P st ∧ Hid (Sel bs st P))
  case atStart => exact ⟨0, 0, Nat.le_refl _, Nat.zero_le _, by simp, rfl, rfl, rfl, ⟨HI.out, HB.out, Frm.refl _ _⟩, fun j _ hj => absurd hj (by omega)⟩
  case round =>
    obtain ⟨P, st, hst, hPT, rfl, rfl, HK, HC2, hS, HSEL⟩ := hrel
    have hlc := lcAt_le bs P
    by_cases hlt : P < T
    · have hPn : P < bs.length := by omega
      have hbq := HT.out bs[P] (List.getElem_mem hPn)
      obtain ⟨bq, hbb⟩ : ∃ x, x = bs[P].toNat := ⟨_, rfl⟩
      unfold Plain at hbq
      rw [← hbb] at hbq
      have HBB := Lib.hid hbb
      have HGD : Hid ((bs.getD P 0).toNat = bq) := by rw [bval_getD hPn]; exact hbb.symm
      generalize hl1 : (lcAt bs P).1 = l1 at *
      have HL1 := Lib.hid hl1
      clear hl1 hbb
      have hz : ((bq : Int) == 0) = false := by rw [beq_eq_false_iff_ne]; omega
      by_cases hten : bq = 10
      · have h10 : ((bq : Int) == 10) = true := by rw [beq_iff_eq]; omega
        have HNL : Hid (lcAt bs (P + 1) = ((lcAt bs P).1 + 1, 1)) := lcAt_nl (nlAt_lf (HGD.out.trans hten))
        clear hbq hten
        go_wp2_with (first
          | (go_at_call 16; refine (pos_s (by assumption) (by omega) (by omega)).mono ?_; rintro e w' ⟨rfl, hS'⟩)
          | (go_at_call 17; refine (peek0_s (by assumption) hPn hn HBB).mono ?_; rintro e w' ⟨rfl, rfl⟩)
          | (go_at_call 20; refine (move1_s (by assumption) hgbi (by omega)).mono ?_; rintro e w' ⟨rfl, hS'⟩)
          | (go_at_call 21; refine (skip_s (by assumption) hgbi).mono ?_; rintro e w' ⟨rfl, hS'⟩))
        go_roundg (T + 1 - (P + 1))
        case measure => have := HK.out; omega
        case rel =>
          refine ⟨P + 1, P + 1, Nat.le_refl _, hlt, by go_num, ?_, rfl, ?_, by assumption, fun j h1 h2 => absurd h1 (by omega)⟩
          · rw [HNL.out, HL1.out]; go_num
          · show (lcAt bs (P + 1)).2 = P + 1 - (P + 1) + 1
            rw [HNL.out]; simp
      · have h10 : ((bq : Int) == 10) = false := by rw [beq_eq_false_iff_ne]; omega
        by_cases hcr : bq = 13
        · have h13 : ((bq : Int) == 13) = true := by rw [beq_iff_eq]; omega
          obtain ⟨b1, hb1⟩ : ∃ x, x = (bs.getD (P + 1) 0).toNat := ⟨_, rfl⟩
          have HB1 := Lib.hid hb1
          by_cases hlf : P + 1 < bs.length ∧ b1 = 10
          · have hlf10 : ((b1 : Int) == 10) = true := by rw [beq_iff_eq]; omega
            have hnb : P + 2 ≤ T := by
              rcases Nat.lt_or_ge (P + 1) T with h | h
              · omega
              · have hTe : T = P + 1 := by omega
                rcases HAP.out with h1 | h1 | h1
                · omega
                · omega
                · refine absurd ?_ h1
                  rw [hTe]
                  exact ⟨by rw [Nat.add_sub_cancel]; exact HGD.out.trans hcr, by rw [← hb1]; exact hlf.2⟩
            have HN1 := nlAt_crlf (HGD.out.trans hcr) hlf.1 (by rw [← hb1]; exact hlf.2)
            have HN2 : nlAt bs (P + 1) = true := nlAt_lf (by rw [← hb1]; exact hlf.2)
            have HNL : Hid (lcAt bs (P + 2) = ((lcAt bs P).1 + 1, 1)) := by
              show lcAt bs (P + 1 + 1) = _
              rw [lcAt_nl HN2, lcAt_no HN1]
            have hP1 : P + 1 < bs.length := hlf.1
            clear hbq hten hcr hlf HN1 HN2 hb1
            go_wp2_with (first
              | (go_at_call 16; refine (pos_s (by assumption) (by omega) (by omega)).mono ?_; rintro e w' ⟨rfl, hS'⟩)
              | (go_at_call 17; with_reducible refine (peek0_s (by assumption) hPn hn HBB).mono ?_; rintro e w' ⟨rfl, rfl⟩)
              | (go_at_call 17; with_reducible refine (peek1_s (by assumption) (by omega) hn HB1).mono ?_; rintro e w' ⟨rfl, rfl⟩)
              | (go_at_call 20; refine (move2_s (by assumption) hgbi (by omega)).mono ?_; rintro e w' ⟨rfl, hS'⟩)
              | (go_at_call 21; refine (skip_s (by assumption) hgbi).mono ?_; rintro e w' ⟨rfl, hS'⟩))
            go_roundg (T + 1 - (P + 2))
            case measure => have := HK.out; omega
            case rel =>
              refine ⟨P + 2, P + 2, Nat.le_refl _, hnb, by go_num, ?_, rfl, ?_, by assumption, fun j h1 h2 => absurd h1 (by omega)⟩
              · rw [HNL.out, HL1.out]; go_num
              · show (lcAt bs (P + 2)).2 = P + 2 - (P + 2) + 1
                rw [HNL.out]; simp
          · have hlf10 : ((b1 : Int) == 10) = false := by
              rw [beq_eq_false_iff_ne]
              intro e
              have hb10 : b1 = 10 := by omega
              refine hlf ⟨?_, hb10⟩
              rcases Nat.lt_or_ge (P + 1) bs.length with h | h
              · exact h
              · have : bs.getD (P + 1) 0 = 0 := by simp [List.getD, List.getElem?_eq_none h]
                rw [this] at hb1
                simp at hb1
                omega
            have HNL : Hid (lcAt bs (P + 1) = ((lcAt bs P).1 + 1, 1)) := lcAt_nl (nlAt_cr (HGD.out.trans hcr) (by rw [← hb1]; exact hlf) hPn)
            clear hbq hten hcr hlf hb1
            go_wp2_with (first
              | (go_at_call 16; refine (pos_s (by assumption) (by omega) (by omega)).mono ?_; rintro e w' ⟨rfl, hS'⟩)
              | (go_at_call 17; with_reducible refine (peek0_s (by assumption) hPn hn HBB).mono ?_; rintro e w' ⟨rfl, rfl⟩)
              | (go_at_call 17; with_reducible refine (peek1_s (by assumption) (by omega) hn HB1).mono ?_; rintro e w' ⟨rfl, rfl⟩)
              | (go_at_call 20; refine (move1_s (by assumption) hgbi (by omega)).mono ?_; rintro e w' ⟨rfl, hS'⟩)
              | (go_at_call 21; refine (skip_s (by assumption) hgbi).mono ?_; rintro e w' ⟨rfl, hS'⟩))
            go_roundg (T + 1 - (P + 1))
            case measure => have := HK.out; omega
            case rel =>
              refine ⟨P + 1, P + 1, Nat.le_refl _, hlt, by go_num, ?_, rfl, ?_, by assumption, fun j h1 h2 => absurd h1 (by omega)⟩
              · rw [HNL.out, HL1.out]; go_num
              · show (lcAt bs (P + 1)).2 = P + 1 - (P + 1) + 1
                rw [HNL.out]; simp
        · have h13 : ((bq : Int) == 13) = false := by rw [beq_eq_false_iff_ne]; omega
          have hlo : 32 ≤ bq := by omega
          have hhi : bq ≤ 126 := by omega
          have HPL : Hid (Plain bs[P]) := by unfold Plain; rw [← HBB.out]; exact ⟨hlo, hhi⟩
          have HNL : Hid (lcAt bs (P + 1) = ((lcAt bs P).1, (lcAt bs P).2 + 1)) := lcAt_no (nlAt_plain (by rw [HGD.out]; exact hten) (by rw [HGD.out]; exact hcr))
          clear hbq hten hcr
          go_wp2_with (first
            | (go_at_call 16; refine (pos_s (by assumption) (by omega) (by omega)).mono ?_; rintro e w' ⟨rfl, hS'⟩)
            | (go_at_call 17; refine (peek0_s (by assumption) hPn hn HBB).mono ?_; rintro e w' ⟨rfl, rfl⟩)
            | (go_at_call 20; refine (move1_s (by assumption) hgbi (by omega)).mono ?_; rintro e w' ⟨rfl, hS'⟩)
            | (go_at_call 21; refine (skip_s (by assumption) hgbi).mono ?_; rintro e w' ⟨rfl, hS'⟩))
          go_roundg (T + 1 - (P + 1))
          case measure => have := HK.out; omega
          case rel =>
            refine ⟨P + 1, st, by omega, hlt, rfl, ?_, rfl, ?_, by assumption, ?_⟩
            · rw [HNL.out, HL1.out]
            · show (lcAt bs (P + 1)).2 = P + 1 - st + 1
              rw [HNL.out]
              have := HC2.out
              show (lcAt bs P).2 + 1 = P + 1 - st + 1
              omega
            · intro j h1 h2
              by_cases hj : j < P
              · exact HSEL.out j h1 hj
              · obtain rfl : j = P := by omega
                exact ⟨bs[j], List.getElem?_eq_getElem hPn, HPL.out⟩
    · have hPe : P = T := by omega
      subst hPe
      go_wp2_with (first
          | (go_at_call 16; refine (pos_s (by assumption) (by omega) (by omega)).mono ?_; rintro e w' ⟨rfl, hS'⟩))
      obtain ⟨L, hL⟩ : ∃ L, L = (bs.drop st).take (P - st) := ⟨_, rfl⟩
      obtain ⟨m, hm⟩ : ∃ m, L.length = m := ⟨_, rfl⟩
      have hmP : m = P - st := by rw [← hm, hL, List.length_take, List.length_drop]; omega
      have hplain := sel_plain HSEL.out hT hL
      have hasc : ∀ b ∈ L, b.toNat < 128 := fun b hb => by have := hplain b hb; unfold Plain at this; omega
      refine (lexeme_text gi ⟨gb, 0, none⟩ bs cb P st r w' hn hcb hst hT hS'.1 hS'.2.1 L hL m hm).mono ?_
      rintro e w2 ⟨ad2, rfl, hf2, hrow⟩
      have hcv := run_convert_bytes_back (P := Tryd.prog) w2 22 9 5 ad2 m L Tryd.underlying22 Tryd.underlying5 Tryd.underlying9 hrow
      rw [hm] at hcv
      obtain ⟨cap, cs, hcr, hcap1, hcap2, hcsz, hcs⟩ := run_plain_runes w2 L hasc (by rw [hm]; omega)
      rw [hm] at hcr
      have hS2 : St w1 gi gb cb r bs (w2.alloc (.cells cs 21)).drew P st := hS'.turn hgbi (((hf2.mono (T := fun x => x = gi) (fun _ _ h => h.elim)).alloc _).drew) (by
        have := hf2.blk hS'.1 (fun h => h)
        exact this.alloc _)
      have HMP := Lib.hid hmP
      have hmb : m ≤ 5000 := by omega
      clear hL hm hplain hasc hrow hcs hcsz hcap1 hcap2 hf2 hmP
      go_wp2_with fail
      generalize (w2.alloc (.cells cs 21)).drew = w3 at *
      have hcol : ((m : Int) + 1) = ((m + 1 : Nat) : Int) := by omega
      rw [hcol]
      have hF3 : Frm (fun x => x = gr) w w3 := HF1.out.trans' hS2.2.2 (fun k hk e => by omega)
      refine (context_any gi ⟨gb, 0, none⟩ bs cb P st (lcAt bs P).1 (m + 1) r 125 (.pointer (some a0)) w3 hn hcb hst hT (by omega) (by omega) hS2.1 hS2.2.1 HT.out HSEL.out hgbi (by omega) (HG.out.frm hF3 (fun e => by have : (1 : Nat) = gr := e; omega)) (tab_frm HTAB.out 4 gPow hF3 (by omega) (fun e => by have : (4 : Nat) = gr := e; omega)) (by omega) (Blk.lt hS2.1) ((hF3.cell (World.block_lt_of_cell? w _ HE.out) (fun e => by have : (0 : Nat) = gr := e; omega)).trans HE.out)).mono ?_
      rintro e w4 ⟨⟨s, rfl⟩, hf4⟩
      have HF4 : Hid (Frm (fun x => x = gr) w w4) := hF3.trans' hf4 (fun k hk e => by omega)
      clear hS2 hf4 hF3
      dsimp only
      go_wp2
      go_ret3
      refine ⟨⟨s, ?_⟩, HF4.out⟩
      show Ending.returned (.tuple #[.int .i64 ((lcAt bs P).1 : Int), .int .i64 ((m + 1 : Nat) : Int), .string s]) = _
      have h1 := HC2.out
      have h2 := HMP.out
      have h3 : (lcAt bs P).2 = m + 1 := by omega
      rw [h3]
end Go.Proofs.YtdfafjfcnbfmnaaDoor
