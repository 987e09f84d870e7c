/- The reference: lines and columns; which places are spoken of; words. -/
import Derived.Test.YtdfafjfcnbfmnaaDoorPlain
import Derived.Deep.LoopGhost
set_option linter.unusedVariables false
namespace Go.Proofs.YtdfafjfcnbfmnaaDoor
open Go.RowKit

/-- A slice of bytes, wherever it lies; nothing is asked of it where it is empty. -/
def Txt (w : World) (A : Option Addr) (bs : List UInt8) : Prop := 0 < bs.length → ∃ ad, A = some ad ∧ ∀ (j : Nat) (hj : j < bs.length), w.cell? (ad.add j) = some (.int .u8 (bs[j].toNat : Int))

/-- What the reference counts behind i bytes: it stops at place T. -/
def lcT (bs : List UInt8) (T : Int) (i : Nat) : Nat × Nat := lcAt bs (min i T.toNat)
theorem lcT_zero (bs : List UInt8) (T : Int) : lcT bs T 0 = (1, 1) := by simp [lcT, lcAt]
theorem lcT_past {bs : List UInt8} {T : Int} {i : Nat} (h : T ≤ i) : lcT bs T (i + 1) = lcT bs T i := by
  unfold lcT
  rw [show min (i + 1) T.toNat = min i T.toNat by omega]
theorem lcT_here {bs : List UInt8} {T : Int} {i : Nat} (h : (i : Int) < T) : lcT bs T (i + 1) = lcAt bs (i + 1) ∧ lcT bs T i = lcAt bs i := by
  unfold lcT
  rw [show min (i + 1) T.toNat = i + 1 by omega, show min i T.toNat = i by omega]
  exact ⟨rfl, rfl⟩
theorem lcT_nl {bs : List UInt8} {T : Int} {i : Nat} (h : (i : Int) < T) (hn : nlAt bs i = true) : lcT bs T (i + 1) = ((lcT bs T i).1 + 1, 1) := by
  obtain ⟨h1, h2⟩ := lcT_here (bs := bs) h
  rw [h1, h2]
  exact lcAt_nl hn
theorem lcT_no {bs : List UInt8} {T : Int} {i : Nat} (h : (i : Int) < T) (hn : nlAt bs i = false) : lcT bs T (i + 1) = ((lcT bs T i).1, (lcT bs T i).2 + 1) := by
  obtain ⟨h1, h2⟩ := lcT_here (bs := bs) h
  rw [h1, h2]
  exact lcAt_no hn
theorem lcT_le (bs : List UInt8) (T : Int) (i : Nat) : (lcT bs T i).1 ≤ i + 1 ∧ (lcT bs T i).2 ≤ i + 1 := by
  obtain ⟨h1, h2, h3, h4⟩ := lcAt_le bs (min i T.toNat)
  unfold lcT
  omega

def okB (b : UInt8) : Bool := b.toNat == 10 || b.toNat == 13 || (decide (32 ≤ b.toNat) && decide (b.toNat ≤ 126))
theorem okB_iff (b : UInt8) : okB b = true ↔ (b.toNat = 10 ∨ b.toNat = 13 ∨ (32 ≤ b.toNat ∧ b.toNat ≤ 126)) := by
  simp [okB, or_assoc]
theorem all_snoc {bs : List UInt8} {i : Nat} (hi : i < bs.length) : (bs.take (i + 1)).all okB = ((bs.take i).all okB && okB bs[i]) := by
  rw [List.take_succ_eq_append_getElem hi]
  simp only [List.all_append, List.all_cons, List.all_nil, Bool.and_true]

theorem getD_at {bs : List UInt8} {P : Nat} (h : P < bs.length) : bs.getD P 0 = bs[P] := by simp [List.getD, h]

theorem place_end {bs : List UInt8} {T : Int} {i : Nat} (hlt : i < bs.length) {l c : Int} {p : Bool} (h1 : l = ((lcT bs T (i + 1)).1 : Int)) (h2 : c = ((lcT bs T (i + 1)).2 : Int)) (h3 : p = (bs.take (i + 1)).all okB) :
    (∃ k : Nat, k ≤ bs.length ∧ Value.int .i64 ((i : Int) + 1) = .int .i64 (k : Int) ∧ Value.int .i64 l = .int .i64 ((lcT bs T k).1 : Int) ∧ Value.int .i64 c = .int .i64 ((lcT bs T k).2 : Int) ∧ Value.bool p = .bool ((bs.take k).all okB)) ∧
    bs.length - (intOf (Value.int .i64 ((i : Int) + 1))).toNat < bs.length - (intOf (Value.int .i64 (i : Int))).toNat := by
  refine ⟨⟨i + 1, hlt, by simp, by rw [h1], by rw [h2], by rw [h3]⟩, ?_⟩
  simp only [intOf]
  omega

set_option maxRecDepth 100000 in
set_option maxHeartbeats 3200000 in
theorem place_any (A : Option Addr) (c : Nat) (bs : List UInt8) (T : Int) (w : World) (hn : bs.length ≤ 2147483647) (hb : Txt w A bs) :
    Calls Tryd.prog 5 #[.slice A bs.length c, .int .i64 T] w fun e w' =>
      e = .returned (.tuple #[.int .i64 ((lcT bs T bs.length).1 : Int), .int .i64 ((lcT bs T bs.length).2 : Int), .bool (bs.all okB)]) ∧ w = w' := by
  have HB := Lib.hid hb
  clear hb
  go_enter Tryd.func5, Tryd.ntmps5
  go_wp2_with fail
  go_loop [7, 8, 9, 13] (fun v7 v8 v9 v13 => ∃ i : Nat, i ≤ bs.length ∧ v13 = .int .i64 (i : Int) ∧ v7 = .int .i64 ((lcT bs T i).1 : Int) ∧ v8 = .int .i64 ((lcT bs T i).2 : Int) ∧ v9 = .bool ((bs.take i).all okB)) (fun _ _ _ v13 => bs.length - (intOf v13).toNat)
  case atStart => exact ⟨0, Nat.zero_le _, rfl, by rw [lcT_zero]; rfl, by rw [lcT_zero]; rfl, rfl⟩
  case round =>
    obtain ⟨i, hi, rfl, rfl, rfl, rfl⟩ := hrel
    have hle := lcT_le bs T i
    have HL1 : Hid ((lcT bs T i).1 = (lcT bs T i).1) := rfl
    obtain ⟨l1, hl1⟩ : ∃ x, x = (lcT bs T i).1 := ⟨_, rfl⟩
    obtain ⟨c1, hc1⟩ : ∃ x, x = (lcT bs T i).2 := ⟨_, rfl⟩
    obtain ⟨pl, hpl⟩ : ∃ x, x = (bs.take i).all okB := ⟨_, rfl⟩
    rw [← hl1, ← hc1] at hle ⊢
    rw [← hpl]
    by_cases hlt : i < bs.length
    · obtain ⟨ad, rfl, hcell⟩ := HB.out (by omega)
      have hsn := all_snoc hlt
      rw [← hpl] at hsn
      have hgd := getD_at hlt
      have hcb := hcell i hlt
      have hok := okB_iff bs[i]
      obtain ⟨bq, hbb⟩ : ∃ x, x = bs[i].toNat := ⟨_, rfl⟩
      rw [← hbb] at hcb hok
      have hgd' : (bs.getD i 0).toNat = bq := by rw [hgd, ← hbb]
      have hb256 : bq < 256 := by rw [hbb]; exact UInt8.toNat_lt _
      have HSN := Lib.hid hsn
      have HOK := Lib.hid hok
      have HGD := Lib.hid hgd'
      have HL := Lib.hid hl1
      have HC := Lib.hid hc1
      have HCELL := Lib.hid hcell
      have HPL := Lib.hid hpl
      clear hsn hok hgd hgd' hl1 hc1 hcell hbb hpl HL1
      by_cases hT : (i : Int) < T
      · by_cases hten : bq = 10
        · have h10 : ((bq : Int) == 10) = true := by rw [beq_iff_eq]; omega
          have HOK2 : Hid (okB bs[i] = true) := HOK.out.2 (.inl hten)
          have HNL : Hid (nlAt bs i = true) := nlAt_lf (HGD.out.trans hten)
          clear hten
          go_wp2
          exact place_end hlt (by rw [lcT_nl hT HNL.out, ← HL.out]; simp) (by rw [lcT_nl hT HNL.out]; rfl) (by rw [HSN.out, HOK2.out]; simp)
        · have h10 : ((bq : Int) == 10) = false := by rw [beq_eq_false_iff_ne]; omega
          by_cases hcr : bq = 13
          · have h13 : ((bq : Int) == 13) = true := by rw [beq_iff_eq]; omega
            have HOK2 : Hid (okB bs[i] = true) := HOK.out.2 (.inr (.inl hcr))
            by_cases hlast : i + 1 = bs.length
            · have hle2 : (((i : Int) + 1) == (bs.length : Int)) = true := by rw [beq_iff_eq]; omega
              have HNL : Hid (nlAt bs i = true) := nlAt_cr (HGD.out.trans hcr) (fun h => by omega) hlt
              clear hten hcr
              go_wp2
              exact place_end hlt (by rw [lcT_nl hT HNL.out, ← HL.out]; simp) (by rw [lcT_nl hT HNL.out]; rfl) (by rw [HSN.out, HOK2.out]; simp)
            · have hle2 : (((i : Int) + 1) == (bs.length : Int)) = false := by rw [beq_eq_false_iff_ne]; omega
              have hlt1 : i + 1 < bs.length := by omega
              have hc1' := HCELL.out (i + 1) hlt1
              have hgd1 := getD_at hlt1
              obtain ⟨b1, hb1⟩ : ∃ x, x = bs[i + 1].toNat := ⟨_, rfl⟩
              rw [← hb1] at hc1'
              have hb1256 : b1 < 256 := by rw [hb1]; exact UInt8.toNat_lt _
              have HGD1 : Hid ((bs.getD (i + 1) 0).toNat = b1) := by rw [hgd1, ← hb1]; exact rfl
              have hc2' : w.cell? { block := ad.block, off := ad.off + (i + 1) } = some (.int .u8 (b1 : Int)) := hc1'
              clear hgd1 hb1 hc1'
              by_cases hlf : b1 = 10
              · have h110 : ((b1 : Int) == 10) = true := by rw [beq_iff_eq]; omega
                have HNL : Hid (nlAt bs i = false) := nlAt_crlf (HGD.out.trans hcr) hlt1 (HGD1.out.trans hlf)
                clear hten hcr hlf hlast
                go_wp2
                exact place_end hlt (by rw [lcT_no hT HNL.out, ← HL.out]) (by rw [lcT_no hT HNL.out, ← HC.out]; simp) (by rw [HSN.out, HOK2.out]; simp)
              · have h110 : ((b1 : Int) == 10) = false := by rw [beq_eq_false_iff_ne]; omega
                have HNL : Hid (nlAt bs i = true) := nlAt_cr (HGD.out.trans hcr) (fun h => by have := h.2; rw [HGD1.out] at this; omega) hlt
                clear hten hcr hlf hlast
                go_wp2
                exact place_end hlt (by rw [lcT_nl hT HNL.out, ← HL.out]; simp) (by rw [lcT_nl hT HNL.out]; rfl) (by rw [HSN.out, HOK2.out]; simp)
          · have h13 : ((bq : Int) == 13) = false := by rw [beq_eq_false_iff_ne]; omega
            have HNL : Hid (nlAt bs i = false) := nlAt_plain (by rw [HGD.out]; exact hten) (by rw [HGD.out]; exact hcr)
            by_cases hlo : bq < 32
            · have HOK2 : Hid (okB bs[i] = false) := by rw [Bool.eq_false_iff]; intro h; have := HOK.out.1 h; omega
              have hlo' : (bq : Int) < 32 := by omega
              clear hten hcr
              go_wp2
              exact place_end hlt (by rw [lcT_no hT HNL.out, ← HL.out]) (by rw [lcT_no hT HNL.out, ← HC.out]; simp) (by rw [HSN.out, HOK2.out]; simp)
            · have hlo' : ¬ (bq : Int) < 32 := by omega
              by_cases hhi : 126 < bq
              · have HOK2 : Hid (okB bs[i] = false) := by rw [Bool.eq_false_iff]; intro h; have := HOK.out.1 h; omega
                have hhi' : 126 < (bq : Int) := by omega
                clear hten hcr
                go_wp2
                exact place_end hlt (by rw [lcT_no hT HNL.out, ← HL.out]) (by rw [lcT_no hT HNL.out, ← HC.out]; simp) (by rw [HSN.out, HOK2.out]; simp)
              · have HOK2 : Hid (okB bs[i] = true) := HOK.out.2 (by omega)
                have hhi' : ¬ 126 < (bq : Int) := by omega
                clear hten hcr
                go_wp2
                exact place_end hlt (by rw [lcT_no hT HNL.out, ← HL.out]) (by rw [lcT_no hT HNL.out, ← HC.out]; simp) (by rw [HSN.out, HOK2.out]; simp)
      · have hT2 : T ≤ (i : Int) := by omega
        have HPST : Hid (lcT bs T (i + 1) = lcT bs T i) := lcT_past hT2
        by_cases hten : bq = 10
        · have h10 : ((bq : Int) == 10) = true := by rw [beq_iff_eq]; omega
          have HOK2 : Hid (okB bs[i] = true) := HOK.out.2 (.inl hten)
          clear hten
          go_wp2
          exact place_end hlt (by rw [HPST.out, ← HL.out]) (by rw [HPST.out, ← HC.out]) (by rw [HSN.out, HOK2.out]; simp)
        · have h10 : ((bq : Int) == 10) = false := by rw [beq_eq_false_iff_ne]; omega
          by_cases hcr : bq = 13
          · have h13 : ((bq : Int) == 13) = true := by rw [beq_iff_eq]; omega
            have HOK2 : Hid (okB bs[i] = true) := HOK.out.2 (.inr (.inl hcr))
            clear hten hcr
            go_wp2
            exact place_end hlt (by rw [HPST.out, ← HL.out]) (by rw [HPST.out, ← HC.out]) (by rw [HSN.out, HOK2.out]; simp)
          · have h13 : ((bq : Int) == 13) = false := by rw [beq_eq_false_iff_ne]; omega
            by_cases hlo : bq < 32
            · have HOK2 : Hid (okB bs[i] = false) := by rw [Bool.eq_false_iff]; intro h; have := HOK.out.1 h; omega
              have hlo' : (bq : Int) < 32 := by omega
              clear hten hcr
              go_wp2
              exact place_end hlt (by rw [HPST.out, ← HL.out]) (by rw [HPST.out, ← HC.out]) (by rw [HSN.out, HOK2.out]; simp)
            · have hlo' : ¬ (bq : Int) < 32 := by omega
              by_cases hhi : 126 < bq
              · have HOK2 : Hid (okB bs[i] = false) := by rw [Bool.eq_false_iff]; intro h; have := HOK.out.1 h; omega
                have hhi' : 126 < (bq : Int) := by omega
                clear hten hcr
                go_wp2
                exact place_end hlt (by rw [HPST.out, ← HL.out]) (by rw [HPST.out, ← HC.out]) (by rw [HSN.out, HOK2.out]; simp)
              · have HOK2 : Hid (okB bs[i] = true) := HOK.out.2 (by omega)
                have hhi' : ¬ 126 < (bq : Int) := by omega
                clear hten hcr
                go_wp2
                exact place_end hlt (by rw [HPST.out, ← HL.out]) (by rw [HPST.out, ← HC.out]) (by rw [HSN.out, HOK2.out]; simp)
    · have hie : i = bs.length := by omega
      subst hie
      rw [List.take_length] at hpl
      rw [hl1, hc1, hpl]
      go_wp2
      go_ret3
      exact ⟨rfl, rfl⟩
end Go.Proofs.YtdfafjfcnbfmnaaDoor
