/- The reference's reader passes a bracket. -/
import Derived.Test.YtanllbfpnpojnaaDoorNoteB
set_option linter.unusedVariables false
namespace Go.Proofs.YtanllbfpnpojnaaDoor
open Go.RowKit

section
variable {B R : Nat} {A : Option Addr} {c : Nat} {bs xs : List UInt8} {vo va : Value} {w1 w w' : World} {a b : Nat} {qs : List (Pc × Value)}
theorem bvals_append (l m : List UInt8) : bvals (l ++ m) = bvals l ++ bvals m := by simp [bvals]

theorem Rd.push {g cap : Nat} {w2 : World} (ch : UInt8) (h : Rd B R A c bs w a qs xs vo va) (hf : Frm (fun k => va.ownBlock = some k) w w2) (hg : va.ownBlock = some g ∨ w.heap.size ≤ g)
    (hown : w2.ownsRow B 5 1 (.slice (some ⟨g, 0, none⟩) (xs.length + 1) cap) (xs.length + 1) (bvals xs ++ [.int .u8 (ch.toNat : Int)])) :
    Rd B R A c bs (w2.setCell ⟨R, 3, none⟩ (.slice (some ⟨g, 0, none⟩) (xs.length + 1) cap)) a qs (xs ++ [ch]) vo (.slice (some ⟨g, 0, none⟩) (xs.length + 1) cap) := by
  have hne : va.ownBlock ≠ some R := own_ne_blk h.abv h.blk (by decide)
  have hB : B ≤ w.heap.size := by have := h.hR; have := h.blk.lt; omega
  have b2 : Blk w2 R 30 (RdCells A bs.length c a vo va) := hf.blk h.blk hne
  have f3 : Frm (fun k => k = R) w2 (w2.setCell ⟨R, 3, none⟩ (.slice (some ⟨g, 0, none⟩) (xs.length + 1) cap)) := (Frm.refl (fun k => k = R) w2).setCell (p := ⟨R, 3, none⟩) (fun _ => rfl) _
  have hva : ∀ g, va.ownBlock = some g → B ≤ g ∧ g < w.heap.size := fun g hg => h.abv.lt g hg
  refine ⟨b2.set_ 3 _, ?_, h.hR, ?_, ?_, ?_, ?_, h.few⟩
  · have t2 := h.text.frm hf hB (fun k hk e => by have := hva k e; omega)
    exact t2.frm f3 (Nat.le_trans hB hf.size) (fun k hk e => by have := h.hR; omega)
  · have h2 := hf.owns h.out (fun g' hg' e => own_ne h.out h.abv (by decide) hg' e)
    exact f3.owns h2 (fun g' hg' e => own_ne_blk h2 b2 (by decide) (by rw [hg', e]))
  · intro q hq
    have h2 := hf.owns (h.data q hq) (fun g' hg' e => h.apart q hq g' hg' e)
    exact f3.owns h2 (fun g' hg' e => own_ne_blk h2 b2 (by decide) (by rw [hg', e]))
  · have h2 := f3.owns hown (fun g' hg' e => own_ne_blk hown b2 (by decide) (by rw [hg', e]))
    rw [List.length_append, bvals_append]
    exact h2
  · intro q hq g' hg' e
    simp [Value.ownBlock] at e
    subst e
    rcases hg with hg | hg
    · exact h.apart q hq _ hg' hg
    · have := ((h.data q hq).lt _ hg').2
      omega

theorem Rd.pop {g cap : Nat} {ch : UInt8} (h : Rd B R A c bs w a qs (xs ++ [ch]) vo (.slice (some ⟨g, 0, none⟩) (xs.length + 1) cap)) :
    Rd B R A c bs (w.setCell ⟨R, 3, none⟩ (.slice (some ⟨g, 0, none⟩) xs.length cap)) a qs xs vo (.slice (some ⟨g, 0, none⟩) xs.length cap) := by
  have hB : B ≤ w.heap.size := by have := h.hR; have := h.blk.lt; omega
  have f3 : Frm (fun k => k = R) w (w.setCell ⟨R, 3, none⟩ (.slice (some ⟨g, 0, none⟩) xs.length cap)) := (Frm.refl (fun k => k = R) w).setCell (p := ⟨R, 3, none⟩) (fun _ => rfl) _
  have hsm : w.ownsRow B 5 1 (.slice (some ⟨g, 0, none⟩) xs.length cap) xs.length (bvals xs) := by
    refine ⟨by rw [bvals_length]; omega, ?_⟩
    rcases h.abv.2 with ⟨e, _⟩ | ⟨g', cap', cur, e, hb, hg, hn, hm, hs, ht⟩
    · cases e
    · injection e with e1 e2 e3
      injection e1 with e1
      injection e1 with e1
      subst e1 e3
      refine .inr ⟨g, cap, cur, rfl, hb, hg, by rw [List.length_append] at hn; simp at hn; omega, hm, hs, ?_⟩
      have ht2 := congrArg (List.take xs.length) ht
      rw [bvals_append, List.take_take, List.length_append] at ht2
      rw [Nat.mul_one]
      simp at ht2
      rw [ht2, List.take_append_of_le_length (by rw [bvals_length]; omega), List.take_of_length_le (by rw [bvals_length]; omega)]
  refine ⟨h.blk.set_ 3 _, ?_, h.hR, ?_, ?_, ?_, h.apart, h.few⟩
  · exact h.text.frm f3 hB (fun k hk e => by have := h.hR; omega)
  · exact f3.owns h.out (fun g' hg' e => own_ne_blk h.out h.blk (by decide) (by rw [hg', e]))
  · intro q hq
    exact f3.owns (h.data q hq) (fun g' hg' e => own_ne_blk (h.data q hq) h.blk (by decide) (by rw [hg', e]))
  · exact f3.owns hsm (fun g' hg' e => own_ne_blk hsm h.blk (by decide) (by rw [hg', e]))

theorem Rs.drew (h : Rs B R A c bs vo va w1 w a) : Rs B R A c bs vo va w1 w.drew a := ⟨h.1, h.2.1, h.2.2.1, h.2.2.2.drew⟩
theorem Noted.c1 {p : Pc} (h : Noted B R A c bs w w' a qs p xs va) : w'.cell? ⟨R, 1, none⟩ = some (.int .i64 (a : Int)) := by
  obtain ⟨_, _, h, _⟩ := h
  exact h.rs.c1

/-- Behind an opening bracket. -/
def Opened (B R : Nat) (A : Option Addr) (c : Nat) (bs : List UInt8) (w w' : World) (a : Nat) (qs : List (Pc × Value)) (p : Pc) (xs : List UInt8) : Prop :=
  ∃ vo' v1 va', Rd B R A c bs w' a (qs ++ [(p, v1)]) xs vo' va' ∧ Frm (fun k => B ≤ k) w w'

set_option maxRecDepth 100000 in
set_option maxHeartbeats 3200000 in
theorem bracket_open (ch : UInt8) (kd : Int) (k : ByteArray) (h : Rd B R A c bs w a qs xs vo va) (hk : kindS kd = k) (hn : bs.length ≤ 2147483647) (hc : bs.length ≤ c) (hc2 : c ≤ 9223372036854775807) (ha : a < bs.length) (hb : pk bs a = (ch.toNat : Int)) (hx : xs.length ≤ 100) :
    Calls Tryd.prog 19 #[.pointer (some ⟨R, 0, none⟩), .string k, .bool true] w fun e w' => e = .returned (.tuple #[]) ∧ Opened B R A c bs w w' (a + 1) qs ⟨kd, a, a + 1, topR (xs ++ [ch])⟩ (xs ++ [ch]) := by
  obtain ⟨i5, h5, h5z, h5s, h5b⟩ := info_parts info5
  have HH := Lib.hid h
  have hRlt := h.blk.lt
  have hBw : B ≤ w.heap.size := by have := h.hR; omega
  have HB := Lib.hid hb
  have HF : Hid (qs.length ≤ a) := h.few
  clear h hb
  go_enter Tryd.func19, Tryd.ntmps19
  go_upto_if 16 with (go_at_call 18; refine (peek_s HH.out.rs hn (by omega)).mono ?_; rintro e w' ⟨rfl, hS'⟩; rw [HB.out]; have g1 := hS'.c1; have gf := hS'.f1)
  have hD : Rd B R A c bs (w'.setCell ⟨R, 1, none⟩ (.int .i64 ((a : Int) + 1))) (a + 1) qs xs vo va := HH.out.of_rs hS'.inc (Nat.le_succ a)
  have hfr : Frm (fun k => k = R) w (w'.setCell ⟨R, 1, none⟩ (.int .i64 ((a : Int) + 1))) := hS'.inc.2.2.2
  clear hS' g1 gf
  generalize w'.setCell ⟨R, 1, none⟩ (.int .i64 ((a : Int) + 1)) = wA at *
  have HD := Lib.hid hD
  have HFR := Lib.hid hfr
  have hRA : R < wA.heap.size := hD.blk.lt
  have g3 : wA.cell? ⟨R, 3, none⟩ = some va := hD.rs.c3
  have gf3 : wA.frozen? ⟨R, 3, none⟩ = false := Blk.frozen hD.blk 3
  clear hD hfr
  have hneR : va.ownBlock ≠ some R := own_ne_blk HD.out.abv HD.out.blk (by decide)
  go_wp2_with (at_builtin; refine wpList_append_lies _ rfl (.tmp 21) (.tmp 23) 22 rfl B 5 i5 _ 1 1 Tryd.underlying22 h5 h5z h5s h5b rfl (by omega) va xs.length (bvals xs) rfl (HD.out.abv.alloc _) ⟨wA.heap.size, 0, none⟩ 1 1 [.int .u8 (ch.toNat : Int)] rfl rfl (World.news_of_block (cs := #[.int .u8 (ch.toNat : Int)]) (t := 5) (fr := (0, 0)) (heap_alloc_new wA _)) (by simp [Value.oneCell']) (by omega) (by unfold maxLen; omega) (by omega) (by simp; have := HD.out.hR; omega) (wA.heap.size + 1) (by simp) ?_; intro g cap w2 hown hgrow hat hlt; have hf2 : Frm (fun k => va.ownBlock = some k) wA w2 := ((Frm.refl _ wA).alloc _).trans (Frm.of_grownBy hgrow); have gf2 : w2.frozen? ⟨R, 3, none⟩ = false := (hf2.frozen hRA hneR).trans gf3; have gc2 : w2.cell? ⟨R, 3, none⟩ = some va := (hf2.cell hRA hneR).trans g3)
  have HD2 : Hid (Rd B R A c bs (w2.setCell ⟨R, 3, none⟩ (.slice (some ⟨g, 0, none⟩) (xs.length + 1) cap)) (a + 1) qs (xs ++ [ch]) vo (.slice (some ⟨g, 0, none⟩) (xs.length + 1) cap)) := HD.out.push ch hf2 (by rcases hat with h | h; exact .inl h; exact .inr (by omega)) hown
  have HF2 : Hid (Frm (fun k => B ≤ k) w (w2.setCell ⟨R, 3, none⟩ (.slice (some ⟨g, 0, none⟩) (xs.length + 1) cap))) := ((HFR.out.mono (fun k _ e => by have := HD.out.hR; omega)).trans (hf2.mono (fun k _ e => (HD.out.abv.lt k e).1))).setCell (fun _ => HD.out.hR) _
  clear hown hgrow hat hlt hf2 gf2 gc2 g3 gf3 HD HFR
  generalize w2.setCell ⟨R, 3, none⟩ (.slice (some ⟨g, 0, none⟩) (xs.length + 1) cap) = wB at *
  have k1 : wB.cell? ⟨R, 1, none⟩ = some (.int .i64 ((a : Int) + 1)) := HD2.out.rs.c1
  have hwa : IntKind.i64.wrap (a : Int) = (a : Int) := Go.wrap_small _ (by omega) (by omega)
  go_region_held3 (fun w' => w'.cell? ⟨R, 1, none⟩ = some (.int .i64 ((a : Int) + 1)))
    (first | go_keep | assumption)
    (first
      | (go_at_call 24; refine (state_s (w1 := wB) (xs ++ [ch]) HD2.out.rs.drew ⟨B, HD2.out.abv⟩ (by simp; omega)).mono ?_; rintro e w3 ⟨rfl, hS3⟩; have k3 : w3.cell? ⟨R, 1, none⟩ = some (.int .i64 ((a : Int) + 1)) := hS3.c1; have hD3 := HD2.out.of_rs hS3 (Nat.le_refl _))
      | (go_at_call 23; refine (note_s ⟨kd, a, a + 1, topR (xs ++ [ch])⟩ k _ hD3 hk rfl hn hc hc2 rfl (by simp) (by omega) (by have := HF.out; omega)).mono ?_; rintro e w4 ⟨rfl, hN⟩; have k4 : w4.cell? ⟨R, 1, none⟩ = some (.int .i64 ((a : Int) + 1)) := hN.c1)
      | fail)
  go_wp2
  go_end0
  obtain ⟨vo', v1, hR4, hF4⟩ := hN
  exact ⟨rfl, vo', v1, _, hR4, (HF2.out.trans (hS3.2.2.2.mono (fun k _ e => by have := HD2.out.hR; omega))).trans hF4⟩

set_option maxRecDepth 100000 in
set_option maxHeartbeats 3200000 in
theorem bracket_close (ch : UInt8) (kd : Int) (k : ByteArray) (h : Rd B R A c bs w a qs (xs ++ [ch]) vo va) (hk : kindS kd = k) (hn : bs.length ≤ 2147483647) (hc : bs.length ≤ c) (hc2 : c ≤ 9223372036854775807) (ha : a < bs.length) (hx : xs.length ≤ 100) :
    Calls Tryd.prog 19 #[.pointer (some ⟨R, 0, none⟩), .string k, .bool false] w fun e w' => e = .returned (.tuple #[]) ∧ Opened B R A c bs w w' (a + 1) qs ⟨kd, a, a + 1, topR xs⟩ xs := by
  have HH := Lib.hid h
  have hRlt := h.blk.lt
  have hBw : B ≤ w.heap.size := by have := h.hR; omega
  have HF : Hid (qs.length ≤ a) := h.few
  obtain ⟨g, cap, rfl, hcap⟩ : ∃ g cap, va = .slice (some ⟨g, 0, none⟩) (xs.length + 1) cap ∧ xs.length + 1 ≤ cap := by
    rcases h.abv.2 with ⟨_, e⟩ | ⟨g, cap, cur, e, _, _, hle, _⟩
    · simp at e
    · rw [List.length_append] at e hle
      exact ⟨g, cap, e, hle⟩
  clear h
  generalize hy : xs.length = y at *
  have hy0 : (0 : Int) ≤ (y : Int) := by omega
  have hy1 : (y : Int) ≤ (cap : Int) := by omega
  go_enter Tryd.func19, Tryd.ntmps19
  go_upto_if 16 with (go_at_call 18; refine (peek_s HH.out.rs hn (by omega)).mono ?_; rintro e w' ⟨rfl, hS'⟩; have g1 := hS'.c1; have gf := hS'.f1)
  have hD : Rd B R A c bs (w'.setCell ⟨R, 1, none⟩ (.int .i64 ((a : Int) + 1))) (a + 1) qs (xs ++ [ch]) vo (.slice (some ⟨g, 0, none⟩) (y + 1) cap) := HH.out.of_rs hS'.inc (Nat.le_succ a)
  have hfr : Frm (fun k => k = R) w (w'.setCell ⟨R, 1, none⟩ (.int .i64 ((a : Int) + 1))) := hS'.inc.2.2.2
  clear hS' g1 gf
  generalize w'.setCell ⟨R, 1, none⟩ (.int .i64 ((a : Int) + 1)) = wA at *
  have HD := Lib.hid hD
  have HFR := Lib.hid hfr
  have hRA : R < wA.heap.size := hD.blk.lt
  have g3 : wA.cell? ⟨R, 3, none⟩ = some (.slice (some ⟨g, 0, none⟩) (y + 1) cap) := hD.rs.c3
  have gf3 : wA.frozen? ⟨R, 3, none⟩ = false := Blk.frozen hD.blk 3
  clear hD hfr
  go_wp2_with fail
  go_region
  all_goals
    go_wp2_with fail
    have HD2 : Hid (Rd B R A c bs (wA.setCell ⟨R, 3, none⟩ (.slice (some ⟨g, 0, none⟩) y cap)) (a + 1) qs xs vo (.slice (some ⟨g, 0, none⟩) y cap)) := by
      have h0 := HD.out
      rw [← hy] at h0 ⊢
      exact h0.pop
    have HF2 : Hid (Frm (fun k => B ≤ k) w (wA.setCell ⟨R, 3, none⟩ (.slice (some ⟨g, 0, none⟩) y cap))) := (HFR.out.mono (fun k _ e => by have := HD.out.hR; omega)).setCell (fun _ => HD.out.hR) _
    clear g3 gf3 HD HFR
    have HD3 : Hid (∀ n, Rd B R A c bs ((wA.setCell ⟨R, 3, none⟩ (.slice (some ⟨g, 0, none⟩) y cap)).drewN n) (a + 1) qs xs vo (.slice (some ⟨g, 0, none⟩) y cap)) := fun n => HD2.out.of_rs (HD2.out.rs.drawn n) (Nat.le_refl _)
    generalize (wA.setCell ⟨R, 3, none⟩ (.slice (some ⟨g, 0, none⟩) y cap)) = wB at *
    have k1 : wB.cell? ⟨R, 1, none⟩ = some (.int .i64 ((a : Int) + 1)) := HD2.out.rs.c1
    have hwa : IntKind.i64.wrap (a : Int) = (a : Int) := Go.wrap_small _ (by omega) (by omega)
    go_region_held3 (fun w' => w'.cell? ⟨R, 1, none⟩ = some (.int .i64 ((a : Int) + 1)))
      (first | go_keep | assumption)
      (first
        | (go_at_call 24; refine (state_s (w1 := wB) xs HD2.out.rs.drew.drew ⟨B, HD2.out.abv⟩ (by omega)).mono ?_; rintro e w3 ⟨rfl, hS3⟩; have k3 : w3.cell? ⟨R, 1, none⟩ = some (.int .i64 ((a : Int) + 1)) := hS3.c1; have hD3 := HD2.out.of_rs hS3 (Nat.le_refl _))
        | (go_at_call 23; refine (note_s ⟨kd, a, a + 1, topR xs⟩ k _ hD3 hk rfl hn hc hc2 rfl (by simp) (by omega) (by have := HF.out; omega)).mono ?_; rintro e w4 ⟨rfl, hN⟩; have k4 : w4.cell? ⟨R, 1, none⟩ = some (.int .i64 ((a : Int) + 1)) := hN.c1)
        | fail)
    go_wp2
    go_end0
    obtain ⟨vo', v1, hR4, hF4⟩ := hN
    exact ⟨rfl, vo', v1, _, hR4, (HF2.out.trans (hS3.2.2.2.mono (fun k _ e => by have := HD2.out.hR; omega))).trans hF4⟩
end
end Go.Proofs.YtanllbfpnpojnaaDoor
