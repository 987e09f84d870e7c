/- Two lists of pieces are compared. -/
import Derived.Test.YtanllbfpnpojnaaDoorSpecJson
import Derived.Laws.BytesArg
import Derived.Deep.LoopGhost
set_option linter.unusedVariables false
namespace Go.Proofs.YtanllbfpnpojnaaDoor
open Go.RowKit

/-- A slice that reads as these bytes. -/
def Txt (w : World) (A : Option Addr) (bs : List UInt8) : Prop := 0 < bs.length → ∃ ad : Addr, A = some ad ∧ ∀ j (hj : j < bs.length), w.cell? (ad.add j) = some (.int .u8 ((bs[j]'hj).toNat : Int))
theorem Txt.frm {S : Nat → Prop} {w w' : World} {A : Option Addr} {bs : List UInt8} (h : Txt w A bs) (hf : Frm S w w') (hS : ∀ k, ¬ S k) : Txt w' A bs := fun h0 => by
  obtain ⟨ad, e, hc⟩ := h h0
  exact ⟨ad, e, fun j hj => (hf.cell (World.block_lt_of_cell? w _ (hc j hj)) (hS _)).trans (hc j hj)⟩
theorem conv_txt (A : Option Addr) (c : Nat) (bs : List UInt8) (w : World) (h : Txt w A bs) : (convert 22 9 (.slice A bs.length c)).run Tryd.prog w = .ok (.string ⟨bs.toArray⟩) w := by
  by_cases h0 : 0 < bs.length
  · obtain ⟨ad, rfl, hc⟩ := h h0
    exact run_convert_bytes_back w 22 9 5 ad c bs Tryd.underlying22 Tryd.underlying5 Tryd.underlying9 hc
  · obtain rfl : bs = [] := List.eq_nil_of_length_eq_zero (by omega)
    cases A with
    | some ad => exact run_convert_bytes_back w 22 9 5 ad c [] Tryd.underlying22 Tryd.underlying5 Tryd.underlying9 (fun j hj => absurd hj (by simp))
    | none => exact run_convert_bytes_nil w 22 5 Tryd.underlying22 Tryd.underlying5 0 c 9 Tryd.underlying9

theorem same_any (A1 A2 : Option Addr) (n c1 c2 : Nat) (L : List UInt8) (w : World) (hn : L.length = n) (h1 : Txt w A1 L) (h2 : Txt w A2 L) :
    Calls Tryd.prog 17 #[.slice A1 n c1, .slice A2 n c2] w fun e w' => e = .returned (.bool true) ∧ w = w' := by
  have e1 := conv_txt A1 c1 L w h1
  have e2 := conv_txt A2 c2 L w h2
  rw [hn] at e1 e2
  clear h1 h2 hn
  generalize (⟨L.toArray⟩ : ByteArray) = s at *
  go_enter Tryd.func17, Tryd.ntmps17
  go_wp2
  go_ret
  exact ⟨rfl, rfl⟩
theorem same_nil (w : World) : Calls Tryd.prog 17 #[.slice none 0 0, .slice none 0 0] w fun e w' => e = .returned (.bool true) ∧ w = w' :=
  same_any none none 0 0 0 [] w rfl (fun h => absurd h (by decide)) (fun h => absurd h (by decide))

theorem flat_get (qs : List (Pc × Value)) : ∀ (i : Nat) (q : Pc × Value), qs[i]? = some q → ∀ j, j < 6 → (qs.flatMap PcCells)[i * 6 + j]? = (PcCells q)[j]? := by
  induction qs with
  | nil => intro i q h; simp at h
  | cons a qs ih =>
    intro i q h j hj
    have hl : (PcCells a).length = 6 := rfl
    rw [List.flatMap_cons]
    cases i with
    | zero =>
      simp at h
      subst h
      rw [List.getElem?_append_left (by rw [hl]; omega)]
      simp
    | succ i =>
      rw [List.getElem?_append_right (by rw [hl]; omega), hl, show (i + 1) * 6 + j - 6 = i * 6 + j by omega]
      exact ih i q (by simpa using h) j hj

theorem row_cell {w : World} {B : Nat} {bs : List UInt8} {g n cap : Nat} {qs : List (Pc × Value)} {q : Pc × Value} {i : Nat} (h : Row w B bs (.slice (some ⟨g, 0, none⟩) n cap) qs) (hq : qs[i]? = some q) (j : Nat) (hj : j < 6) {u : Value} (hu : (PcCells q)[j]? = some u) :
    w.cell? ⟨g, i * 6 + j, none⟩ = some u := by
  have := h.1.cells (g := g) rfl (i * 6 + j) u (by rw [flat_get qs i q hq j hj]; exact hu)
  simpa [Addr.add_lit] using this
theorem own_txt {w : World} {B : Nat} {v : Value} {L : List UInt8} (h : w.ownsRow B 5 1 v L.length (bvals L)) : ∃ A c, v = .slice A L.length c ∧ Txt w A L := by
  have h' := h
  rcases h.2 with ⟨rfl, e⟩ | ⟨g, cap, cur, rfl, _⟩
  · exact ⟨none, 0, by rw [e], fun h0 => by omega⟩
  · refine ⟨some ⟨g, 0, none⟩, cap, rfl, fun _ => ⟨_, rfl, fun j hj => ?_⟩⟩
    exact h'.cells (g := g) rfl j _ (by rw [bvals, List.getElem?_map, List.getElem?_eq_getElem hj]; rfl)

set_option maxRecDepth 100000 in
set_option maxHeartbeats 3200000 in
theorem samePieces_any {B1 B2 : Nat} {bs : List UInt8} {v1 v2 : Value} {qs1 qs2 : List (Pc × Value)} (w : World) (h1 : Row w B1 bs v1 qs1) (h2 : Row w B2 bs v2 qs2) (he : qs1.map Prod.fst = qs2.map Prod.fst) (hn : qs1.length ≤ 1000000) :
    Calls Tryd.prog 6 #[v1, v2] w fun e w' => e = .returned (.bool true) ∧ Frm (fun _ => False) w w' := by
  have hlen : qs2.length = qs1.length := by have := congrArg List.length he; simpa using this.symm
  obtain ⟨A1, c1, rfl⟩ : ∃ A c, v1 = .slice A qs1.length c := by
    rcases h1.1.2 with ⟨e, h0⟩ | ⟨g, cap, cur, e, _⟩
    · exact ⟨_, _, by rw [e, h0]⟩
    · exact ⟨_, _, e⟩
  obtain ⟨A2, c2, rfl⟩ : ∃ A c, v2 = .slice A qs1.length c := by
    rcases h2.1.2 with ⟨e, h0⟩ | ⟨g, cap, cur, e, _⟩
    · exact ⟨_, _, by rw [e, ← hlen, h0]⟩
    · exact ⟨_, _, by rw [e, hlen]⟩
  have H1 := Lib.hid h1
  have H2 := Lib.hid h2
  have HE := Lib.hid he
  have HLEN := Lib.hid hlen
  clear h1 h2 he hlen
  generalize hN : qs1.length = n at *
  go_enter Tryd.func6, Tryd.ntmps6
  go_wp2_with fail
  go_loopg [5, 6, 7, 15] n (fun g v5 v6 v7 v15 wr => ∃ i : Nat, i ≤ n ∧ v15 = .int .i64 (i : Int) ∧ Hid (g = n - i) ∧ Hid (Frm (fun _ => False) w wr))
  case atStart => exact ⟨0, Nat.zero_le _, rfl, rfl, Frm.refl _ _⟩
  case round =>
    obtain ⟨i, hi, rfl, HK, HF⟩ := hrel
    by_cases hlt : i < n
    · have hlt' : (i : Int) < (n : Int) := by omega
      have hi0 : (0 : Int) ≤ (i : Int) := by omega
      have hr1 := H1.out.frm HF.out (fun _ _ _ h => h)
      have hr2 := H2.out.frm HF.out (fun _ _ _ h => h)
      have hi1 : i < qs1.length := by omega
      have hi2 : i < qs2.length := by have := HLEN.out; omega
      obtain ⟨q1, hq1⟩ : ∃ q, qs1[i]? = some q := ⟨_, List.getElem?_eq_getElem hi1⟩
      obtain ⟨q2, hq2⟩ : ∃ q, qs2[i]? = some q := ⟨_, List.getElem?_eq_getElem hi2⟩
      have hp : q1.1 = q2.1 := by
        have h3 : (qs1.map Prod.fst)[i]? = (qs2.map Prod.fst)[i]? := by rw [HE.out]
        rw [List.getElem?_map, List.getElem?_map, hq1, hq2] at h3
        simpa using h3
      obtain ⟨g1, rfl⟩ : ∃ g, A1 = some ⟨g, 0, none⟩ := by
        rcases hr1.1.2 with ⟨e, h0⟩ | ⟨g, cap, cur, e, _⟩
        · omega
        · injection e with e
          exact ⟨g, e⟩
      obtain ⟨g2, rfl⟩ : ∃ g, A2 = some ⟨g, 0, none⟩ := by
        rcases hr2.1.2 with ⟨e, h0⟩ | ⟨g, cap, cur, e, _⟩
        · omega
        · injection e with e
          exact ⟨g, e⟩
      have hm1 := hr1.2 q1 (List.mem_of_getElem? hq1)
      have hm2 := hr2.2 q2 (List.mem_of_getElem? hq2)
      obtain ⟨p, d1⟩ := q1
      obtain ⟨p2, d2⟩ := q2
      simp only at hp
      subst hp
      obtain ⟨Ad1, cd1, hd1, ht1⟩ := own_txt hm1
      obtain ⟨Ad2, cd2, hd2, ht2⟩ := own_txt hm2
      simp only at hd1 hd2 ht1 ht2
      have a0 : wr.cell? ⟨g1, i * 6, none⟩ = some (.string (kindS p.kind)) := row_cell hr1 hq1 0 (by decide) rfl
      have a1 : wr.cell? ⟨g1, i * 6 + 1, none⟩ = some d1 := row_cell hr1 hq1 1 (by decide) rfl
      have a2 : wr.cell? ⟨g1, i * 6 + 2, none⟩ = some (.slice none 0 0) := row_cell hr1 hq1 2 (by decide) rfl
      have a3 : wr.cell? ⟨g1, i * 6 + 3, none⟩ = some (.slice none 0 0) := row_cell hr1 hq1 3 (by decide) rfl
      have a4 : wr.cell? ⟨g1, i * 6 + 4, none⟩ = some (.slice none 0 0) := row_cell hr1 hq1 4 (by decide) rfl
      have a5 : wr.cell? ⟨g1, i * 6 + 5, none⟩ = some (.string (stateS p.st)) := row_cell hr1 hq1 5 (by decide) rfl
      have b0 : wr.cell? ⟨g2, i * 6, none⟩ = some (.string (kindS p.kind)) := row_cell hr2 hq2 0 (by decide) rfl
      have b1 : wr.cell? ⟨g2, i * 6 + 1, none⟩ = some d2 := row_cell hr2 hq2 1 (by decide) rfl
      have b2 : wr.cell? ⟨g2, i * 6 + 2, none⟩ = some (.slice none 0 0) := row_cell hr2 hq2 2 (by decide) rfl
      have b3 : wr.cell? ⟨g2, i * 6 + 3, none⟩ = some (.slice none 0 0) := row_cell hr2 hq2 3 (by decide) rfl
      have b4 : wr.cell? ⟨g2, i * 6 + 4, none⟩ = some (.slice none 0 0) := row_cell hr2 hq2 4 (by decide) rfl
      have b5 : wr.cell? ⟨g2, i * 6 + 5, none⟩ = some (.string (stateS p.st)) := row_cell hr2 hq2 5 (by decide) rfl
      subst hd1 hd2
      have hg2 : g2 < wr.heap.size := World.block_lt_of_cell? wr _ b0
      have HT1 := Lib.hid ht1
      have HT2 := Lib.hid ht2
      generalize kindS p.kind = ks at *
      generalize stateS p.st = ss at *
      obtain ⟨ln, hln⟩ : ∃ ln, (p.data bs).length = ln := ⟨_, rfl⟩
      rw [hln] at a1 b1
      have HLN := Lib.hid hln
      clear hln ht1 ht2 hm1 hm2 hr1 hr2 hq1 hq2 hi1 hi2
      go_wp2_with fail
      refine (same_any Ad1 Ad2 ln cd1 cd2 (p.data bs) _ HLN.out (HT1.out.frm (((Frm.refl (fun _ => False) wr).alloc _).alloc _) (fun _ h => h)) (HT2.out.frm (((Frm.refl (fun _ => False) wr).alloc _).alloc _) (fun _ h => h))).mono ?_
      rintro e wq ⟨rfl, rfl⟩
      dsimp only
      go_wp2_with fail
      refine (same_nil _).mono ?_
      rintro e wq ⟨rfl, rfl⟩
      dsimp only
      go_wp2_with fail
      refine (same_nil _).mono ?_
      rintro e wq ⟨rfl, rfl⟩
      dsimp only
      go_wp2_with fail
      refine (same_nil _).mono ?_
      rintro e wq ⟨rfl, rfl⟩
      dsimp only
      go_wp2_with fail
      go_roundg (n - (i + 1))
      case measure => have := HK.out; omega
      case rel => exact ⟨i + 1, by omega, by go_num, rfl, (HF.out.alloc _).alloc _⟩
    · have hlt' : ¬ (i : Int) < (n : Int) := by omega
      go_wp2
      go_ret
      exact ⟨rfl, HF.out⟩
end Go.Proofs.YtanllbfpnpojnaaDoor
