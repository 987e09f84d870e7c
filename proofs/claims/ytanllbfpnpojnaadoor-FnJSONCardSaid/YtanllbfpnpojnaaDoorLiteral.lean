/- The reference's words of JSON, and the state of its reader. -/
import Derived.Test.YtanllbfpnpojnaaDoorNumber
import Derived.Laws.IdiomStrings
set_option linter.unusedVariables false
namespace Go.Proofs.YtanllbfpnpojnaaDoor
open Go.RowKit

/-- The names of states, and of kinds. -/
def stateS (x : Int) : ByteArray := if x = 0 then { data := #[86, 97, 108, 117, 101] } else if x = 1 then { data := #[79, 98, 106, 101, 99, 116, 75, 101, 121] } else if x = 2 then { data := #[79, 98, 106, 101, 99, 116, 86, 97, 108, 117, 101] } else { data := #[65, 114, 114, 97, 121] }
def kindS (x : Int) : ByteArray := if x = 2 then { data := #[76, 105, 116, 101, 114, 97, 108] } else if x = 3 then { data := #[78, 117, 109, 98, 101, 114] } else if x = 4 then { data := #[83, 116, 114, 105, 110, 103] }
  else if x = 5 then { data := #[83, 116, 97, 114, 116, 79, 98, 106, 101, 99, 116] } else if x = 6 then { data := #[69, 110, 100, 79, 98, 106, 101, 99, 116] } else if x = 7 then { data := #[83, 116, 97, 114, 116, 65, 114, 114, 97, 121] } else if x = 8 then { data := #[69, 110, 100, 65, 114, 114, 97, 121] } else { data := #[87, 104, 105, 116, 101, 115, 112, 97, 99, 101] }

section
variable {B R : Nat} {A : Option Addr} {c : Nat} {bs : List UInt8} {vo va : Value} {w1 w w' : World} {a : Nat}
/-- The word stands at a place. -/
def WordAt (bs : List UInt8) (a : Nat) (s : List UInt8) : Prop := a + s.length ≤ bs.length ∧ (bs.drop a).take s.length = s

set_option maxHeartbeats 1600000 in
theorem literal_s (s : List UInt8) (h : Rs B R A c bs vo va w1 w a) (hn : bs.length ≤ 2147483647) (hc : bs.length ≤ c) (hc2 : c ≤ 9223372036854775807) (ha : a ≤ bs.length + 1) (hs0 : 0 < s.length) (hs : s.length ≤ 10) :
    Calls Tryd.prog 25 #[.pointer (some ⟨R, 0, none⟩), .string ⟨s.toArray⟩] w fun e w' => SaysAt bs (Rs B R A c bs vo va w1) (fun ok b => (ok = true → b = a + s.length ∧ WordAt bs a s) ∧ (ok = false → b = a)) e w' := by
  have HS := Lib.hid h
  have g0 := h.c0
  have g1 := h.c1
  have gf := h.f1
  have hw : IntKind.i64.wrap ((a : Int) + (s.length : Int)) = (a : Int) + (s.length : Int) := Go.wrap_small _ (by omega) (by omega)
  have b0 : (0 : Int) ≤ (a : Int) := by omega
  have b1 : (a : Int) ≤ (a : Int) + (s.length : Int) := by omega
  by_cases hle : a + s.length ≤ bs.length
  · obtain ⟨ad, rfl, hb, hcell⟩ := h.2.1 (by omega)
    obtain ⟨L, hL⟩ : ∃ L, L = (bs.drop a).take s.length := ⟨_, rfl⟩
    have hm : L.length = s.length := by rw [hL, List.length_take, List.length_drop]; omega
    have hca : ¬ c = a := by omega
    have hlen : ((a : Int) + (s.length : Int)).toNat - a = L.length := by omega
    have hcv : ∀ n, (convert 22 9 (.slice (some (ad.add a)) (((a : Int) + (s.length : Int)).toNat - a) (c - a))).run Tryd.prog (w.drewN n) = .ok (.string ⟨L.toArray⟩) (w.drewN n) := fun n => by
      rw [hlen]
      refine run_convert_bytes_back _ 22 9 5 _ _ L Tryd.underlying22 Tryd.underlying5 Tryd.underlying9 (fun j hj => ?_)
      rw [add_of_add]
      have := hcell (a + j) (by omega)
      rw [show L[j] = bs[a + j]'(by omega) by simp [hL]]
      exact this
    have HL := Lib.hid hL
    clear hL hm hlen
    clear hcell h
    have e1 : decide ((bs.length : Int) < (a : Int) + (s.length : Int)) = false := by rw [decide_eq_false_iff_not]; omega
    have b2 : (a : Int) + (s.length : Int) ≤ (c : Int) := by omega
    by_cases hE : L = s
    · have e2 : (L == s) = true := by rw [beq_iff_eq]; exact hE
      have HW : Hid (WordAt bs a s) := ⟨hle, by rw [← HL.out]; exact hE⟩
      clear hE
      go_enter Tryd.func25, Tryd.ntmps25
      go_wp2
      go_quiet (fail)
      go_wp2
      go_ret
      refine ⟨true, a + s.length, rfl, by omega, ?_, fun _ => ⟨rfl, HW.out⟩, fun h => absurd h (by decide)⟩
      have := (HS.out.drawn nq).to (a + s.length)
      simpa using this
    · have e2 : (L == s) = false := by rw [beq_eq_false_iff_ne]; exact hE
      clear hE
      go_enter Tryd.func25, Tryd.ntmps25
      go_wp2
      go_quiet (fail)
      go_wp2
      go_ret
      exact ⟨false, a, rfl, by omega, HS.out.drawn _, fun h => absurd h (by decide), fun _ => rfl⟩
  · have e1 : decide ((bs.length : Int) < (a : Int) + (s.length : Int)) = true := by rw [decide_eq_true_iff]; omega
    clear h hle
    go_enter Tryd.func25, Tryd.ntmps25
    go_wp2
    go_quiet (fail)
    go_wp2
    go_ret
    exact ⟨false, a, rfl, by omega, HS.out.drawn _, fun h => absurd h (by decide), fun _ => rfl⟩

set_option maxHeartbeats 800000 in
theorem state_s (xs : List UInt8) (h : Rs B R A c bs vo va w1 w a) (hva : ∃ base, w.ownsRow base 5 1 va xs.length (xs.map fun b => .int .u8 (b.toNat : Int))) (hx : xs.length ≤ 1000) :
    Calls Tryd.prog 24 #[.pointer (some ⟨R, 0, none⟩)] w fun e w' => e = .returned (.string (stateS (topR xs))) ∧ Rs B R A c bs vo va w1 w' a := by
  have HS := Lib.hid h
  have g3 := h.c3
  obtain ⟨base, hrow⟩ := hva
  have hkey : (xs = [] ∧ ∃ A' c', va = .slice A' 0 c') ∨ ∃ ys b g c', xs = ys ++ [b] ∧ va = .slice (some ⟨g, 0, none⟩) (ys.length + 1) c' ∧ w.cell? ⟨g, ys.length, none⟩ = some (.int .u8 (b.toNat : Int)) := by
    rcases List.eq_nil_or_concat xs with rfl | ⟨ys, b, rfl⟩
    · refine .inl ⟨rfl, ?_⟩
      rcases hrow.2 with ⟨e, _⟩ | ⟨g, cap, cur, e, _⟩
      · exact ⟨_, _, e⟩
      · exact ⟨_, _, e⟩
    · refine .inr ?_
      rw [List.concat_eq_append] at hrow ⊢
      have hrow' := hrow
      rcases hrow.2 with ⟨e, h0⟩ | ⟨g, cap, cur, e, _⟩
      · simp at h0
      · refine ⟨ys, b, g, cap, rfl, by rw [e]; simp, ?_⟩
        have := hrow'.cells (g := g) (by rw [e]; rfl) ys.length (.int .u8 (b.toNat : Int)) (by simp)
        simpa [Addr.add_lit] using this
  clear hrow h
  rcases hkey with ⟨rfl, A', c', rfl⟩ | ⟨ys, b, g, c', rfl, rfl, hcell⟩
  · go_enter Tryd.func24, Tryd.ntmps24
    go_wp2
    go_ret
    exact ⟨rfl, HS.out⟩
  · have HT : Hid (topR (ys ++ [b]) = if b = 91 then 3 else 1) := by simp [topR, Hid]
    generalize hk : ys.length = k at *
    have hk1 : k ≤ 1000 := by rw [← hk]; simp at hx; omega
    clear hx hk
    by_cases hb : b = 91
    · subst hb
      go_enter Tryd.func24, Tryd.ntmps24
      go_wp2
      go_quiet (fail)
      go_wp2
      go_ret
      exact ⟨by rw [HT.out]; rfl, HS.out.drawn _⟩
    · have hb' : ((b.toNat : Int) == 91) = false := by
        rw [beq_eq_false_iff_ne]
        intro e
        exact hb (UInt8.toNat_inj.1 (show b.toNat = (91 : UInt8).toNat by have : (91 : UInt8).toNat = 91 := rfl; omega))
      have HT' : Hid (topR (ys ++ [b]) = 1) := by rw [HT.out, if_neg hb]; exact rfl
      clear HT hb
      go_enter Tryd.func24, Tryd.ntmps24
      go_wp2
      go_quiet (fail)
      go_wp2
      go_ret
      exact ⟨by rw [HT'.out]; rfl, HS.out.drawn _⟩
end
end Go.Proofs.YtanllbfpnpojnaaDoor
