/- The reference's reading of a text of JSON. -/
import Derived.Test.YtanllbfpnpojnaaDoorValue
set_option linter.unusedVariables false
namespace Go.Proofs.YtanllbfpnpojnaaDoor
open Go.RowKit

/-- A list of pieces in memory of the call's own. -/
def Row (w : World) (B : Nat) (bs : List UInt8) (v : Value) (qs : List (Pc × Value)) : Prop :=
  w.ownsRow B 46 6 v qs.length (qs.flatMap PcCells) ∧ ∀ q ∈ qs, w.ownsRow B 5 1 q.2 (q.1.data bs).length (bvals (q.1.data bs))
theorem Row.frm {S : Nat → Prop} {w w' : World} {B : Nat} {bs : List UInt8} {v : Value} {qs : List (Pc × Value)} (h : Row w B bs v qs) (hf : Frm S w w') (hS : ∀ k, B ≤ k → k < w.heap.size → ¬ S k) : Row w' B bs v qs :=
  ⟨hf.owns h.1 (fun g hg => hS g (h.1.lt g hg).1 (h.1.lt g hg).2), fun q hq => hf.owns (h.2 q hq) (fun g hg => hS g ((h.2 q hq).lt g hg).1 ((h.2 q hq).lt g hg).2)⟩

/-- A text of JSON made of these pieces. -/
def IsJson (bs : List UInt8) (ps : List Pc) : Prop := ∃ b, Chain bs 0 false [0] ps b true [0] ∧ Bls bs b bs.length

/-- What the reference answers. -/
def Told (w w' : World) (bs : List UInt8) (e : Ending) : Prop :=
  (∃ vo, e = .returned (.tuple #[vo, .bool false])) ∨ (∃ vo qs, e = .returned (.tuple #[vo, .bool true]) ∧ Row w' w.heap.size bs vo qs ∧ IsJson bs (qs.map Prod.fst))

section
variable {B R : Nat} {A : Option Addr} {c : Nat} {bs xs : List UInt8} {vo va : Value} {w1 w w' : World} {a b : Nat} {qs : List (Pc × Value)}
theorem value_all (hn : bs.length ≤ 2147483647) (hc : bs.length ≤ c) (hc2 : c ≤ 9223372036854775807) : ∀ m a, bs.length + 2 - a ≤ m → ValAt B R A c bs a
  | 0, a, hm => fun w qs xs vo va h ha => by omega
  | m + 1, a, hm => value_step hn hc hc2 (fun a' ha' => value_all hn hc hc2 m a' (by omega))

set_option maxRecDepth 100000 in
set_option maxHeartbeats 1600000 in
theorem json_s (hn : bs.length ≤ 2147483647) (hc : bs.length ≤ c) (hc2 : c ≤ 9223372036854775807) (hl : LiesB w w.heap.size A bs) :
    Calls Tryd.prog 4 #[.slice A bs.length c] w fun e w' => Told w w' bs e ∧ Frm (fun _ => False) w w' := by
  have h0 : Rd w.heap.size w.heap.size A c bs (w.alloc (.cells #[.slice A bs.length c, .int .i64 0, .slice none 0 0, .slice none 0 0] 30)) 0 [] [] (.slice none 0 0) (.slice none 0 0) :=
    ⟨Blk.new w 30 _, hl.frm ((Frm.refl (fun _ => False) w).alloc _) (Nat.le_refl _) (fun _ _ h => h), Nat.le_refl _, World.ownsRow_nil _ _ _ _, (fun q hq => by cases hq), World.ownsRow_nil _ _ _ _, (fun q hq => by cases hq), Nat.le_refl _⟩
  have H0 := Lib.hid h0
  have HF0 : Hid (Frm (fun k => w.heap.size ≤ k) w (w.alloc (.cells #[.slice A bs.length c, .int .i64 0, .slice none 0 0, .slice none 0 0] 30))) := (Frm.refl _ w).alloc _
  clear hl h0
  go_enter Tryd.func4, Tryd.ntmps4
  go_wp2_with fail
  refine (value_all hn hc hc2 (bs.length + 2) 0 (by omega) _ [] [] _ _ H0.out (by omega) (by simp)).mono ?_
  rintro e w2 (⟨b, vo2, va2, rfl, hb, hS, hF⟩ | ⟨b, new, vo2, va2, rfl, hb, hR, hF, hV, hlt⟩)
  · have HF := Lib.hid (HF0.out.trans hF)
    have HS := Lib.hid hS
    clear hF hS
    dsimp only
    go_wp2_with fail
    refine (blanks_s HS.out hn hb).mono ?_
    rintro e w3 ⟨rfl, m, hB, hm, hS3⟩
    have HF3 := Lib.hid (HF.out.trans hS3.frm)
    have g2 := hS3.c2
    clear hS3
    dsimp only
    go_wp2_with fail
    go_quiet (fail)
    go_wp2
    go_ret2
    exact ⟨.inl ⟨vo2, rfl⟩, (HF3.out.drewN _).mono (fun k hk e => by omega)⟩
  · have HR := Lib.hid hR
    have HF := Lib.hid (HF0.out.trans hF)
    have HV := Lib.hid hV
    clear hR hF hV
    dsimp only
    go_wp2_with fail
    refine (blanks_s HR.out.rs hn (by omega)).mono ?_
    rintro e w3 ⟨rfl, m, hB, hm, hS3⟩
    have HB := Lib.hid hB
    have HR3 := Lib.hid (HR.out.of_rs hS3 hB.1)
    have HF3 := Lib.hid (HF.out.trans hS3.frm)
    have g1 := hS3.c1
    have g2 := hS3.c2
    clear hS3 hB
    dsimp only
    by_cases he : m = bs.length
    · subst he
      go_wp2_with fail
      go_quiet (fail)
      go_wp2
      go_ret2
      refine ⟨.inr ⟨vo2, new, rfl, ⟨?_, ?_⟩, b, ?_, HB.out⟩, (HF3.out.drewN _).mono (fun k hk e => by omega)⟩
      · exact HR3.out.out
      · exact HR3.out.data
      · have := HV.out 0 false [] (.inl ⟨rfl, Bls.refl _ _⟩)
        exact this
    · have he' : ((m : Int) == (bs.length : Int)) = false := by rw [beq_eq_false_iff_ne]; omega
      go_wp2_with fail
      go_quiet (fail)
      go_wp2
      go_ret2
      exact ⟨.inl ⟨vo2, rfl⟩, (HF3.out.drewN _).mono (fun k hk e => by omega)⟩
end
end Go.Proofs.YtanllbfpnpojnaaDoor
