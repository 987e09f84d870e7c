/- The law over any text: the reference's pieces and the program's are the same. -/
import Derived.Test.YtanllbfpnpojnaaDoorSame
import Derived.Test.YtanllbfpnpojnaaDoorImplJson
set_option linter.unusedVariables false
namespace Go.Proofs.YtanllbfpnpojnaaDoor
open Go.RowKit

theorem LiesB.up {w w' : World} {A : Option Addr} {bs : List UInt8} (h : LiesB w w.heap.size A bs) (hf : Frm (fun _ => False) w w') : LiesB w' w'.heap.size A bs := fun h0 => by
  obtain ⟨ad, e, hlt, hc⟩ := h h0
  exact ⟨ad, e, Nat.lt_of_lt_of_le hlt hf.size, fun j hj => (hf.cell (by rw [block_of_add]; exact hlt) (fun h => h)).trans (hc j hj)⟩

set_option maxRecDepth 100000 in
set_option maxHeartbeats 3200000 in
theorem fnJSON_law (A : Option Addr) (c : Nat) (bs : List UInt8) (w : World) (hc : bs.length ≤ c) (hcm : c ≤ maxLen) (hl : LiesB w w.heap.size A bs) (hv : ∃ a0, w.cell? ⟨0, 0, none⟩ = some (.iface 150 (.pointer (some a0)))) :
    Calls Tryd.prog 3 #[.slice A bs.length c] w fun e w' => e = .returned (.bool true) ∧ Frm (fun _ => False) w w' := by
  obtain ⟨a0, hv⟩ := hv
  have HL := Lib.hid hl
  have HV := Lib.hid hv
  have HC := Lib.hid hc
  have HCM : Hid (c ≤ 9223372036854775807) := Lib.hid (by unfold maxLen at hcm; omega)
  have hlt0 : 0 < w.heap.size := World.block_lt_of_cell? w _ hv
  clear hl hv hcm hc
  by_cases hbig : 2147483647 < bs.length
  · have hb : (2147483647 : Int) < (bs.length : Int) := by omega
    clear hbig
    go_enter Tryd.func3, Tryd.ntmps3
    go_wp2
    go_ret
    exact ⟨rfl, Frm.refl _ _⟩
  · have hb : ¬ (2147483647 : Int) < (bs.length : Int) := by omega
    have HN : Hid (bs.length ≤ 2147483647) := Lib.hid (by omega)
    clear hbig
    go_enter Tryd.func3, Tryd.ntmps3
    go_wp2_with fail
    refine (json_s HN.out HC.out HCM.out HL.out).mono ?_
    rintro e w1 ⟨(⟨vo, rfl⟩ | ⟨vo, qs, rfl, hrow, hjs⟩), hF1⟩
    · dsimp only
      go_wp2
      go_ret
      exact ⟨rfl, hF1⟩
    · have HR := Lib.hid hrow
      have HJ := Lib.hid hjs
      have HF1 := Lib.hid hF1
      clear hrow hjs hF1
      dsimp only
      by_cases h5 : 5000 < bs.length
      · have h5' : (5000 : Int) < (bs.length : Int) := by omega
        clear h5
        go_wp2
        go_ret
        exact ⟨rfl, HF1.out⟩
      · have h5' : ¬ (5000 : Int) < (bs.length : Int) := by omega
        have hn5 : bs.length ≤ 5000 := by omega
        clear h5
        go_wp2_with fail
        refine (json_i (a0 := a0) hn5 (HL.out.up HF1.out) HJ.out ((HF1.out.cell hlt0 (fun h => h)).trans HV.out)).mono ?_
        rintro e w2 ⟨⟨vo2, qs2, rfl, hrow2, heq⟩, hF2⟩
        have HR2 := Lib.hid hrow2
        have HE := Lib.hid heq
        have HRf := Lib.hid (HR.out.none_ hF2)
        have HF2 := Lib.hid (HF1.out.trans hF2)
        have hq : qs2.length ≤ 1000000 := by
          obtain ⟨b, hch, _⟩ := HJ.out
          have h1 := hch.few (Nat.zero_le _)
          have h2 := congrArg List.length heq
          simp at h1 h2
          omega
        clear hrow2 heq hF2
        dsimp only
        go_wp2_with fail
        refine (samePieces_any w2 HR2.out HRf.out HE.out hq).mono ?_
        rintro e w3 ⟨rfl, hF3⟩
        dsimp only
        go_wp2
        go_ret
        exact ⟨rfl, HF2.out.trans hF3⟩
end Go.Proofs.YtanllbfpnpojnaaDoor
