/- The two laws of places: what each answers, over any text. -/
import Derived.Test.YtdfafjfcnbfmnaaDoorDoors
import Derived.Laws.BytesArg
set_option linter.unusedVariables false
namespace Go.Proofs.YtdfafjfcnbfmnaaDoor
open Go.RowKit

theorem lcT_all {bs : List UInt8} {T : Int} (h1 : T ≤ bs.length) : lcT bs T bs.length = lcAt bs T.toNat := by
  unfold lcT
  rw [show min bs.length T.toNat = T.toNat by omega]

set_option maxRecDepth 100000 in
set_option maxHeartbeats 800000 in
theorem fnPlace_law (A : Option Addr) (c : Nat) (bs : List UInt8) (T : Int) (w : World) (hc : bs.length ≤ c) (hl : Lies w A bs) (hr : Ready w) :
    Calls Tryd.prog 3 #[.slice A bs.length c, .int .i64 T] w fun e w' => e = .returned (.bool true) ∧ Frm (fun _ => False) w w' := by
  have HL := Lib.hid hl
  have HR := Lib.hid hr
  clear hl hr
  by_cases hbig : 2147483647 < bs.length
  · have hbig' : 2147483647 < (bs.length : Int) := by omega
    go_enter Tryd.func3, Tryd.ntmps3
    go_wp2
    go_ret
    exact ⟨rfl, Frm.refl _ _⟩
  · have hbig' : ¬ 2147483647 < (bs.length : Int) := by omega
    go_enter Tryd.func3, Tryd.ntmps3
    go_wp2_with fail
    refine (place_any A c bs T w (by omega) HL.out.txt).mono ?_
    rintro e w1 ⟨rfl, rfl⟩
    by_cases hok : bs.all okB = true
    · have HOK := Lib.hid hok
      rw [hok]
      clear hok
      dsimp only
      go_wp2_with fail
      refine (isPlace5_any A c bs T w (by omega) HL.out.txt).mono ?_
      rintro e w1 ⟨⟨ok, rfl, hask⟩, rfl⟩
      cases ok with
      | false =>
        dsimp only
        go_wp2
        go_ret
        exact ⟨rfl, Frm.refl _ _⟩
      | true =>
        obtain ⟨h5, hT0, hTl, hap⟩ := hask rfl
        obtain ⟨P, rfl⟩ : ∃ P : Nat, T = (P : Int) := ⟨T.toNat, by omega⟩
        have hP : P ≤ bs.length := by omega
        have HAP : Hid (Apart bs P) := hap
        have hlc : lcT bs (P : Int) bs.length = lcAt bs P := lcT_all hTl
        rw [hlc]
        clear hask hap hlc
        dsimp only
        go_wp2_with (go_at_call 7; refine (place_door A c bs P w h5 hc hP HAP.out HOK.out HL.out HR.out).mono ?_; rintro e w1 ⟨rfl, hf⟩)
        go_ret
        exact ⟨rfl, hf⟩
    · rw [Bool.not_eq_true] at hok
      rw [hok]
      clear hok
      dsimp only
      go_wp2
      go_ret
      exact ⟨rfl, Frm.refl _ _⟩
theorem conv_txt (A : Option Addr) (c : Nat) (bs : List UInt8) (w : World) (h : Txt w A bs) : (convert 22 9 (.slice A bs.length c)).run Tryd.prog w = .ok (.string ⟨bs.toArray⟩) w := by
  by_cases h0 : 0 < bs.length
  · obtain ⟨ad, rfl, hc⟩ := h h0
    exact run_convert_bytes_back w 22 9 5 ad c bs Tryd.underlying22 Tryd.underlying5 Tryd.underlying9 hc
  · have hb : bs = [] := by
      cases bs with
      | nil => rfl
      | cons b bs => simp at h0
    subst hb
    cases A with
    | some ad => exact run_convert_bytes_back w 22 9 5 ad c [] Tryd.underlying22 Tryd.underlying5 Tryd.underlying9 (fun j hj => absurd hj (by simp))
    | none => exact run_convert_bytes_nil w 22 5 Tryd.underlying22 Tryd.underlying5 0 c 9 Tryd.underlying9

theorem Lies.frm {w w' : World} {A : Option Addr} {bs : List UInt8} (h : Lies w A bs) (hf : Frm (fun _ => False) w w') : Lies w' A bs := fun h0 => by
  obtain ⟨ad, e, hb, hc⟩ := h h0
  exact ⟨ad, e, Nat.lt_of_lt_of_le hb hf.size, fun j hj => (hf.cell (p := ad.add j) (by rw [block_of_add]; exact hb) (fun h => h)).trans (hc j hj)⟩

set_option maxRecDepth 100000 in
set_option maxHeartbeats 1600000 in
theorem fnErrorPlace_law (A A2 : Option Addr) (c c2 : Nat) (bs ms : List UInt8) (T : Int) (w : World) (hc : bs.length ≤ c) (hl : Lies w A bs) (hl2 : Lies w A2 ms) (hr : Ready w) :
    Calls Tryd.prog 4 #[.slice A bs.length c, .int .i64 T, .slice A2 ms.length c2] w fun e w' => e = .returned (.bool true) ∧ Frm (fun _ => False) w w' := by
  have HL := Lib.hid hl
  have HL2 := Lib.hid hl2
  have HR := Lib.hid hr
  clear hl hr hl2
  by_cases hbig : 2147483647 < bs.length
  · have hbig' : 2147483647 < (bs.length : Int) := by omega
    go_enter Tryd.func4, Tryd.ntmps4
    go_wp2
    go_ret
    exact ⟨rfl, Frm.refl _ _⟩
  · have hbig' : ¬ 2147483647 < (bs.length : Int) := by omega
    by_cases hbig2 : 2147483647 < ms.length
    · have hbig2' : 2147483647 < (ms.length : Int) := by omega
      go_enter Tryd.func4, Tryd.ntmps4
      go_wp2
      go_ret
      exact ⟨rfl, Frm.refl _ _⟩
    · have hbig2' : ¬ 2147483647 < (ms.length : Int) := by omega
      go_enter Tryd.func4, Tryd.ntmps4
      go_wp2_with fail
      refine (place_any A c bs T w (by omega) HL.out.txt).mono ?_
      rintro e w1 ⟨rfl, rfl⟩
      by_cases hok : bs.all okB = true
      · have HOK := Lib.hid hok
        rw [hok]
        clear hok
        dsimp only
        go_wp2_with fail
        refine (isPlace5_any A c bs T w (by omega) HL.out.txt).mono ?_
        rintro e w1 ⟨⟨ok, rfl, hask⟩, rfl⟩
        cases ok with
        | false =>
          dsimp only
          go_wp2
          go_ret
          exact ⟨rfl, Frm.refl _ _⟩
        | true =>
          obtain ⟨h5, hT0, hTl, hap⟩ := hask rfl
          obtain ⟨P, rfl⟩ : ∃ P : Nat, T = (P : Int) := ⟨T.toNat, by omega⟩
          have hP : P ≤ bs.length := by omega
          have HAP : Hid (Apart bs P) := hap
          have hlc : lcT bs (P : Int) bs.length = lcAt bs P := lcT_all hTl
          rw [hlc]
          clear hask hap hlc
          dsimp only
          go_wp2_with fail
          refine (isWord_any A2 c2 ms w (by omega) HL2.out.txt).mono ?_
          rintro e w1 ⟨⟨ok, rfl, _⟩, rfl⟩
          cases ok with
          | false =>
            dsimp only
            go_wp2
            go_ret
            exact ⟨rfl, Frm.refl _ _⟩
          | true =>
            dsimp only
            have hcv := conv_txt A2 c2 ms w HL2.out.txt
            go_wp2_with fail
            refine (errorPlace_door A c bs P ⟨ms.toArray⟩ w h5 hc hP HAP.out HOK.out HL.out HR.out).mono ?_
            rintro e w1 ⟨rfl, hf⟩
            have hcv2 := conv_txt A2 c2 ms w1 (HL2.out.frm hf).txt
            have HF := Lib.hid hf
            clear hf
            dsimp only
            go_wp2
            go_ret
            exact ⟨rfl, HF.out⟩
      · rw [Bool.not_eq_true] at hok
        rw [hok]
        clear hok
        dsimp only
        go_wp2
        go_ret
        exact ⟨rfl, Frm.refl _ _⟩
end Go.Proofs.YtdfafjfcnbfmnaaDoor
