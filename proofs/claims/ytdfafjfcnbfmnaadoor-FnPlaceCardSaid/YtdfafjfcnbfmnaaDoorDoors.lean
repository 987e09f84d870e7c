/- The two doors of the program: a place, and an error's place. -/
import Derived.Test.YtdfafjfcnbfmnaaDoorPlace
set_option linter.unusedVariables false
namespace Go.Proofs.YtdfafjfcnbfmnaaDoor
open Go.RowKit

/-- What the program's variables must tell. -/
def Ready (w : World) : Prop :=
  4 < w.heap.size ∧ (∃ a0 : Addr, w.cell? ⟨0, 0, none⟩ = some (.iface 125 (.pointer (some a0)))) ∧ Graph w ∧ Lib.TabIs Tryd.prog w "internal/strconv.uint64pow10" .u64 Lib.pow10Tab
theorem Ready.frm {w w' : World} (h : Ready w) (hf : Frm (fun _ => False) w w') : Ready w' := by
  obtain ⟨h4, ⟨a0, he⟩, hg, ht⟩ := h
  exact ⟨Nat.lt_of_lt_of_le h4 hf.size, ⟨a0, (hf.cell (World.block_lt_of_cell? w _ he) (fun h => h)).trans he⟩, hg.frm hf (fun h => h), tab_frm ht 4 gPow hf (by omega) (fun h => h)⟩
/-- The text lies below the world's end. -/
def Lies (w : World) (A : Option Addr) (bs : List UInt8) : Prop := 0 < bs.length → ∃ ad, A = some ad ∧ ad.block < w.heap.size ∧ ∀ (j : Nat) (hj : j < bs.length), w.cell? (ad.add j) = some (.int .u8 (bs[j].toNat : Int))
theorem Lies.txt {w : World} {A : Option Addr} {bs : List UInt8} (h : Lies w A bs) : Txt w A bs := fun h0 => by
  obtain ⟨ad, e, _, hc⟩ := h h0
  exact ⟨ad, e, hc⟩
theorem plainText_of_ok {bs : List UInt8} (h : bs.all okB = true) : PlainText bs := by
  intro b hb
  have := (okB_iff b).1 (List.all_eq_true.1 h b hb)
  unfold Plain
  omega

/-- The line and the column of a place, over a new reader. -/
theorem position_new (A : Option Addr) (c : Nat) (bs : List UInt8) (T : Nat) (w : World) (hn : bs.length ≤ 5000) (hc : bs.length ≤ c) (hT : T ≤ bs.length) (hap : Apart bs T) (hok : bs.all okB = true) (hl : Lies w A bs) (hr : Ready w) :
    Calls Tryd.prog 10 #[.iface 33 (.pointer (some ⟨w.heap.size, 0, none⟩)), .int .i64 (T : Int)] (w.alloc (.cells #[.slice A bs.length c, .int .i64 0, .int .i64 (-1)] 56)) fun e w' =>
      (∃ s : ByteArray, e = .returned (.tuple #[.int .i64 ((lcAt bs T).1 : Int), .int .i64 ((lcAt bs T).2 : Int), .string s])) ∧ Frm (fun _ => False) w w' := by
  obtain ⟨ad, had, hcell⟩ : ∃ ad : Addr, (0 < bs.length → A = some ad ∧ ad.block < w.heap.size) ∧ (∀ j, j < bs.length → ∀ u, (bvals bs)[j]? = some u → w.cell? (ad.add j) = some u) := by
    by_cases h0 : 0 < bs.length
    · obtain ⟨ad, e, hb, hc⟩ := hl h0
      refine ⟨ad, fun _ => ⟨e, hb⟩, ?_⟩
      intro j hj u hu
      rw [hc j hj]
      simp only [bvals, List.getElem?_map, List.getElem?_eq_getElem hj, Option.map_some] at hu
      exact hu
    · exact ⟨⟨0, 0, none⟩, fun h => absurd h h0, fun j hj => absurd hj (by omega)⟩
  have hf : Frm (fun _ => False) w (w.alloc (.cells #[.slice A bs.length c, .int .i64 0, .int .i64 (-1)] 56)) := (Frm.refl _ w).alloc _
  obtain ⟨h4, ⟨a0, he⟩, hg, ht⟩ := hr.frm hf
  refine (position_any w.heap.size A ad bs T c (-1) _ a0 hn hc had (by simp) hr.1 hT hap (plainText_of_ok hok) (Blk.new w 56 _) ?_ he hg ht).mono ?_
  · intro j hj u hu
    exact (hf.cell (p := ad.add j) (by rw [block_of_add]; exact (had (by omega)).2) (fun h => h)).trans (hcell j hj u hu)
  · rintro e w' ⟨hs, hf'⟩
    exact ⟨hs, hf.trans' hf' (fun k hk e => by omega)⟩

theorem place_door (A : Option Addr) (c : Nat) (bs : List UInt8) (T : Nat) (w : World) (hn : bs.length ≤ 5000) (hc : bs.length ≤ c) (hT : T ≤ bs.length) (hap : Apart bs T) (hok : bs.all okB = true) (hl : Lies w A bs) (hr : Ready w) :
    Calls Tryd.prog 7 #[.slice A bs.length c, .int .i64 (T : Int)] w fun e w' =>
      e = .returned (.tuple #[.int .i64 ((lcAt bs T).1 : Int), .int .i64 ((lcAt bs T).2 : Int)]) ∧ Frm (fun _ => False) w w' := by
  have HP := Lib.hid (position_new A c bs T w hn hc hT hap hok hl hr)
  clear hap hok hl hr
  go_enter Tryd.func7, Tryd.ntmps7
  go_wp2_with (first
    | (go_at_call 11; refine (newReader_any A bs.length c w).mono ?_; rintro e w1 ⟨rfl, rfl⟩)
    | (go_at_call 10; refine (HP.out).mono ?_; rintro e w1 ⟨⟨s, rfl⟩, hf⟩))
  go_ret2
  exact ⟨rfl, hf⟩

theorem newError_door (A : Option Addr) (c : Nat) (bs : List UInt8) (T : Nat) (m : ByteArray) (w : World) (hn : bs.length ≤ 5000) (hc : bs.length ≤ c) (hT : T ≤ bs.length) (hap : Apart bs T) (hok : bs.all okB = true) (hl : Lies w A bs) (hr : Ready w) :
    Calls Tryd.prog 13 #[.iface 33 (.pointer (some ⟨w.heap.size, 0, none⟩)), .int .i64 (T : Int), .string m, .slice none 0 0] (w.alloc (.cells #[.slice A bs.length c, .int .i64 0, .int .i64 (-1)] 56)) fun e w' =>
      (∃ g s, e = .returned (.pointer (some ⟨g, 0, none⟩)) ∧ Blk w' g 39 #[.string m, .int .i64 ((lcAt bs T).1 : Int), .int .i64 ((lcAt bs T).2 : Int), .string s]) ∧ Frm (fun _ => False) w w' := by
  have HP := Lib.hid (position_new A c bs T w hn hc hT hap hok hl hr)
  clear hap hok hl hr
  go_enter Tryd.func13, Tryd.ntmps13
  go_wp2_with (go_at_call 10; refine (HP.out).mono ?_; rintro e w1 ⟨⟨s, rfl⟩, hf⟩)
  go_ret
  exact ⟨⟨_, s, rfl, Blk.new w1 39 _⟩, hf.alloc _⟩

theorem errorPosition_any (g : Nat) (m s : ByteArray) (l c : Int) (w : World) (h : Blk w g 39 #[.string m, .int .i64 l, .int .i64 c, .string s]) :
    Calls Tryd.prog 14 #[.pointer (some ⟨g, 0, none⟩)] w fun e w' => e = .returned (.tuple #[.int .i64 l, .int .i64 c, .string s]) ∧ ∃ n, w' = w.drewN n := by
  have h1 := h.cell 1
  have h2 := h.cell 2
  have h3 := h.cell 3
  go_enter Tryd.func14, Tryd.ntmps14
  go_wp2_with fail
  go_quiet (fail)
  go_wp2
  go_ret3
  exact ⟨rfl, _, rfl⟩

theorem errorPlace_door (A : Option Addr) (c : Nat) (bs : List UInt8) (T : Nat) (m : ByteArray) (w : World) (hn : bs.length ≤ 5000) (hc : bs.length ≤ c) (hT : T ≤ bs.length) (hap : Apart bs T) (hok : bs.all okB = true) (hl : Lies w A bs) (hr : Ready w) :
    Calls Tryd.prog 9 #[.slice A bs.length c, .int .i64 (T : Int), .string m] w fun e w' =>
      e = .returned (.tuple #[.int .i64 ((lcAt bs T).1 : Int), .int .i64 ((lcAt bs T).2 : Int), .string m]) ∧ Frm (fun _ => False) w w' := by
  have HP := Lib.hid (newError_door A c bs T m w hn hc hT hap hok hl hr)
  clear hap hok hl hr
  go_enter Tryd.func9, Tryd.ntmps9
  go_wp2_with (first
    | (go_at_call 11; refine (newReader_any A bs.length c w).mono ?_; rintro e w1 ⟨rfl, rfl⟩)
    | (go_at_call 13; refine (HP.out).mono ?_; rintro e w1 ⟨⟨g, s, rfl, hb⟩, hf⟩))
  refine (errorPosition_any g m s _ _ w1 hb).mono ?_
  rintro e w2 ⟨rfl, n, hw2⟩
  have h0 : w2.cell? ⟨g, 0, none⟩ = some (.string m) := by rw [hw2]; exact hb.cell 0
  have HF : Hid (Frm (fun _ => False) w w2) := by rw [hw2]; exact hf.drewN n
  clear hw2 hb hf
  go_wp2_with fail
  go_quiet (fail)
  go_wp2
  go_ret3
  exact ⟨rfl, HF.out.drewN _⟩
end Go.Proofs.YtdfafjfcnbfmnaaDoor
