/- The reference's reader notes a piece: the walk, in whatever order the operations come. -/
import Derived.Test.YtanllbfpnpojnaaDoorNoteA
set_option linter.unusedVariables false
namespace Go.Proofs.YtanllbfpnpojnaaDoor
open Go.RowKit
section
variable {B R : Nat} {A : Option Addr} {c : Nat} {bs xs : List UInt8} {vo va : Value} {w1 w w' : World} {a b : Nat} {qs : List (Pc × Value)}
set_option maxRecDepth 100000 in
set_option maxHeartbeats 16000000 in
theorem note_s (p : Pc) (k s : ByteArray) (h : Rd B R A c bs w a qs xs vo va) (hk : kindS p.kind = k) (hs : stateS p.st = s) (hn : bs.length ≤ 2147483647) (hc : bs.length ≤ c) (hc2 : c ≤ 9223372036854775807) (hp : p.hi = a) (hlo : p.lo < a) (ha : a ≤ bs.length) (hf : qs.length < a) :
    Calls Tryd.prog 23 #[.pointer (some ⟨R, 0, none⟩), .string k, .int .i64 (p.lo : Int), .string s] w fun e w' => e = .returned (.tuple #[]) ∧ Noted B R A c bs w w' a qs p xs va := by
  obtain ⟨i5, h5, h5z, h5s, h5b⟩ := info_parts info5
  obtain ⟨i46, h46, h46z, h46s, h46b⟩ := info_parts info46
  obtain ⟨ad, rfl, had, _⟩ := h.text (by omega)
  have HH := Lib.hid h
  have hRlt := h.blk.lt
  have hBw : B ≤ w.heap.size := by have := h.hR; omega
  have g0 : w.cell? ⟨R, 0, none⟩ = some (.slice (some ad) bs.length c) := h.rs.c0
  have g1 : w.cell? ⟨R, 1, none⟩ = some (.int .i64 (a : Int)) := h.rs.c1
  have g2 : w.cell? ⟨R, 2, none⟩ = some vo := h.rs.c2
  have gf : w.frozen? ⟨R, 2, none⟩ = false := Blk.frozen h.blk 2
  have hdl : (p.data bs).length = a - p.lo := by unfold Pc.data; rw [hp, List.length_take, List.length_drop]; omega
  have hne : vo.ownBlock ≠ some R := own_ne_blk h.out h.blk (by decide)
  have hca : ¬ c = p.lo := by omega
  generalize hlo' : p.lo = lo at *
  have b0 : (0 : Int) ≤ (lo : Int) := by omega
  have b1 : (lo : Int) ≤ (a : Int) := by omega
  have b2 : (a : Int) ≤ (c : Int) := by omega
  clear h
  go_enter Tryd.func23, Tryd.ntmps23
  go_wp2_with fail
  have n0 := World.new_ne w ⟨R, 0, none⟩ g0
  have n1 := World.new_ne w ⟨R, 1, none⟩ g1
  have n2 := World.new_ne w ⟨R, 2, none⟩ g2
  go_region_law
    (first
      | ((refine step_append_lies _ (by rfl) _ _ _ (by rfl) B 5 i5 _ 1 1 Tryd.underlying22 h5 h5z h5s h5b rfl (by omega) (.slice (some ⟨w.heap.size, 0, none⟩) 0 0) 0 [] (by rfl) (World.ownsRow_made w #[] 0 hBw (by decide) rfl)
              (ad.add lo) (a - lo) (c - lo) (bvals ((bs.drop lo).take (a - lo))) (by rfl) (by rw [bvals_length, List.length_take, List.length_drop]; omega) (news_lies HH.out.text (by repeat' first | exact Frm.refl _ _ | apply Frm.drew | apply Frm.drewN | apply Frm.alloc) hBw ha) (bvals_one _)
              (by omega) (by unfold maxLen; omega) (by omega) (by simp; omega) (w.heap.size + 1) (by simp) ?_; intro g1' cap1 w1' hown1 hgrow hat1 hlt1
          have hf1 : Frm (fun _ => False) w w1' := by
            refine Frm.trans' (S := fun _ => False) ?_ (Frm.of_grownBy hgrow) (fun k hk e => by simp [Value.ownBlock] at e; omega)
            repeat' first | exact Frm.refl _ _ | apply Frm.drew | apply Frm.drewN | apply Frm.alloc
          have hsz1 := hf1.size
          have hR1 : R < w1'.heap.size := Nat.lt_of_lt_of_le hRlt hsz1
          have gd2 : ∀ o, (w1'.alloc o).cell? ⟨R, 2, none⟩ = some vo := fun o => (((Frm.refl (fun _ => False) w1').alloc o).cell hR1 (fun h => h)).trans ((hf1.cell hRlt (fun h => h)).trans g2)
          have gc2 : w1'.cell? ⟨R, 2, none⟩ = some vo := (hf1.cell hRlt (fun h => h)).trans g2
          have nn2 := World.new_ne w1' ⟨R, 2, none⟩ gc2
          have hout1 := hf1.owns HH.out.out (fun _ _ h => h)))
      | ((refine step_append_lies _ (by rfl) _ _ _ (by rfl) B 46 i46 _ 6 128 Tryd.underlying23 h46 h46z h46s h46b rfl (by omega) vo qs.length (qs.flatMap PcCells) (by rfl) ((hout1.alloc _))
              ⟨w1'.heap.size, 0, none⟩ 1 1 [.string k, .slice (some ⟨g1', 0, none⟩) (a - lo) cap1, .slice none 0 0, .slice none 0 0, .slice none 0 0, .string s] (by rfl) (by rfl) (World.news_of_block (cs := #[.string k, .slice (some ⟨g1', 0, none⟩) (a - lo) cap1, .slice none 0 0, .slice none 0 0, .slice none 0 0, .string s]) (t := 46) (fr := (0, 0)) (heap_alloc_new w1' _)) (by simp [Value.oneCell'])
              (by omega) (by unfold maxLen; omega) (by omega) (by simp; omega) (w1'.heap.size + 1) (by simp) ?_; intro g2' cap2 w2' hown2 hgrow2 hat2 hlt2
          have hf2 : Frm (fun k => vo.ownBlock = some k) w w2' := by
            refine Frm.trans ?_ (Frm.of_grownBy hgrow2)
            repeat' first | exact (hf1.mono (T := fun k => vo.ownBlock = some k) (fun _ _ h => h.elim)) | apply Frm.drew | apply Frm.drewN | apply Frm.alloc
          have hf12 : Frm (fun k => vo.ownBlock = some k) w1' w2' := by
            refine Frm.trans ?_ (Frm.of_grownBy hgrow2)
            repeat' first | exact Frm.refl _ _ | apply Frm.drew | apply Frm.drewN | apply Frm.alloc
          have gf2 : w2'.frozen? ⟨R, 2, none⟩ = false := (hf2.frozen hRlt hne).trans gf
          have gw0 : w2'.cell? ⟨R, 0, none⟩ = some (.slice (some ad) bs.length c) := (hf2.cell hRlt hne).trans g0
          have gw1 : w2'.cell? ⟨R, 1, none⟩ = some (.int .i64 (a : Int)) := (hf2.cell hRlt hne).trans g1
          have gw2 : w2'.cell? ⟨R, 2, none⟩ = some vo := (hf2.cell hRlt hne).trans g2))
      | fail)
  all_goals
    go_wp2
    go_end0
    subst hlo'
    exact ⟨rfl, noted HH.out hk hs hp hlo ha hf (by simpa using hown1) (by rcases hat1 with h | h; (simp [Value.ownBlock] at h; omega); omega) hf12 hf2 hown2⟩
end
end Go.Proofs.YtanllbfpnpojnaaDoor
