/- One read out of a reader of bytes. -/
import Derived.Test.YtdfafjfcnbfmnaaDoorBase
set_option linter.unusedVariables false
namespace Go.Proofs.YtdfafjfcnbfmnaaDoor
open Go.RowKit

/-- A reader's block: its bytes, its place, the rune before. -/
def RdCells (A : Option Addr) (n c i : Nat) (p : Int) : Array Value := #[.slice A n c, .int .i64 i, .int .i64 p]

set_option maxHeartbeats 400000 in
/-- At the end: nothing, and what io.EOF holds. -/
theorem read_end (gr : Nat) (A : Option Addr) (n c : Nat) (i : Nat) (p : Int) (bv v : Value) (w : World) (hi : n ≤ i) (hn : n ≤ 1000000) (hi' : i ≤ 1000000)
    (h : Blk w gr 56 (RdCells A n c i p)) (hv : w.cell? ⟨0, 0, none⟩ = some v) :
    Calls Tryd.prog 80 #[.pointer (some ⟨gr, 0, none⟩), bv] w fun e w' => e = .returned (.tuple #[.int .i64 0, v]) ∧ Frm (fun _ => False) w w' := by
  have h0 : w.cell? ⟨gr, 0, none⟩ = some (.slice A n c) := h.cell 0
  have h1 : w.cell? ⟨gr, 1, none⟩ = some (.int .i64 i) := h.cell 1
  clear h
  go_enter Tryd.func80, Tryd.ntmps80
  go_wp2
  go_quiet (fail)
  go_wp2
  go_quiet (fail)
  go_wp2
  go_ret2
  exact ⟨rfl, ((Frm.refl _ w).drewN _).drewN _⟩

set_option maxRecDepth 100000 in
set_option maxHeartbeats 400000 in
theorem read_some (gr : Nat) (ad : Addr) (n c : Nat) (i : Nat) (p : Int) (g off m mc : Nat) (src : List Value) (cur : List Value) (w : World)
    (hi : i < n) (hn : n ≤ 1000000) (hc : n ≤ c) (hne0 : ad.block ≠ gr) (hm : 0 < m) (hoff : off + m ≤ cur.length)
    (h : Blk w gr 56 (RdCells (some ad) n c i p)) (hg : w.heap[g]? = some (.cells cur.toArray 5 (0, 0)))
    (hsrc : ∀ j, j < n → ∀ u, src[j]? = some u → w.cell? (ad.add j) = some u) (hl : src.length = n) (h1c : ∀ u ∈ src, u.oneCell' = true) :
    Calls Tryd.prog 80 #[.pointer (some ⟨gr, 0, none⟩), .slice (some ⟨g, off, none⟩) m mc] w fun e w' =>
      e = .returned (.tuple #[.int .i64 (((src.drop i).take m).length : Int), .nilIface]) ∧ Frm (fun k => k = gr ∨ k = g) w w' ∧
      Blk w' gr 56 (RdCells (some ad) n c (i + ((src.drop i).take m).length) (-1)) ∧
      w'.heap[g]? = some (.cells (splice cur off ((src.drop i).take m)).toArray 5 (0, 0)) := by
  have h0 : w.cell? ⟨gr, 0, none⟩ = some (.slice (some ad) n c) := h.cell 0
  have h1 : w.cell? ⟨gr, 1, none⟩ = some (.int .i64 i) := h.cell 1
  have h2 : w.cell? ⟨gr, 2, none⟩ = some (.int .i64 p) := h.cell 2
  have f2 : w.frozen? ⟨gr, 2, none⟩ = false := h.frozen 2
  have H := Lib.hid h
  clear h
  go_enter Tryd.func80, Tryd.ntmps80
  go_wp2
  go_quiet (fail)
  go_wp2
  have hci : ¬ c = i := by omega
  have hin : i ≤ n := by omega
  generalize hW : (w.drewN nq).setCell ⟨gr, 2, none⟩ (.int .i64 (-1)) = w1
  have k0 : w1.cell? ⟨gr, 0, none⟩ = some (.slice (some ad) n c) := by subst hW; exact (World.cell?_setCell_other (w.drewN nq) ⟨gr, 2, none⟩ ⟨gr, 0, none⟩ _ (by simp)).trans h0
  have k1 : w1.cell? ⟨gr, 1, none⟩ = some (.int .i64 i) := by subst hW; exact (World.cell?_setCell_other (w.drewN nq) ⟨gr, 2, none⟩ ⟨gr, 1, none⟩ _ (by simp)).trans h1
  have HW := Lib.hid hW
  clear hW h0 h1 h2 f2
  go_still_tail 10, (by kernel_rfl)
  change wpList _ _ _ _ _ w1.drew
  have k1' : w1.drew.cell? ⟨gr, 1, none⟩ = some (.int .i64 i) := k1
  have k0' : w1.drew.cell? ⟨gr, 0, none⟩ = some (.slice (some ad) n c) := k0
  have hne : gr ≠ g := Blk.ne_ (t := 56) (t' := 5) H.out hg (by decide)
  have hw : Frm (fun k => k = gr) w w1.drew := by
    rw [← HW.out]
    exact (((Frm.refl (fun k => k = gr) w).drewN nq).setCell (p := ⟨gr, 2, none⟩) (fun _ => rfl) _).drew
  have hwg : w1.drew.heap[g]? = some (.cells cur.toArray 5 (0, 0)) := (hw.block g (Array.getElem?_eq_some_iff.1 hg).1 (fun e => hne e.symm)).trans hg
  have hwb : Blk w1.drew gr 56 (RdCells (some ad) n c i (-1)) := by
    rw [← HW.out]
    exact Blk.set_ (g := gr) (t := 56) (cs := RdCells (some ad) n c i p) H.out 2 (.int .i64 (-1))
  clear HW k0 k1 k0' k1'
  generalize w1.drew = w2 at *
  have hlen : ((src.drop i).take m).length = Nat.min (n - i) m := by rw [List.length_take, List.length_drop, hl]; exact Nat.min_comm _ _
  have hcs : ∀ j v, ((src.drop i).take m)[j]? = some v → w2.cell? ((ad.add i).add j) = some v := by
    intro j v hj
    rw [add_of_add]
    have hjl : j < ((src.drop i).take m).length := (List.getElem?_eq_some_iff.1 hj).1
    have hjn : i + j < n := by simp only [List.length_take, List.length_drop, hl] at hjl; omega
    have hu : src[i + j]? = some v := by
      rw [List.getElem?_take, List.getElem?_drop] at hj
      split at hj
      · exact hj
      · cases hj
    have hcell := hsrc (i + j) hjn v hu
    exact (hw.cell (World.block_lt_of_cell? w _ hcell) (by rw [block_of_add]; exact hne0)).trans hcell
  have hfit : off + ((src.drop i).take m).length ≤ cur.toArray.size := by simp only [List.length_take, List.size_toArray]; omega
  have h1c' : ∀ v ∈ (src.drop i).take m, v.oneCell' = true := fun v hv => h1c v (List.mem_of_mem_drop (List.mem_of_mem_take hv))
  have hcn : ((src.drop i).take m).length ≤ n := by simp only [List.length_take, List.length_drop, hl]; omega
  generalize hcsd : (src.drop i).take m = cs at *
  refine wpList_copy_own rfl (.tmp 20) (.tmp 29) 22 22 rfl 5 Tryd.underlying22 (by kernel_rfl) g off m mc (ad.add i) (n - i) (c - i) rfl rfl cur.toArray 5 hwg cs hlen hcs hfit h1c' ?_
  generalize hW3 : w2.setRow g (cur.toArray.toList.take off ++ (cs ++ cur.toArray.toList.drop (off + cs.length))).toArray = w3
  have hw3 : Frm (fun k => k = gr ∨ k = g) w w3 := by
    rw [← hW3]
    exact (hw.mono (T := fun k => k = gr ∨ k = g) fun k _ h => Or.inl h).setRow (g := g) (fun _ => Or.inr rfl) _
  have hb3 : Blk w3 gr 56 (RdCells (some ad) n c i (-1)) := by
    rw [← hW3]
    exact (setRow_other w2 g gr _ hne).trans hwb
  have hg3 : w3.heap[g]? = some (.cells (splice cur off cs).toArray 5 (0, 0)) := by
    rw [← hW3]
    simpa [splice] using setRow_heap w2 g _ _ 5 _ hwg
  have k1 : w3.cell? ⟨gr, 1, none⟩ = some (.int .i64 i) := hb3.cell 1
  have q1 : w3.frozen? ⟨gr, 1, none⟩ = false := hb3.frozen 1
  have L2 := Lib.hid hb3
  have L3 := Lib.hid hg3
  have HC := Lib.hid hcsd
  clear hcs hfit h1c' hW3 hlen hb3 hg3 hwb hwg hsrc h1c hg hcsd
  go_wp2
  go_ret2
  obtain rfl := HC.out
  have hb := Blk.set_ L2.out 1 (.int .i64 ((i : Int) + ((src.drop i).take m).length))
  refine ⟨rfl, hw3.setCell (fun _ => Or.inl rfl) _, ?_, ?_⟩
  · exact hb
  · exact (Below.heap_setCell w3 ⟨gr, 1, none⟩ _ g (fun e => hne e.symm)).trans L3.out

/-- The same, the number of bytes under a name. -/
theorem read_k (gr : Nat) (ad : Addr) (n c : Nat) (i : Nat) (p : Int) (g off m mc : Nat) (src : List Value) (cur : List Value) (w : World) (k : Nat) (cur' : List Value) (hk : ((src.drop i).take m).length = k) (hcur : splice cur off ((src.drop i).take m) = cur')
    (hi : i < n) (hn : n ≤ 1000000) (hc : n ≤ c) (hne0 : ad.block ≠ gr) (hm : 0 < m) (hoff : off + m ≤ cur.length)
    (h : Blk w gr 56 (RdCells (some ad) n c i p)) (hg : w.heap[g]? = some (.cells cur.toArray 5 (0, 0)))
    (hsrc : ∀ j, j < n → ∀ u, src[j]? = some u → w.cell? (ad.add j) = some u) (hl : src.length = n) (h1c : ∀ u ∈ src, u.oneCell' = true) :
    Calls Tryd.prog 80 #[.pointer (some ⟨gr, 0, none⟩), .slice (some ⟨g, off, none⟩) m mc] w fun e w' =>
      e = .returned (.tuple #[.int .i64 (k : Int), .nilIface]) ∧ Frm (fun k => k = gr ∨ k = g) w w' ∧
      Blk w' gr 56 (RdCells (some ad) n c (i + k) (-1)) ∧
      w'.heap[g]? = some (.cells cur'.toArray 5 (0, 0)) := by
  subst hk
  subst hcur
  exact read_some gr ad n c i p g off m mc src cur w hi hn hc hne0 hm hoff h hg hsrc hl h1c
end Go.Proofs.YtdfafjfcnbfmnaaDoor
