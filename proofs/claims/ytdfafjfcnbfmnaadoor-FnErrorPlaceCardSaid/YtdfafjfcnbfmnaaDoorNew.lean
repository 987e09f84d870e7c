/- A new input over bytes. -/
import Derived.Test.YtdfafjfcnbfmnaaDoorReadAll
import Derived.Test.YtdfafjfcnbfmnaaDoorInput
import Derived.Laws.EntriesVeiled
set_option linter.unusedVariables false
namespace Go.Proofs.YtdfafjfcnbfmnaaDoor
open Go.RowKit

/-- Behind a lie the bytes, and a zero behind them. -/
def Buf (w : World) (a : Addr) (src : List Value) : Prop := ∀ j u, (src ++ [.int .u8 0])[j]? = some u → w.cell? (a.add j) = some u

theorem alloc3_new (w : World) (o1 o2 o3 : Obj) (cs : Array Value) (t : TypeId) (j : Nat) : ((((w.alloc o1).alloc o2).alloc o3).alloc (.cells cs t)).cell? ⟨w.heap.size + 1 + 1 + 1, j, none⟩ = cs[j]? := by
  have h := Blk.cell (Blk.new (((w.alloc o1).alloc o2).alloc o3) t cs) j
  simpa using h

theorem buf_cells {cur src : List Value} {n cap : Nat} (hcl : cur.length = cap) (hc : n < cap) (ht : cur.take n = src) {j : Nat} {u : Value} (hu : (src ++ [.int .u8 0])[j]? = some u) :
    (cur.toArray.setIfInBounds n (.int .u8 0))[j]? = some u := by
  have hsl : src.length = n := by rw [← ht, List.length_take]; omega
  rw [Array.getElem?_setIfInBounds]
  by_cases hj : n = j
  · subst hj
    rw [List.getElem?_append_right (by omega), hsl] at hu
    simp only [Nat.sub_self, List.getElem?_cons_zero] at hu
    rw [if_pos rfl, if_pos (by simp; omega)]
    exact hu
  · rw [if_neg hj]
    have hjn : j < n := by
      have := (List.getElem?_eq_some_iff.1 hu).1
      simp only [List.length_append, List.length_cons, List.length_nil] at this
      omega
    rw [List.getElem?_append_left (by omega), ← ht, List.getElem?_take, if_pos hjn] at hu
    simpa using hu

set_option maxRecDepth 100000 in
set_option maxHeartbeats 800000 in
/-- With room behind the bytes. -/
theorem newBytes_room (g n cap : Nat) (src cur : List Value) (w : World) (hn0 : 0 < n) (hn : n ≤ 1000000) (hc : n < cap) (hcm : cap ≤ maxLen) (hrow : Row w 5 g cap n src cur) :
    Calls Tryd.prog 27 #[.slice (some ⟨g, 0, none⟩) n cap] w fun e w' =>
      ∃ gi r, e = .returned (.pointer (some ⟨gi, 0, none⟩)) ∧ w.heap.size ≤ gi ∧ Inp w' gi ⟨g, 0, none⟩ (n + 1) cap r 0 0 ∧ Buf w' ⟨g, 0, none⟩ src ∧ Frm (fun x => x = g) w w' := by
  unfold maxLen at hcm
  have hg := hrow.row
  have hcl := hrow.len
  have hglt : g < w.heap.size := (Array.getElem?_eq_some_iff.1 hg).1
  obtain ⟨u0, hu0⟩ : ∃ x, cur[n]? = some (.int .u8 x) := by
    obtain ⟨x, hx⟩ := hrow.ones (cur[n]'(by omega)) (List.getElem_mem (by omega))
    exact ⟨x, by rw [List.getElem?_eq_getElem (by omega), hx]⟩
  have hcell : w.cell? ⟨g, n, none⟩ = some (.int .u8 u0) := by rw [cell_of_row w g n _ 5 (0, 0) hg]; simpa using hu0
  have hfz : w.frozen? ⟨g, n, none⟩ = false := by simp [World.frozen?, hg]
  have hz : ((n : Int) == 0) = false := by simp; omega
  have HR := Lib.hid hrow
  have hne : ¬ cap = 0 := by omega
  have hc3 : ∀ o1 o2 o3 : Obj, (((w.alloc o1).alloc o2).alloc o3).cell? ⟨g, n, none⟩ = some (.int .u8 u0) := fun o1 o2 o3 => by
    rw [World.cell?_alloc_lt _ _ _ (by simp; omega), World.cell?_alloc_lt _ _ _ (by simp; omega), World.cell?_alloc_lt _ _ _ hglt]; exact hcell
  have hc4 : ∀ o1 o2 o3 o4 : Obj, ((((w.alloc o1).alloc o2).alloc o3).alloc o4).cell? ⟨g, n, none⟩ = some (.int .u8 u0) := fun o1 o2 o3 o4 => by
    rw [World.cell?_alloc_lt _ _ _ (by simp; omega)]; exact hc3 o1 o2 o3
  have hf4 : ∀ o1 o2 o3 o4 : Obj, ((((w.alloc o1).alloc o2).alloc o3).alloc o4).frozen? ⟨g, n, none⟩ = false := fun o1 o2 o3 o4 => by
    have hF : Frm (fun _ => False) w ((((w.alloc o1).alloc o2).alloc o3).alloc o4) := ((((Frm.refl _ w).alloc _).alloc _).alloc _).alloc _
    rw [hF.frozen (p := ⟨g, n, none⟩) hglt (fun h => h)]; exact hfz
  clear hg hu0 hrow
  go_enter Tryd.func27, Tryd.ntmps27
  go_wp2
  go_ret
  have hrow := HR.out
  have hb1 : ∀ o1 o2 o3 o4 : Obj, Blk ((((w.alloc o1).alloc o2).alloc o3).alloc o4) g 5 cur.toArray := fun o1 o2 o3 o4 => (((Blk.alloc hrow.row o1).alloc o2).alloc o3).alloc o4
  refine ⟨w.heap.size + 1, .func (Fn.func 32) #[] #[.pointer (some ⟨w.heap.size + 1 + 1 + 1, 0, none⟩), .pointer (some ⟨w.heap.size, 0, none⟩), .pointer (some ⟨w.heap.size + 1 + 1, 0, none⟩)], rfl, by omega, ?_, ?_, ?_⟩
  · have h1 := Blk.new (w.alloc (.cells #[.slice (some ⟨g, 0, none⟩) (n + 1) cap] 22)) 64 #[.slice (some ⟨g, 0, none⟩) n cap, .int .i64 0, .int .i64 0, .nilIface, .nilFunc]
    simp only [World.size_alloc] at h1
    have h2 := ((h1.alloc (.cells #[.int .i64 n] 3)).alloc (.cells #[.int .u8 u0] 5)).far (p := ⟨g, n, none⟩) (show w.heap.size + 1 ≠ g by omega) (.int .u8 0)
    exact (h2.set_ 0 (.slice (some ⟨g, 0, none⟩) (n + 1) cap)).set_ 4 _
  · have h2 := fun (o1 o2 o3 o4 : Obj) (x y : Value) => (((hb1 o1 o2 o3 o4).set_ n (.int .u8 0)).far (p := ⟨w.heap.size + 1, 0, none⟩) (show g ≠ w.heap.size + 1 by omega) x).far (p := ⟨w.heap.size + 1, 4, none⟩) (show g ≠ w.heap.size + 1 by omega) y
    intro j u hu
    rw [addr_zero_add]
    refine (Blk.cell (h2 _ _ _ _ _ _) j).trans ?_
    exact buf_cells hcl hc hrow.top hu
  · exact ((((((((Frm.refl (fun x => x = g) w).alloc _).alloc _).alloc _).alloc _).setCell (p := ⟨g, n, none⟩) (fun _ => rfl) _).setCell (p := ⟨w.heap.size + 1, 0, none⟩) (fun h => absurd h (by show ¬ w.heap.size + 1 < w.heap.size; omega)) _).setCell (p := ⟨w.heap.size + 1, 4, none⟩) (fun h => absurd h (by show ¬ w.heap.size + 1 < w.heap.size; omega)) _)


set_option maxRecDepth 100000 in
set_option maxHeartbeats 800000 in
/-- Without room: the bytes move to a new row. -/
theorem newBytes_full (g n : Nat) (src cur : List Value) (w : World) (hn0 : 0 < n) (hn : n ≤ 1000000) (hrow : Row w 5 g n n src cur) :
    Calls Tryd.prog 27 #[.slice (some ⟨g, 0, none⟩) n n] w fun e w' =>
      ∃ gi gb c r, e = .returned (.pointer (some ⟨gi, 0, none⟩)) ∧ w.heap.size ≤ gi ∧ n + 1 ≤ c ∧ Inp w' gi ⟨gb, 0, none⟩ (n + 1) c r 0 0 ∧ Buf w' ⟨gb, 0, none⟩ src ∧ Frm (fun x => x = g) w w' := by
  obtain ⟨i5, hi5, hz5, hs5, hb5⟩ := info_parts info5
  have hz : ((n : Int) == 0) = false := by simp; omega
  have hne : ¬ n = 0 := by omega
  have hglt : g < w.heap.size := (Array.getElem?_eq_some_iff.1 hrow.row).1
  have hown0 : ∀ o1 o2 o3 o4 : Obj, Hid (((((w.alloc o1).alloc o2).alloc o3).alloc o4).ownsRow 0 5 1 (.slice (some ⟨g, 0, none⟩) n n) n src) := fun o1 o2 o3 o4 => by
    refine World.ownsRow.alloc (World.ownsRow.alloc (World.ownsRow.alloc (World.ownsRow.alloc ?_ _) _) _) _
    have hl := hrow.len
    refine ⟨by rw [← hrow.top, List.length_take]; omega, .inr ⟨g, n, cur.toArray, rfl, Nat.zero_le _, hrow.row, Nat.le_refl _, by unfold maxLen; omega, by simp [hl], by simpa using hrow.top⟩⟩
  clear hrow
  go_enter Tryd.func27, Tryd.ntmps27
  go_wp2_with (at_builtin; refine wpList_append_own _ rfl (.tmp 41) (.tmp 42) 22 rfl 0 5 i5 (.int .u8 0) 1 1 Tryd.underlying22 hi5 hz5 hs5 hb5 rfl (by decide) (.slice (some ⟨g, 0, none⟩) n n) n src rfl (hown0 _ _ _ _).out ⟨w.heap.size + 1 + 1 + 1, 0, none⟩ 1 1 [.int .u8 0] rfl rfl ?c1 ?c2 ?c3 ?c4 ?c5 ?_)
  case c1 => intro j u hj; match j, hj with | 0, hj => (simp at hj; subst hj; exact (alloc3_new w _ _ _ _ _ 0).trans rfl)
  case c2 => intro u hu; simp at hu; subst hu; rfl
  case c3 => unfold maxLen; omega
  case c4 => omega
  case c5 => omega
  intro v' w2 hown hgrow hvne
  obtain ⟨gb, cb, rfl⟩ := ownsRow_form hown hvne
  have hcb : n + 1 ≤ cb := by
    rcases hown.2 with ⟨e1, _⟩ | ⟨g'', cap'', cur'', e1, e2, e3, e4, _⟩
    · cases e1
    · injection e1 with _ _ e1
      omega
  have hcells := hown.cells (g := gb) rfl
  have hF : Frm (fun x => x = g) w w2 := (((((Frm.refl (fun x => x = g) w).alloc _).alloc _).alloc _).alloc _).trans' (Frm.of_grownBy hgrow) (fun x _ e => by injection e with e; exact (show g = x from e).symm)
  have hblk : Blk w2 (w.heap.size + 1) 64 #[.slice (some ⟨g, 0, none⟩) n n, .int .i64 0, .int .i64 0, .nilIface, .nilFunc] := by
    have h1 := Blk.new (w.alloc (.cells #[.slice (some ⟨g, 0, none⟩) n n] 22)) 64 #[.slice (some ⟨g, 0, none⟩) n n, .int .i64 0, .int .i64 0, .nilIface, .nilFunc]
    simp only [World.size_alloc] at h1
    exact ((h1.alloc (.cells #[.int .i64 n] 3)).alloc (.cells #[.int .u8 0] 5)).grown hgrow (by intro e; injection e with e; have h : w.heap.size + 1 = g := e; omega)
  have hgb2 : w2.heap[gb]? ≠ none := by
    have := (hown.lt gb rfl).2
    intro e
    rw [Array.getElem?_eq_none_iff] at e
    omega
  have hgbne : w.heap.size + 1 ≠ gb := by
    rcases hown.2 with ⟨e1, _⟩ | ⟨g'', cap'', cur'', e1, e2, e3, e4, _⟩
    · cases e1
    · injection e1 with e1 _ _
      injection e1 with e1
      injection e1 with e1
      subst e1
      exact Blk.ne_ (t := 64) (t' := 5) hblk e3 (by decide)
  have k0 : w2.cell? ⟨w.heap.size + 1, 0, none⟩ = some (.slice (some ⟨g, 0, none⟩) n n) := hblk.cell 0
  have f0 : w2.frozen? ⟨w.heap.size + 1, 0, none⟩ = false := hblk.frozen 0
  have HB := Lib.hid hblk
  have HC := Lib.hid hcells
  clear hblk hcells hown hgrow hvne hgb2
  go_wp2
  go_ret
  refine ⟨w.heap.size + 1, gb, cb, .nilFunc, rfl, by omega, hcb, ?_, ?_, ?_⟩
  · exact HB.out.set_ 0 (.slice (some ⟨gb, 0, none⟩) (n + 1) cb)
  · intro j u hu
    have := HC.out j u hu
    refine Eq.trans (World.cell?_of_block ?_) this
    rw [block_of_add]
    exact Below.heap_setCell w2 ⟨w.heap.size + 1, 0, none⟩ _ gb (fun e => hgbne e.symm)
  · exact hF.setCell (p := ⟨w.heap.size + 1, 0, none⟩) (fun h => absurd h (by show ¬ w.heap.size + 1 < w.heap.size; omega)) _

set_option maxRecDepth 100000 in
set_option maxHeartbeats 800000 in
/-- No bytes: a zero alone. -/
theorem newBytes_empty (A : Option Addr) (c : Nat) (w : World) :
    Calls Tryd.prog 27 #[.slice A 0 c] w fun e w' =>
      ∃ gi gb c r, e = .returned (.pointer (some ⟨gi, 0, none⟩)) ∧ w.heap.size ≤ gi ∧ 0 + 1 ≤ c ∧ Inp w' gi ⟨gb, 0, none⟩ (0 + 1) c r 0 0 ∧ Buf w' ⟨gb, 0, none⟩ [] ∧ Frm (fun _ => False) w w' := by
  go_enter Tryd.func27, Tryd.ntmps27
  go_wp2
  go_ret
  refine ⟨w.heap.size + 1, w.heap.size + 1 + 1 + 1, 1, .nilFunc, rfl, by omega, Nat.le_refl _, ?_, ?_, ?_⟩
  · have h1 := Blk.new (w.alloc (.cells #[.slice A 0 c] 22)) 64 #[.slice (some ⟨w.heap.size + 1 + 1 + 1, 0, none⟩) 1 1, .int .i64 0, .int .i64 0, .nilIface, .nilFunc]
    simp only [World.size_alloc] at h1
    exact (h1.alloc (.cells #[.int .i64 0] 3)).alloc (.cells #[.int .u8 0] 5)
  · intro j u hu
    rw [addr_zero_add, alloc3_new]
    simpa using hu
  · exact ((((Frm.refl _ w).alloc _).alloc _).alloc _).alloc _

/-- A new input over a row that is known whole. -/
theorem newBytes_any (g n cap : Nat) (src cur : List Value) (w : World) (hn : n ≤ 1000000) (hcm : cap ≤ maxLen) (hrow : Row w 5 g cap n src cur) :
    Calls Tryd.prog 27 #[.slice (some ⟨g, 0, none⟩) n cap] w fun e w' =>
      ∃ gi gb c r, e = .returned (.pointer (some ⟨gi, 0, none⟩)) ∧ w.heap.size ≤ gi ∧ n + 1 ≤ c ∧ Inp w' gi ⟨gb, 0, none⟩ (n + 1) c r 0 0 ∧ Buf w' ⟨gb, 0, none⟩ src ∧ Frm (fun x => x = g) w w' := by
  have hle := hrow.le
  by_cases h0 : n = 0
  · subst h0
    have hs : src = [] := by rw [← hrow.top]; rfl
    subst hs
    exact (newBytes_empty (some ⟨g, 0, none⟩) cap w).mono fun e w' ⟨gi, gb, c, r, h1, h2, h3, h4, h5, h6⟩ => ⟨gi, gb, c, r, h1, h2, h3, h4, h5, h6.mono fun _ _ h => h.elim⟩
  · by_cases hc : n < cap
    · exact (newBytes_room g n cap src cur w (by omega) hn hc hcm hrow).mono fun e w' ⟨gi, r, h1, h2, h3, h4, h5⟩ => ⟨gi, g, cap, r, h1, h2, hc, h3, h4, h5⟩
    · obtain rfl : n = cap := by omega
      exact newBytes_full g n src cur w (by omega) hn hrow

theorem und59 : Tryd.prog.underlying 59 = some (.interface #[("Bytes", 53)]) := by kernel_rfl
theorem zero59 : (Tryd.prog.info? 59).map (·.zero) = some (some .nilIface) := by kernel_rfl
theorem info33m : ((Tryd.prog.info? 33).map (fun i => (#[("Bytes", 53)] : Array (String × TypeId)).toList.filter fun x => !i.methods.any fun m => m.name == x.1 && m.sig == x.2)) = some [("Bytes", 53)] := by kernel_rfl
theorem missing_some (c : Char) (s : String) : ∃ m, (let (unexported, exported) := [s].partition (·.contains c)
  Instr.least exported <|> Instr.least (unexported.map fun id => (id.splitOn ".").getLastD id)) = some m := by
  cases h : s.contains c
  · exact ⟨s, by simp [List.partition, List.partition.loop, h, Instr.least]⟩
  · exact ⟨(s.splitOn ".").getLastD s, by simp [List.partition, List.partition.loop, h, Instr.least]⟩
/-- A reader of bytes has no method Bytes. -/
theorem no_bytes (a : Addr) (w : World) : (Instr.typeAssert (.iface 33 (.pointer (some a))) 41 59 true).run Tryd.prog w = .ok (.tuple #[.nilIface, .bool false]) w := by
  obtain ⟨i, hi, hm⟩ := Option.map_eq_some_iff.1 info33m
  obtain ⟨j, hj, hz⟩ := Option.map_eq_some_iff.1 zero59
  obtain ⟨m, hmm⟩ := missing_some (Char.ofNat 46) "Bytes"
  have hmis : Instr.missingMethod #[("Bytes", 53)] i.methods = some m := by
    unfold Instr.missingMethod
    simp only [hm, List.map_cons, List.map_nil]
    exact hmm
  simp [Instr.typeAssert, run_underlying und59, typeInfo, hi, hmis, zeroValue, hj, hz]
set_option maxRecDepth 100000 in
set_option maxHeartbeats 800000 in
/-- A new input over a reader of bytes. -/
theorem newInput_any (gr : Nat) (A : Option Addr) (ad : Addr) (n c : Nat) (p : Int) (src : List Value) (w : World) (a0 : Addr)
    (hn : n ≤ 1000000) (hc : n ≤ c) (hA : 0 < n → A = some ad ∧ ad.block < gr) (hgr : gr < w.heap.size)
    (h : Blk w gr 56 (RdCells A n c 0 p))
    (hsrc : ∀ j, j < n → ∀ u, src[j]? = some u → w.cell? (ad.add j) = some u) (hl : src.length = n) (h1c : ∀ u ∈ src, IsB u)
    (heof : w.cell? ⟨0, 0, none⟩ = some (.iface 125 (.pointer (some a0)))) :
    Calls Tryd.prog 15 #[.iface 33 (.pointer (some ⟨gr, 0, none⟩))] w fun e w' =>
      ∃ gi gb cb r, e = .returned (.pointer (some ⟨gi, 0, none⟩)) ∧ w.heap.size ≤ gi ∧ n + 1 ≤ cb ∧ Inp w' gi ⟨gb, 0, none⟩ (n + 1) cb r 0 0 ∧ Buf w' ⟨gb, 0, none⟩ src ∧ Frm (fun x => x = gr) w w' := by
  have hna := no_bytes ⟨gr, 0, none⟩
  have HH := Lib.hid h
  have HS := Lib.hid hsrc
  have HL := Lib.hid hl
  have H1 := Lib.hid h1c
  have HA := Lib.hid hA
  clear h hsrc hl h1c hA
  go_enter Tryd.func15, Tryd.ntmps15
  go_wp2_with (go_at_call 25; refine (readAll_any gr A ad n c p src w a0 hn hc HA.out hgr HH.out HS.out HL.out H1.out heof).mono ?_; rintro e w1 ⟨g, cap, cur, rfl, hg, hcap, hrow, hf⟩)
  refine (newBytes_any g n cap src cur w1 hn hcap hrow).mono ?_
  rintro e w2 ⟨gi, gb, cb, r, rfl, hgi, hcb, hinp, hbuf, hf2⟩
  have HR := Lib.hid hrow
  have HI := Lib.hid hinp
  have HB := Lib.hid hbuf
  clear hrow hinp hbuf
  go_wp2
  go_ret
  have hs := hf.size
  exact ⟨gi, gb, cb, r, rfl, by omega, hcb, HI.out, HB.out, hf.trans' hf2 (fun x hx e => by omega)⟩
end Go.Proofs.YtdfafjfcnbfmnaaDoor
