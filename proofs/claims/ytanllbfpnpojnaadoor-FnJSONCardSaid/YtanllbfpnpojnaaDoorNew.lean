/- A copy of bytes, a new input and a new parser. -/
import Derived.Test.YtanllbfpnpojnaaDoorStates
set_option linter.unusedVariables false
namespace Go.Proofs.YtanllbfpnpojnaaDoor
open Go.RowKit

theorem run_make_rowN {P : Program} (t e : TypeId) (i : TypeInfo) (z : Value) (ht : P.underlying t = some (.slice e)) (hi : P.info? e = some i) (hz : i.zero = some z)
    (kl kc : IntKind) (n c : Nat) (hnc : n ≤ c) (hbytes : i.bytes * c ≤ 281474976710656) (h63 : c ≤ 9223372036854775807) (w : World) :
    (Instr.makeSlice t (.int kl (n : Int)) (.int kc (c : Int))).run P w = .ok (.slice (some ⟨w.heap.size, 0, none⟩) n c) (w.alloc (.cells (madeCells z.cells (c * i.size)) e)) := by
  have hb : (i.bytes : Int) * (c : Int) ≤ 281474976710656 := by
    have h : ((i.bytes * c : Nat) : Int) ≤ 281474976710656 := by omega
    rwa [Int.natCast_mul] at h
  have hr := run_make (P := P) w t e i z ht hi hz kl kc n c (by omega) (by omega) hb (by omega)
  simp only [Int.toNat_natCast] at hr
  exact hr
theorem makeBytes (n : Nat) (hn : n ≤ 2147483647) (w : World) : ∃ Z : Array Value, Z.size = n ∧ (Instr.makeSlice 22 (.int .i64 (n : Int)) (.int .i64 (n : Int))).run Tryd.prog w = .ok (.slice (some ⟨w.heap.size, 0, none⟩) n n) (w.alloc (.cells Z 5)) := by
  obtain ⟨i5, hi5, hz5, hs5, hb5⟩ := info_parts info5
  have h := run_make_rowN 22 5 i5 _ Tryd.underlying22 hi5 hz5 .i64 .i64 n n (Nat.le_refl _) (by rw [hb5]; omega) (by omega) w
  rw [hs5] at h
  exact ⟨_, by simp [madeCells], h⟩

set_option maxRecDepth 100000 in
set_option maxHeartbeats 800000 in
theorem copy29 (A : Option Addr) (c : Nat) (L : List UInt8) (w : World) (hn : L.length ≤ 2147483647)
    (hsrc : 0 < L.length → ∃ ad : Addr, A = some ad ∧ ∀ j u, (bvals L)[j]? = some u → w.cell? (ad.add j) = some u) :
    Calls Tryd.prog 29 #[.slice A L.length c] w fun e w' => e = .returned (.slice (some ⟨w.heap.size, 0, none⟩) L.length L.length) ∧ Blk w' w.heap.size 5 (bvals L).toArray ∧ Frm (fun _ => False) w w' := by
  obtain ⟨Z, hZ, hmk⟩ := makeBytes L.length hn w
  have HS := Lib.hid hsrc
  have HZ := Lib.hid hZ
  have hone := Lib.hid (bvals_one L)
  have hlen := Lib.hid (bvals_length L)
  clear hsrc hZ hn
  generalize hm : L.length = n at *
  go_enter Tryd.func29, Tryd.ntmps29
  by_cases h0 : n = 0
  · have hL : Hid (bvals L = []) := List.eq_nil_of_length_eq_zero (by rw [hlen.out]; exact h0)
    have H0 := Lib.hid h0
    clear h0
    go_wp2_with (refine wpList_copy_nothing rfl (.tmp 6) (.tmp 7) 22 22 rfl 5 Tryd.underlying22 (by kernel_rfl) (some ⟨w.heap.size, 0, none⟩) A n n n c rfl rfl (by have h := H0.out; simp [h]) ?_)
    go_ret
    refine ⟨rfl, ?_, (Frm.refl _ w).alloc _⟩
    rw [hL.out]
    have := Blk.new w 5 Z
    rw [show Z = #[] from Array.eq_empty_of_size_eq_zero (by rw [HZ.out]; exact H0.out)] at this ⊢
    exact this
  · obtain ⟨ad, rfl, hcs⟩ := HS.out (by omega)
    have hblk := Blk.new w 5 Z
    have hcs' : ∀ j u, (bvals L)[j]? = some u → (w.alloc (.cells Z 5)).cell? (ad.add j) = some u := fun j u hu => (((Frm.refl (fun _ => False) w).alloc (.cells Z 5)).cell (World.block_lt_of_cell? w _ (hcs j u hu)) (fun h => h)).trans (hcs j u hu)
    have HC := Lib.hid hcs'
    have HB := Lib.hid hblk
    clear hcs hcs' hblk h0
    go_wp2_with (refine wpList_copy_own rfl (.tmp 6) (.tmp 7) 22 22 rfl 5 Tryd.underlying22 (by kernel_rfl) w.heap.size 0 n n ad n c rfl rfl Z 5 HB.out (bvals L) (by rw [hlen.out]; exact (Nat.min_self n).symm) HC.out (by rw [hlen.out, HZ.out]; omega) hone.out ?_)
    go_ret
    refine ⟨rfl, ?_, ((Frm.refl _ w).alloc _).setRow (fun h => absurd h (Nat.lt_irrefl _)) _⟩
    have h1 : ∀ R, R = (bvals L).toArray → Blk ((w.alloc (.cells Z 5)).setRow w.heap.size R) w.heap.size 5 (bvals L).toArray := fun R e => by
      subst e
      exact setRow_heap (w.alloc (.cells Z 5)) w.heap.size Z (bvals L).toArray 5 (0, 0) HB.out
    refine h1 _ ?_
    first | rfl | (rw [hlen.out, List.drop_of_length_le (by simp [HZ.out])]; simp) | (rw [List.drop_of_length_le (by simp [HZ.out, hlen.out])]; simp)

theorem own_of_blk {w : World} {g n : Nat} {base : Nat} {xs : List Value} {e : TypeId} (h : Blk w g e xs.toArray) (hb : base ≤ g) (hn : xs.length = n) (hm : n ≤ maxLen) : w.ownsRow base e 1 (.slice (some ⟨g, 0, none⟩) n n) n xs :=
  ⟨by omega, .inr ⟨g, n, xs.toArray, rfl, hb, h, Nat.le_refl _, hm, by simp [hn], by simp [List.take_of_length_le, hn]⟩⟩

theorem copy11 (A : Option Addr) (c : Nat) (L : List UInt8) (w : World) (hn : L.length ≤ 2147483647)
    (hsrc : 0 < L.length → ∃ ad : Addr, A = some ad ∧ ∀ j u, (bvals L)[j]? = some u → w.cell? (ad.add j) = some u) :
    Calls Tryd.prog 11 #[.slice A L.length c] w fun e w' => e = .returned (.slice (some ⟨w.heap.size, 0, none⟩) L.length L.length) ∧ Blk w' w.heap.size 5 (bvals L).toArray ∧ Frm (fun _ => False) w w' := by
  go_enter Tryd.func11, Tryd.ntmps11
  go_wp2_with fail
  refine (copy29 A c L w hn hsrc).mono ?_
  rintro e w1 ⟨rfl, hB, hF⟩
  dsimp only
  go_wp2
  go_ret
  exact ⟨rfl, hB, hF⟩

theorem alloc3_new (w : World) (o1 o2 o3 : Obj) (cs : Array Value) (t : TypeId) (j : Nat) : ((((w.alloc o1).alloc o2).alloc o3).alloc (.cells cs t)).cell? ⟨w.heap.size + 1 + 1 + 1, j, none⟩ = cs[j]? := by
  have h := Blk.cell (Blk.new (((w.alloc o1).alloc o2).alloc o3) t cs) j
  simpa using h

/-- What a new input is. -/
def Fresh (B : Nat) (bs : List UInt8) (w w' : World) (e : Ending) : Prop :=
  ∃ gi gb c, e = .returned (.pointer (some ⟨gi, 0, none⟩)) ∧ B ≤ gi ∧ B ≤ gb ∧ bs.length + 1 ≤ c ∧ c ≤ maxLen ∧ Blk w' gi 61 (InCells gb bs.length c 0 0 .nilFunc) ∧ ∃ cur, Blk w' gb 5 cur ∧ ∀ i, i ≤ bs.length → cur[i]? = some (.int .u8 (pk bs i))

theorem bytes_end {bs : List UInt8} {cur : Array Value} (h : cur.toList.take ((bs.length + 1) * 1) = bvals bs ++ [.int .u8 0]) : ∀ i, i ≤ bs.length → cur[i]? = some (.int .u8 (pk bs i)) := by
  intro i hi
  have h1 : (cur.toList.take ((bs.length + 1) * 1))[i]? = (bvals bs ++ [.int .u8 0])[i]? := by rw [h]
  rw [List.getElem?_take_of_lt (by omega), Array.getElem?_toList] at h1
  rw [h1]
  by_cases hl : i < bs.length
  · rw [List.getElem?_append_left (by rw [bvals_length]; exact hl), bvals, List.getElem?_map, List.getElem?_eq_getElem hl, pk_lt hl]
    rfl
  · obtain rfl : i = bs.length := by omega
    rw [List.getElem?_append_right (by rw [bvals_length]; exact Nat.le_refl _), bvals_length, pk_ge (Nat.le_refl _)]
    simp

set_option maxRecDepth 100000 in
set_option maxHeartbeats 800000 in
theorem newBytes_full (g : Nat) (bs : List UInt8) (w : World) (hn0 : 0 < bs.length) (hn : bs.length ≤ 5000) (hrow : Blk w g 5 (bvals bs).toArray) (B : Nat) (hB : B ≤ g) (hBw : B ≤ w.heap.size) :
    Calls Tryd.prog 10 #[.slice (some ⟨g, 0, none⟩) bs.length bs.length] w fun e w' => Fresh B bs w w' e ∧ Frm (fun k => k = g) w w' := by
  obtain ⟨i5, hi5, hz5, hs5, hb5⟩ := info_parts info5
  have hglt := hrow.lt
  have hown0 : ∀ o1 o2 o3 o4 : Obj, Hid (((((w.alloc o1).alloc o2).alloc o3).alloc o4).ownsRow B 5 1 (.slice (some ⟨g, 0, none⟩) bs.length bs.length) bs.length (bvals bs)) := fun o1 o2 o3 o4 =>
    World.ownsRow.alloc (World.ownsRow.alloc (World.ownsRow.alloc (World.ownsRow.alloc (own_of_blk hrow hB (bvals_length bs) (by unfold maxLen; omega)) _) _) _) _
  have HEND : Hid (∀ cur : Array Value, cur.toList.take ((bs.length + 1) * 1) = bvals bs ++ [.int .u8 0] → ∀ i, i ≤ bs.length → cur[i]? = some (.int .u8 (pk bs i))) := fun cur => bytes_end
  have hz : ((bs.length : Int) == 0) = false := by rw [beq_eq_false_iff_ne]; omega
  clear hrow
  unfold Fresh
  generalize hL : bs.length = n at *
  generalize bvals bs = src at *
  have hne : ¬ n = 0 := by omega
  go_enter Tryd.func10, Tryd.ntmps10
  go_wp2_with (at_builtin; refine wpList_append_lies _ rfl (.tmp 41) (.tmp 42) 22 rfl B 5 i5 (.int .u8 0) 1 1 Tryd.underlying22 hi5 hz5 hs5 hb5 rfl (by decide) (.slice (some ⟨g, 0, none⟩) n n) n src rfl (hown0 _ _ _ _).out ⟨w.heap.size + 1 + 1 + 1, 0, none⟩ 1 1 [.int .u8 0] rfl rfl ?c1 ?c2 (by decide) ?c3 ?c4 ?c5 (w.heap.size + 1 + 1 + 1 + 1) (by simp) ?_)
  case c1 => intro j u hj; match j, hj with | 0, hj => (simp at hj; subst hj; exact (alloc3_new w _ _ _ _ _ 0).trans rfl)
  case c2 => intro u hu; simp at hu; subst hu; rfl
  case c3 => unfold maxLen; omega
  case c4 => omega
  case c5 => simp; omega
  intro gb cb w2 hown hgrow hat hlt
  have hgb : B ≤ gb := (hown.lt gb rfl).1
  have hF : Frm (fun x => x = g) w w2 := (((((Frm.refl (fun x => x = g) w).alloc _).alloc _).alloc _).alloc _).trans' (Frm.of_grownBy hgrow) (fun x _ e => by injection e with e; exact (show g = x from e).symm)
  have hblk : Blk w2 (w.heap.size + 1) 61 #[.slice (some ⟨g, 0, none⟩) n n, .int .i64 0, .int .i64 0, .nilIface, .nilFunc] := by
    have h1 := Blk.new (w.alloc (.cells #[.slice (some ⟨g, 0, none⟩) n n] 22)) 61 #[.slice (some ⟨g, 0, none⟩) n n, .int .i64 0, .int .i64 0, .nilIface, .nilFunc]
    simp only [World.size_alloc] at h1
    exact ((h1.alloc (.cells #[.int .i64 n] 3)).alloc (.cells #[.int .u8 0] 5)).grown hgrow (by intro e; injection e with e; have h : w.heap.size + 1 = g := e; omega)
  obtain ⟨cur, hcb, hcm, hcur, htake⟩ : ∃ cur, n + 1 ≤ cb ∧ cb ≤ maxLen ∧ Blk w2 gb 5 cur ∧ cur.toList.take ((n + 1) * 1) = src ++ [.int .u8 0] := by
    rcases hown.2 with ⟨e1, _⟩ | ⟨g'', cap'', cur'', e1, e2, e3, e4, e5, e6, e7⟩
    · cases e1
    · injection e1 with e0 _ e1
      injection e0 with e0
      injection e0 with e0
      subst e0 e1
      exact ⟨cur'', e4, e5, e3, e7⟩
  have hne2 : gb ≠ w.heap.size + 1 := hcur.ne_ hblk (by decide)
  have k0 : w2.cell? ⟨w.heap.size + 1, 0, none⟩ = some (.slice (some ⟨g, 0, none⟩) n n) := hblk.cell 0
  have f0 : w2.frozen? ⟨w.heap.size + 1, 0, none⟩ = false := hblk.frozen 0
  have HB := Lib.hid hblk
  have HC := Lib.hid hcur
  have HT := Lib.hid htake
  have HM := Lib.hid hcm
  clear hblk hcur hown hgrow htake hcm
  go_wp2
  go_ret
  refine ⟨⟨w.heap.size + 1, gb, cb, rfl, by omega, hgb, hcb, HM.out, ?_, cur, ?_, HEND.out cur HT.out⟩, ?_⟩
  · exact HB.out.set_ 0 (.slice (some ⟨gb, 0, none⟩) (n + 1) cb)
  · exact HC.out.far (p := ⟨w.heap.size + 1, 0, none⟩) hne2 _
  · exact hF.setCell (p := ⟨w.heap.size + 1, 0, none⟩) (fun h => absurd h (by show ¬ w.heap.size + 1 < w.heap.size; omega)) _

theorem nullBuffer_any (w : World) : Calls Tryd.prog 27 #[] w fun e w' => e = .returned (.slice (some ⟨w.heap.size, 0, none⟩) 1 1) ∧ w' = w.alloc (.cells #[.int .u8 0] 5) := by
  go_enter Tryd.func27, Tryd.ntmps27
  go_wp2
  go_ret
  exact ⟨rfl, rfl⟩

set_option maxRecDepth 100000 in
set_option maxHeartbeats 800000 in
theorem newBytes_none (A : Option Addr) (c : Nat) (w : World) (B : Nat) (hBw : B ≤ w.heap.size) :
    Calls Tryd.prog 10 #[.slice A 0 c] w fun e w' => Fresh B [] w w' e ∧ Frm (fun _ => False) w w' := by
  go_enter Tryd.func10, Tryd.ntmps10
  go_wp2_with (go_at_call 27; refine (nullBuffer_any _).mono ?_; rintro e w' ⟨rfl, rfl⟩)
  go_ret
  refine ⟨⟨w.heap.size + 1, w.heap.size + 1 + 1 + 1, 1, rfl, by omega, by omega, by decide, by decide, ?_, #[.int .u8 0], ?_, fun i hi => ?_⟩, ?_⟩
  · have h1 := Blk.new (w.alloc (.cells #[.slice A 0 c] 22)) 61 #[.slice (some ⟨w.heap.size + 1 + 1 + 1, 0, none⟩) 1 1, .int .i64 0, .int .i64 0, .nilIface, .nilFunc]
    simp only [World.size_alloc] at h1
    exact (h1.alloc (.cells #[.int .i64 0] 3)).alloc (.cells #[.int .u8 0] 5)
  · have h1 := fun o1 o2 o3 => Blk.new (((w.alloc o1).alloc o2).alloc o3) 5 #[.int .u8 0]
    simp only [World.size_alloc] at h1
    exact h1 _ _ _
  · obtain rfl : i = 0 := by simpa using hi
    rfl
  · exact ((((Frm.refl (fun _ => False) w).alloc _).alloc _).alloc _).alloc _

theorem newBytes_any (g : Nat) (bs : List UInt8) (w : World) (hn : bs.length ≤ 5000) (hrow : Blk w g 5 (bvals bs).toArray) (B : Nat) (hB : B ≤ g) (hBw : B ≤ w.heap.size) :
    Calls Tryd.prog 10 #[.slice (some ⟨g, 0, none⟩) bs.length bs.length] w fun e w' => Fresh B bs w w' e ∧ Frm (fun k => k = g) w w' := by
  by_cases h0 : 0 < bs.length
  · exact newBytes_full g bs w h0 hn hrow B hB hBw
  · obtain rfl : bs = [] := List.eq_nil_of_length_eq_zero (by omega)
    exact (newBytes_none (some ⟨g, 0, none⟩) 0 w B hBw).mono (fun e w' h => ⟨h.1, h.2.mono (fun _ _ h => h.elim)⟩)

set_option maxHeartbeats 800000 in
/-- A new parser over a new input. -/
theorem newParser_any {gi gb c : Nat} {bs : List UInt8} (w : World) (B : Nat) (hB : B ≤ w.heap.size) (hgi : B ≤ gi) (hgb : B ≤ gb) (hc : bs.length + 1 ≤ c) (hin : Blk w gi 61 (InCells gb bs.length c 0 0 .nilFunc))
    (hbuf : ∃ cur, Blk w gb 5 cur ∧ ∀ i, i ≤ bs.length → cur[i]? = some (.int .u8 (pk bs i))) :
    Calls Tryd.prog 9 #[.pointer (some ⟨gi, 0, none⟩)] w fun e w' => ∃ gp sv, e = .returned (.pointer (some ⟨gp, 0, none⟩)) ∧ Ps B gp gi gb c .nilFunc bs w' 0 0 false ([] ++ [0]) sv ∧ Frm (fun _ => False) w w' := by
  have HI := Lib.hid hin
  have HB := Lib.hid hbuf
  clear hin hbuf
  go_enter Tryd.func9, Tryd.ntmps9
  go_wp2
  go_ret
  refine ⟨w.heap.size + 1, .slice (some ⟨w.heap.size, 0, none⟩) 1 1, rfl, ⟨?_, ?_, ?_, ?_, by omega, hgi, hgb, hc⟩, ((Frm.refl _ w).alloc _).alloc _⟩
  · have h1 := Blk.new (w.alloc (.cells #[.int .u32 0] 43)) 59 (PaCells gi (.slice (some ⟨w.heap.size, 0, none⟩) 1 1) false)
    simp only [World.size_alloc] at h1
    exact h1
  · exact (HI.out.alloc _).alloc _
  · obtain ⟨cur, h1, h2⟩ := HB.out
    exact ⟨cur, (h1.alloc _).alloc _, h2⟩
  · exact (own_of_blk (xs := [.int .u32 0]) (Blk.new w 43 #[.int .u32 0]) hB rfl (by decide)).alloc _
end Go.Proofs.YtanllbfpnpojnaaDoor
