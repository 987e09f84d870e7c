/- All bytes of a reader of bytes. -/
import Derived.Test.YtdfafjfcnbfmnaaDoorReadInv
import Derived.Deep.LoopGhost
set_option linter.unusedVariables false
namespace Go.Proofs.YtdfafjfcnbfmnaaDoor
open Go.RowKit

theorem info5 : (Tryd.prog.info? 5).map (fun i => (i.zero, i.size, i.bytes)) = some (some (.int .u8 0), 1, 1) := by kernel_rfl
theorem info22 : (Tryd.prog.info? 22).map (fun i => (i.zero, i.size, i.bytes)) = some (some (.slice none 0 0), 1, 24) := by kernel_rfl

theorem run_make_rowN {P : Program} (t e : TypeId) (i : TypeInfo) (z : Value) (ht : P.underlying t = some (.slice e)) (hi : P.info? e = some i) (hz : i.zero = some z)
    (kl kc : IntKind) (n c : Nat) (hnc : n ≤ c) (hbytes : i.bytes * c ≤ 281474976710656) (h63 : c ≤ 9223372036854775807) (w : World) :
    (Instr.makeSlice t (.int kl (n : Int)) (.int kc (c : Int))).run P w = .ok (.slice (some ⟨w.heap.size, 0, none⟩) n c) (w.alloc (.cells (madeCells z.cells (c * i.size)) e)) := by
  have hb : (i.bytes : Int) * (c : Int) ≤ 281474976710656 := by
    have h : ((i.bytes * c : Nat) : Int) ≤ 281474976710656 := by omega
    rwa [Int.natCast_mul] at h
  have hr := run_make (P := P) w t e i z ht hi hz kl kc n c (by omega) (by omega) hb (by omega)
  simp only [Int.toNat_natCast] at hr
  exact hr

/-- The first room, and the room for the first chunks. -/
def Z512 : Array Value := madeCells #[.int .u8 0] 512
def Z4 : Array Value := madeCells #[.slice none 0 0] 4
theorem size_Z512 : Z512.size = 512 := by simp [Z512, madeCells]
theorem size_Z4 : Z4.size = 4 := by simp [Z4, madeCells]
theorem ones_Z512 : ∀ u ∈ Z512.toList, IsB u := by
  intro u hu
  simp only [Z512, madeCells, Array.toList_map, Array.toList_range, List.mem_map] at hu
  obtain ⟨j, _, rfl⟩ := hu
  have hj : j % (#[Value.int .u8 0] : Array Value).size = 0 := Nat.mod_one j
  rw [hj]
  exact ⟨0, rfl⟩
theorem ones_zero (n m : Nat) : ∀ u ∈ (Builtin.zeroCells #[.int .u8 0] n ++ Builtin.zeroCells #[.int .u8 0] m).toList, IsB u := by
  intro u hu
  have h : ∀ k, u ∈ (Builtin.zeroCells #[.int .u8 0] k).toList → IsB u := by
    intro k hk
    simp only [Builtin.zeroCells, Array.toList_map, Array.toList_range, List.mem_map] at hk
    obtain ⟨j, _, rfl⟩ := hk
    have hj : j % (#[Value.int .u8 0] : Array Value).size = 0 := Nat.mod_one j
    rw [hj]
    exact ⟨0, rfl⟩
  rw [Array.toList_append] at hu
  rcases List.mem_append.1 hu with hu | hu
  · exact h _ hu
  · exact h _ hu
theorem make512 (W : World) : (Instr.makeSlice 22 (.int .i64 0) (.int .i64 512)).run Tryd.prog W = .ok (.slice (some ⟨W.heap.size, 0, none⟩) 0 512) (W.alloc (.cells Z512 5)) := by
  obtain ⟨i5, hi5, hz5, hs5, hb5⟩ := info_parts info5
  have h := run_make_rowN 22 5 i5 _ Tryd.underlying22 hi5 hz5 .i64 .i64 0 512 (by omega) (by rw [hb5]; omega) (by omega) W
  rw [hs5] at h
  exact h
theorem make4 (W : World) : (Instr.makeSlice 71 (.int .i64 0) (.int .i64 4)).run Tryd.prog W = .ok (.slice (some ⟨W.heap.size, 0, none⟩) 0 4) (W.alloc (.cells Z4 22)) := by
  obtain ⟨i22, hi22, hz22, hs22, hb22⟩ := info_parts info22
  have h := run_make_rowN 71 22 i22 _ Tryd.underlying71 hi22 hz22 .i64 .i64 0 4 (by omega) (by rw [hb22]; omega) (by omega) W
  rw [hs22] at h
  exact h

theorem nil_ahead (a : Addr) (w : World) : (nilAhead 241 33 (.pointer (some a)) "Read").run Tryd.prog w = .ok (some false) w := by kernel_rfl
theorem method_read (a : Addr) (w : World) : (method 241 33 (.pointer (some a)) "Read").run Tryd.prog w = .ok (80, .pointer (some a)) w := by kernel_rfl

theorem addr_zero_add (g t : Nat) : (⟨g, 0, none⟩ : Addr).add t = ⟨g, t, none⟩ := by unfold Addr.add; split <;> simp_all

theorem und48 : Tryd.prog.underlying 49 = some (.interface #[("Error", 85)]) := by kernel_rfl
theorem comp125 : (Tryd.prog.info? 125).map (·.comparable) = some true := by kernel_rfl
theorem info139 : (Tryd.prog.info? 139).isSome = true := by kernel_rfl
/-- io.EOF is itself. -/
theorem eof_eq (a : Addr) (w : World) : (binOp .eql 49 (.iface 125 (.pointer (some a))) (.iface 125 (.pointer (some a)))).run Tryd.prog w = .ok (.bool true) w := by
  obtain ⟨i, hi, hc⟩ := Option.map_eq_some_iff.1 comp125
  obtain ⟨j, hj⟩ := Option.isSome_iff_exists.1 info139
  exact run_eql_iface_ptr_same w a und48 Tryd.underlying125 hi hc hj

set_option maxRecDepth 100000 in
set_option maxHeartbeats 6400000 in
theorem readAll_any (gr : Nat) (A : Option Addr) (ad : Addr) (n c : Nat) (p : Int) (src : List Value) (w : World) (a0 : Addr)
    (hn : n ≤ 1000000) (hc : n ≤ c) (hA : 0 < n → A = some ad ∧ ad.block < gr) (hgr : gr < w.heap.size)
    (h : Blk w gr 56 (RdCells A n c 0 p))
    (hsrc : ∀ j, j < n → ∀ u, src[j]? = some u → w.cell? (ad.add j) = some u) (hl : src.length = n) (h1c : ∀ u ∈ src, IsB u)
    (heof : w.cell? ⟨0, 0, none⟩ = some (.iface 125 (.pointer (some a0)))) :
    Calls Tryd.prog 25 #[.iface 33 (.pointer (some ⟨gr, 0, none⟩))] w fun e w' =>
      ∃ g cap cur, e = .returned (.tuple #[.slice (some ⟨g, 0, none⟩) n cap, .nilIface]) ∧ w.heap.size ≤ g ∧ cap ≤ maxLen ∧ Row w' 5 g cap n src cur ∧ Frm (fun k => k = gr) w w' := by
  obtain ⟨i5, hi5, hz5, hs5, hb5⟩ := info_parts info5
  obtain ⟨i22, hi22, hz22, hs22, hb22⟩ := info_parts info22
  have hm1 := make512
  have hm2 := make4
  have HA := Lib.hid hA
  clear hA
  go_enter Tryd.func25, Tryd.ntmps25
  go_wp2
  clear hm1 hm2
  have hRA : RInv w gr A n c src 0 w.heap.size 0 512 Z512.toList 256 (.slice (some ⟨w.heap.size + 1, 0, none⟩) 0 4) [] 0 ((w.alloc (.cells Z512 5)).alloc (.cells Z4 22)) := by
    refine ⟨((Frm.refl _ _).alloc _).alloc _, ⟨p, (h.alloc _).alloc _⟩, Nat.zero_le _, ?_, by simp [size_Z512], ones_Z512, by omega, by omega, by unfold maxLen; omega, Nat.le_refl _, (fun _ h => by cases h), ?_, by simp, rfl, by simp, by omega, by omega, by omega⟩
    · exact Blk.alloc (Blk.new w 5 Z512) _
    · have := World.ownsRow_made (base := w.heap.size) (e := 22) (size := 1) (w.alloc (.cells Z512 5)) Z4 4 (by simp) (by unfold maxLen; omega) (by simp [size_Z4])
      simpa using this
  have HRA := Lib.hid hRA
  have HSRC := Lib.hid hsrc
  have H1C := Lib.hid h1c
  have H1O : Hid (∀ u ∈ src, u.oneCell' = true) := fun u hu => (h1c u hu).one
  have HL := Lib.hid hl
  have HH := Lib.hid h
  clear hRA hsrc h1c hl h
  generalize ((w.alloc (.cells Z512 5)).alloc (.cells Z4 22)) = wa at *
  go_loopg [4, 5, 6, 7] n (fun q v4 v5 v6 v7 wr => ∃ (i g l cap : Nat) (cur : List Value) (nx : Nat) (chs : List (Value × List Value)) (fs : Nat), v4 = .slice (some ⟨g, 0, none⟩) l cap ∧ v5 = .int .i64 (nx : Int) ∧ v7 = .int .i64 (fs : Int) ∧ Hid (q = n - i) ∧ Hid (RInv w gr A n c src i g l cap cur nx v6 chs fs wr))
  case atStart => exact ⟨0, w.heap.size, 0, 512, Z512.toList, 256, [], 0, rfl, rfl, rfl, rfl, HRA⟩
  case round =>
    obtain ⟨i, g, l, cap, cur, nx, chs, fs, rfl, rfl, rfl, HQ, HR⟩ := hrel
    clear HRA
    go_wp2_with fail
    have hcl : ¬ cap = l := by have := HR.out.lc; omega
    have hlcap : l ≤ cap := by have := HR.out.lc; omega
    by_cases hin : i < n
    · obtain ⟨rfl, hne0⟩ := HA.out (by omega)
      clear HA
      obtain ⟨p1, hrd⟩ := HR.out.rd
      have hoff : l + (cap - l) ≤ cur.length := by rw [HR.out.len]; omega
      have hrow := HR.out.row
      have na := nil_ahead ⟨gr, 0, none⟩
      have mr := method_read ⟨gr, 0, none⟩
      have HRD := Lib.hid hrd
      have HROW := Lib.hid hrow
      have hgne : ad.block ≠ gr := by omega
      have hmpos : 0 < cap - l := by omega
      have S1 : Hid (∀ j, j < n → ∀ u, src[j]? = some u → wr.drew.cell? (ad.add j) = some u) := by
        intro j hj u hu
        have hcell := HSRC.out j hj u hu
        exact (HR.out.frm.cell (World.block_lt_of_cell? w _ hcell) (by rw [block_of_add]; exact hgne)).trans hcell
      clear hrd hrow
      obtain ⟨k, hk⟩ : ∃ k, ((src.drop i).take (cap - l)).length = k := ⟨_, rfl⟩
      obtain ⟨cur', hcur⟩ : ∃ x, splice cur l ((src.drop i).take (cap - l)) = x := ⟨_, rfl⟩
      have hk1 : 0 < k := by rw [← hk, List.length_take, List.length_drop, HL.out]; omega
      have hk2 : k ≤ cap - l := by rw [← hk, List.length_take]; omega
      have hk3 : i + k ≤ n := by rw [← hk, List.length_take, List.length_drop, HL.out]; omega
      have HK := Lib.hid hk
      have HCUR := Lib.hid hcur
      clear hk hcur
      go_region_with (first | (go_at_call 80; refine (read_k gr ad n c i p1 g l (cap - l) (cap - l) src cur wr.drew k cur' HK.out HCUR.out hin hn hc hgne hmpos hoff HRD.out HROW.out S1.out HL.out H1O.out).mono ?_; rintro e w1 ⟨rfl, hfrm, hblk, hrow'⟩))
      have HBLK := Lib.hid hblk
      have HROW' := Lib.hid hrow'
      have hc0 := HR.out.c0
      have hcm := HR.out.cm
      unfold maxLen at hcm
      clear hblk hrow' S1 na mr hoff hmpos HRD HROW
      have hfrm := hfrm.undrew
      have R1 := HR.out.read hgr hfrm
      have HLIST := Lib.hid R1.2.2
      have hfsl := HR.out.fs_le
      have hpos := HR.out.pos
      have hnx0 := HR.out.nx0
      have hnxf := HR.out.nxf
      clear R1
      by_cases hroom : (cap : Int) - (l + k) < (cap : Int) / 16
      · go_wp2_with (at_builtin; refine wpList_append_own _ rfl (.tmp 76) (.tmp 78) 71 rfl w.heap.size 22 i22 (.slice none 0 0) 1 24 Tryd.underlying71 hi22 hz22 hs22 hb22 rfl (by decide) u6 chs.length (chs.map (·.1)) rfl (HLIST.out.alloc _) ⟨w1.heap.size, 0, none⟩ 1 1 [.slice (some ⟨g, 0, none⟩) (l + k) cap] rfl rfl ?c1 ?c2 ?c3 ?c4 ?c5 ?_)
        case c1 => intro j u hj; match j, hj with | 0, hj => simp at hj; subst hj; simp [Addr.add]
        case c2 => intro u hu; simp at hu; subst hu; rfl
        case c3 => unfold maxLen; omega
        case c4 => omega
        case c5 => have := HR.out.frm.size; have := hfrm.size; simp; omega
        intro v6' w2 hown hgrow _
        have HOWN := Lib.hid hown
        have HGROW := Lib.hid hgrow
        clear hown hgrow
        go_wp2_with (at_builtin; refine Lib.wpList_append_run _ rfl _ _ 22 3 rfl _ _ rfl rfl _ _ (Lib.run_append_nil_zeros w2 22 3 22 5 i5 (.int .u8 0) .i64 .i64 Tryd.underlying22 Tryd.underlying3 hi5 hz5 nx ?d1 ?d2 ?d3 ?d4) ?_)
        case d1 => omega
        case d2 => omega
        case d3 => omega
        case d4 => rw [hb5]; omega
        go_roundg (n - (i + k))
        case measure => have := HQ.out; omega
        case rel =>
          refine ⟨i + k, w2.heap.size, 0, grownCap w2 nx 0 5, (Builtin.zeroCells #[.int .u8 0] nx ++ Builtin.zeroCells #[.int .u8 0] (grownCap w2 nx 0 5 - nx)).toList, nx + nx / 2, chs ++ [(.slice (some ⟨g, 0, none⟩) (l + k) cap, cur'.take (l + k))], fs + (l + k), rfl, by go_num, by go_num, rfl, ?_⟩
          have hge := grownCap_ge w2 nx 0 5
          have hle := grownCap_le_maxLen w2 nx 0 5 (by unfold maxLen; omega)
          exact HR.out.next hgr HK.out HCUR.out hk1 hk3 hk2 hroom hfrm HBLK.out HROW'.out _ v6' HOWN.out HGROW.out _ _ (ones_zero _ _) (by simp only [Array.size_append, size_zeroCells, List.size_toArray, List.length_cons, List.length_nil]; omega) hge hle
      · go_wp2_with fail
        go_roundg (n - (i + k))
        case measure => have := HQ.out; omega
        case rel =>
          refine ⟨i + k, g, l + k, cap, cur', nx, chs, fs, rfl, rfl, rfl, rfl, ?_⟩
          exact HR.out.keep hgr H1C.out HK.out HCUR.out hk3 (by omega) hfrm HBLK.out HROW'.out
    · obtain ⟨p1, hrd⟩ := HR.out.rd
      have HRD := Lib.hid hrd
      have hni : n ≤ i := by omega
      have hi1 : i ≤ 1000000 := by have := HR.out.hi; omega
      have hg0 : wr.drew.cell? ⟨0, 0, none⟩ = some (.iface 125 (.pointer (some a0))) := by
        refine (HR.out.frm.cell (World.block_lt_of_cell? w _ heof) (fun e => ?_)).trans heof
        have h0 := Blk.cell HH.out 0
        have e0 : gr = 0 := e.symm
        rw [e0, heof] at h0
        cases h0
      have na := nil_ahead ⟨gr, 0, none⟩
      have mr := method_read ⟨gr, 0, none⟩
      clear hrd
      go_region_with (first | (go_at_call 80; refine (read_end gr A n c i p1 _ _ wr.drew hni hn hi1 HRD.out hg0).mono ?_; rintro e w1 ⟨rfl, hsame⟩))
      have hsame := hsame.undrew
      have hR1 := HR.out.same hsame
      have HR1 := Lib.hid hR1
      have hg1 : w1.cell? ⟨0, 0, none⟩ = some (.iface 125 (.pointer (some a0))) := (hsame.cell (World.block_lt_of_cell? wr _ hg0) (fun h => h)).trans hg0
      obtain ⟨A6, c6, hu6⟩ := HR.out.listForm
      subst hu6
      have heql := eof_eq a0
      clear hR1 hg0 na mr hsame HRD
      have hlt := HR1.out.total hin HL.out
      have hfl : fs + l ≤ 1000000 := by omega
      have HT := Lib.hid hlt
      clear hlt
      by_cases hch : chs.length = 0
      · have hch' : ((chs.length : Int) == 0) = true := by simp [hch]
        have HCH := Lib.hid hch
        clear hch
        go_wp2_with fail
        go_ret2
        have hnil : chs = [] := List.eq_nil_of_length_eq_zero HCH.out
        subst hnil
        have hR := HR1.out
        obtain ⟨hsum, htext⟩ := HT.out
        have hfs := hR.sum
        simp at hfs htext
        have hln : l = n := by omega
        subst hln
        have hlen := hR.len
        have hlc := hR.lc
        exact ⟨g, cap, cur, rfl, hR.new, hR.cm, ⟨hR.row, hlen, by omega, htext, hR.ones⟩, hR.frm⟩
      · have hch' : ((chs.length : Int) == 0) = false := by simp [hch]
        have hch0 : 0 < chs.length := by omega
        obtain ⟨g6, c6', he6, hg6⟩ := HR1.out.listSome hch0
        obtain ⟨rfl, rfl⟩ : A6 = some ⟨g6, 0, none⟩ ∧ c6 = c6' := by injection he6 with h1 h2 h3; exact ⟨h1, h3⟩
        have hpos := HR1.out.pos
        have hn0 : 0 < n := by have := HT.out.1; omega
        clear hch
        obtain ⟨W3, hW3⟩ : ∃ x : Array Value, x = Builtin.zeroCells #[.int .u8 0] n ++ Builtin.zeroCells #[.int .u8 0] (grownCap w1 n 0 5 - n) := ⟨_, rfl⟩
        have hrunz := Lib.run_append_nil_zeros w1 22 3 22 5 i5 (.int .u8 0) .i64 .i64 Tryd.underlying22 Tryd.underlying3 hi5 hz5 n hn0 (by omega) (by omega) (by rw [hb5]; omega)
        have hzc : (Value.int .u8 0).cells = #[.int .u8 0] := rfl
        rw [hzc, ← hW3] at hrunz
        have HRZ := Lib.hid hrunz
        have hge := grownCap_ge w1 n 0 5
        have hle := grownCap_le_maxLen w1 n 0 5 (by unfold maxLen; omega)
        have hsz3 : W3.size = grownCap w1 n 0 5 := by rw [hW3]; simp only [Array.size_append, size_zeroCells, List.size_toArray, List.length_cons, List.length_nil]; omega
        have hones : ∀ u ∈ W3.toList, IsB u := by rw [hW3]; exact ones_zero _ _
        clear hrunz hzc hW3
        generalize hcf : grownCap w1 n 0 5 = cf at *
        clear hcf
        have hcf0 : ¬ cf = 0 := by omega
        have hsum := HT.out.1
        have HSUM := Lib.hid hsum
        clear hsum
        go_wp2_with (at_builtin; refine Lib.wpList_append_run _ rfl _ _ 22 3 rfl (.slice none 0 0) (.int .i64 n) rfl (by show Value.int .i64 ((fs : Int) + l) = _; congr 1; have := HSUM.out; omega) _ _ HRZ.out ?_)
        have hrow0 : Row (w1.alloc (.cells W3 5)).drew 5 w1.heap.size cf 0 [] W3.toList := ⟨Blk.new w1 5 W3, by simp [hsz3], Nat.zero_le _, by simp, hones⟩
        have HOWN0 := Lib.hid hrow0
        have HFR0 : Hid (Frm (fun _ => False) w1 (w1.alloc (.cells W3 5)).drew) := ((Frm.refl _ w1).alloc _).drew
        have hcfm : cf ≤ maxLen := hle
        have HCF := Lib.hid hcfm
        have hnw1 : w.heap.size ≤ w1.heap.size := HR1.out.frm.size
        clear hrow0 HRZ hsz3 hle hcf0 hones hcfm
        generalize hfw : (w1.alloc (.cells W3 5)).drew = wf at *
        generalize W3.toList = cur0 at *
        clear hfw
        obtain ⟨gf, hgf⟩ : ∃ x, x = w1.heap.size := ⟨_, rfl⟩
        rw [← hgf] at HOWN0 hnw1 ⊢
        have HGF := Lib.hid hgf
        clear hgf
        go_loopg [10, 54] chs.length (fun q v10 v54 w' => ∃ (j m : Nat) (curj : List Value), v54 = .int .i64 (j : Int) ∧ v10 = .slice (some ⟨gf, 0, none⟩) m cf ∧ Hid (q = chs.length - j) ∧ j ≤ chs.length ∧ Hid (Row w' 5 gf cf m ((chs.take j).map (·.2)).flatten curj) ∧ Hid (Frm (fun _ => False) w1 w'))
        case atStart => exact ⟨0, 0, cur0, rfl, rfl, rfl, Nat.zero_le _, by simpa using HOWN0, HFR0⟩
        case round =>
          obtain ⟨j, m, curj, rfl, rfl, HQ2, hj, HOWNJ, HFRJ⟩ := hrel
          clear HOWN0 HFR0
          have hml0 : m = (((chs.take j).map (·.2)).flatten).length := by have h1 := HOWNJ.out.top; have h2 := HOWNJ.out.len; have h3 := HOWNJ.out.le; rw [← h1, List.length_take]; omega
          by_cases hjl : j < chs.length
          · have hR := HR1.out
            obtain ⟨gc, lc, cc, hv, hlc, hcells, hgc⟩ := hR.chunkAt hjl
            have hcell : wr.cell? ⟨g6, j, none⟩ = some (.slice (some ⟨gc, 0, none⟩) lc cc) := by
              have := hR.listCell rfl hjl
              rw [hv] at this
              exact (HFRJ.out.cell hg6 (fun h => h)).trans this
            have hch2 : ∀ t u, chs[j].2[t]? = some u → wr.cell? ((⟨gc, 0, none⟩ : Addr).add t) = some u := fun t u hu => (HFRJ.out.cell (by rw [block_of_add]; exact hgc) (fun h => h)).trans (hcells t u hu)
            have h1b : ∀ u ∈ chs[j].2, IsB u := fun u hu => H1C.out u (chunk_mem HT.out.2 hjl hu)
            have hlen2 := chunk_len HT.out.2 hjl
            have hbnd : m + lc ≤ n := by have := HL.out; omega
            have HSN := Lib.hid (chunk_snoc hjl)
            obtain ⟨nws, hnws⟩ : ∃ x, x = chs[j].2 := ⟨_, rfl⟩
            obtain ⟨xsj, hxsj⟩ : ∃ x, x = ((chs.take j).map (·.2)).flatten := ⟨_, rfl⟩
            have hown2 := HOWNJ.out
            rw [← hxsj] at hown2
            have HOWN2 := Lib.hid hown2
            have HXS := Lib.hid hxsj
            rw [← hnws] at hlc hch2 h1b
            have HNW := Lib.hid hnws
            have HLC := Lib.hid hlc
            have HC2 := Lib.hid hch2
            have HB1 := Lib.hid h1b
            clear hR hv hcells hch2 h1b hnws hlc hlen2 hcl hlcap hown2 hxsj hml0
            go_wp2_with (at_builtin; refine wpList_append_row _ rfl (.tmp 58) (.tmp 59) 22 rfl 5 i5 Tryd.underlying22 hi5 hs5 gf m cf xsj curj rfl HOWN2.out ⟨gc, 0, none⟩ lc cc nws rfl HLC.out HC2.out HB1.out (by omega) ?_)
            intro w2 HOWN hgrow
            have HGROW := Lib.hid hgrow
            clear hgrow
            go_wp2
            go_roundg (chs.length - (j + 1))
            case measure => have := HQ2.out; omega
            case rel =>
              refine ⟨j + 1, m + lc, splice curj m nws, by go_num, rfl, rfl, hjl, ?_, ?_⟩
              · rw [HSN.out, ← HXS.out, ← HNW.out]
                exact HOWN
              · exact HFRJ.out.trans' HGROW.out (fun x hx e => by
                  have := HGF.out
                  omega)
          · have hjj : j = chs.length := by omega
            subst hjj
            have hR := HR1.out
            have hrow : wr.heap[g]? = some (.cells cur.toArray 5 (0, 0)) := (HFRJ.out.block g hR.g_lt (fun h => h)).trans hR.row
            have hlc := hR.lc
            have hlen := hR.len
            have hcc : ∀ t u, (cur.take l)[t]? = some u → wr.cell? ((⟨g, 0, none⟩ : Addr).add t) = some u := by
              intro t u hu
              rw [addr_zero_add, cell_of_row wr g t _ 5 (0, 0) hrow]
              rw [List.getElem?_take] at hu
              split at hu
              · simpa using hu
              · cases hu
            have h1b : ∀ u ∈ cur.take l, IsB u := fun u hu => H1C.out u (by rw [← HT.out.2]; exact List.mem_append_right _ hu)
            have hll : (cur.take l).length = l := by rw [List.length_take]; omega
            have htake : chs.take chs.length = chs := List.take_of_length_le (Nat.le_refl _)
            have hown2 := HOWNJ.out
            rw [htake] at hown2 hml0
            have hml : m = fs := by rw [hml0, ← hR.sum]
            have hbnd : m + l = n := by have := HSUM.out; omega
            obtain ⟨nws, hnws⟩ : ∃ x, x = cur.take l := ⟨_, rfl⟩
            obtain ⟨xsj, hxsj⟩ : ∃ x, x = ((chs.map (·.2)).flatten) := ⟨_, rfl⟩
            rw [← hnws] at hcc h1b hll
            rw [← hxsj] at hown2
            have HOWN2 := Lib.hid hown2
            have HXS := Lib.hid hxsj
            have HNW := Lib.hid hnws
            have HLL := Lib.hid hll
            have HCC := Lib.hid hcc
            have HB1 := Lib.hid h1b
            have HBND := Lib.hid hbnd
            have hb1 : m + l ≤ cf := by omega
            clear hR hrow hlc hlen hcc h1b hll htake hown2 hml hml0 hbnd hnws hxsj hcl hlcap hch' hch0
            go_wp2_with (at_builtin; refine wpList_append_row _ rfl (.tmp 62) (.tmp 63) 22 rfl 5 i5 Tryd.underlying22 hi5 hs5 gf m cf xsj curj rfl HOWN2.out ⟨g, 0, none⟩ l cap nws rfl HLL.out HCC.out HB1.out hb1 ?_)
            intro w2 HOWN hgrow
            have HGROW := Lib.hid hgrow
            clear hgrow
            go_wp2
            go_ret2
            have hb := HBND.out
            have hfin : Frm (fun x => x = gr) w w2 := HR1.out.frm.trans' (HFRJ.out.trans' HGROW.out (fun x hx e => by
              have := HGF.out
              omega)) (fun x _ h => h.elim)
            have ho : Row w2 5 gf cf (m + l) (xsj ++ nws) (splice curj m nws) := HOWN
            rw [HXS.out, HNW.out, HT.out.2, hb] at ho
            refine ⟨gf, cf, _, ?_, hnw1, HCF.out, ho, hfin⟩
            show Ending.returned (.tuple #[.slice (some ⟨gf, 0, none⟩) (m + l) cf, .nilIface]) = _
            rw [hb]
end Go.Proofs.YtdfafjfcnbfmnaaDoor
