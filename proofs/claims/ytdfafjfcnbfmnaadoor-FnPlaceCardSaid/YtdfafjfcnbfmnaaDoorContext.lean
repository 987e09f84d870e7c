/- The line of text about an error. -/
import Derived.Test.YtdfafjfcnbfmnaaDoorSmall
import Derived.Test.YtdfafjfcnbfmnaaDoorNew
import Derived.Deep.DeepCutAuto
import Derived.Deep.CutBlock
set_option linter.unusedVariables false
namespace Go.Proofs.YtdfafjfcnbfmnaaDoor
open Go.RowKit

/-- The bytes of which the statements speak: from blank to tilde; or an end of a line. -/
def Plain (b : UInt8) : Prop := 32 ≤ b.toNat ∧ b.toNat ≤ 126
def PlainText (bs : List UInt8) : Prop := ∀ b ∈ bs, b.toNat = 10 ∨ b.toNat = 13 ∨ Plain b

theorem Buf.byte {w : World} {a : Addr} {bs : List UInt8} (hb : Buf w a (bvals bs)) {q : Nat} (hq : q < bs.length) : w.cell? (a.add q) = some (.int .u8 (bs[q].toNat : Int)) :=
  hb q _ (by rw [List.getElem?_append_left (by simpa [bvals] using hq)]; simp [bvals, hq])
theorem Buf.last {w : World} {a : Addr} {bs : List UInt8} (hb : Buf w a (bvals bs)) : w.cell? (a.add bs.length) = some (.int .u8 0) :=
  hb bs.length _ (by rw [List.getElem?_append_right (by simp [bvals])]; simp [bvals])
theorem Buf.frm {S : Nat → Prop} {w w' : World} {a : Addr} {src : List Value} (hb : Buf w a src) (hf : Frm S w w') (ha : ¬ S a.block) : Buf w' a src := fun j u hu => by
  have h := hb j u hu
  exact (hf.cell (World.block_lt_of_cell? w _ h) (by rw [block_of_add]; exact ha)).trans h
theorem Graph.frm {S : Nat → Prop} {w w' : World} (h : Graph w) (hf : Frm S w w') (h1 : ¬ S 1) : Graph w' := fun r h0 h2 => by
  obtain ⟨p, hp, hb⟩ := h r h0 h2
  exact ⟨p, (hf.cell (World.block_lt_of_cell? w _ hp) h1).trans hp, hb⟩

theorem peek0 (g m c pos start : Nat) (a : Addr) (r : Value) (b : Int) (w : World) (hk : pos < m) (hm : m ≤ 1000000)
    (h : Inp w g a m c r pos start) (hb : w.cell? (a.add pos) = some (.int .u8 b)) :
    Calls Tryd.prog 17 #[.pointer (some ⟨g, 0, none⟩), .int .i64 0] w fun e w' => e = .returned (.int .u8 b) ∧ w = w' := by
  have := peek_any g m c pos start 0 a r b w (by omega) hm h (by rw [Nat.zero_add]; exact hb)
  exact this
theorem peek1 (g m c pos start : Nat) (a : Addr) (r : Value) (b : Int) (w : World) (hk : pos + 1 < m) (hm : m ≤ 1000000)
    (h : Inp w g a m c r pos start) (hb : w.cell? (a.add (pos + 1)) = some (.int .u8 b)) :
    Calls Tryd.prog 17 #[.pointer (some ⟨g, 0, none⟩), .int .i64 1] w fun e w' => e = .returned (.int .u8 b) ∧ w = w' := by
  have := peek_any g m c pos start 1 a r b w (by omega) hm h (by rw [Nat.add_comm]; exact hb)
  exact this
theorem move1 (g m c pos start : Nat) (a : Addr) (r : Value) (w : World) (hk : pos + 1 ≤ 1000000)
    (h : Inp w g a m c r pos start) :
    Calls Tryd.prog 20 #[.pointer (some ⟨g, 0, none⟩), .int .i64 1] w fun e w' => e = .returned (.tuple #[]) ∧ Inp w' g a m c r (pos + 1) start ∧ Frm (fun x => x = g) w w' := by
  refine (move_any g m c pos start 1 a r w hk h).mono ?_
  rintro e w' ⟨rfl, rfl⟩
  exact ⟨rfl, h.moved (pos + 1), (Frm.refl (fun x => x = g) w).setCell (p := ⟨g, 1, none⟩) (fun _ => rfl) _⟩
theorem move2 (g m c pos start : Nat) (a : Addr) (r : Value) (w : World) (hk : pos + 2 ≤ 1000000)
    (h : Inp w g a m c r pos start) :
    Calls Tryd.prog 20 #[.pointer (some ⟨g, 0, none⟩), .int .i64 2] w fun e w' => e = .returned (.tuple #[]) ∧ Inp w' g a m c r (pos + 2) start ∧ Frm (fun x => x = g) w w' := by
  refine (move_any g m c pos start 2 a r w hk h).mono ?_
  rintro e w' ⟨rfl, rfl⟩
  exact ⟨rfl, h.moved (pos + 2), (Frm.refl (fun x => x = g) w).setCell (p := ⟨g, 1, none⟩) (fun _ => rfl) _⟩

/-- From start to q there are plain bytes alone. -/
def Sel (bs : List UInt8) (start q : Nat) : Prop := ∀ j, start ≤ j → j < q → ∃ b, bs[j]? = some b ∧ Plain b

theorem sel_plain {bs L : List UInt8} {start q : Nat} (h : Sel bs start q) (hq : q ≤ bs.length) (hL : L = (bs.drop start).take (q - start)) : ∀ b ∈ L, Plain b := by
  intro b hb
  obtain ⟨j, hj, rfl⟩ := List.mem_iff_getElem.1 hb
  subst hL
  simp only [List.length_take, List.length_drop] at hj
  obtain ⟨x, hx, hp⟩ := h (start + j) (by omega) (by omega)
  have : ((bs.drop start).take (q - start))[j]'(by simp only [List.length_take, List.length_drop]; omega) = x := by
    have h2 := (List.getElem?_eq_some_iff.1 hx).2
    rw [← h2]
    simp
  rw [this]
  exact hp
theorem addr_add (g o t : Nat) : (⟨g, o, none⟩ : Addr).add t = ⟨g, o + t, none⟩ := by unfold Addr.add; split <;> simp_all
theorem runes_exist (w : World) (G off : Nat) : ∀ m : Nat, (∀ j, j < m → ∃ x : Nat, w.cell? ⟨G, off + j, none⟩ = some (.int .i32 (x : Int))) →
    ∃ zs : List Int, zs.length = m ∧ ∀ j, j < zs.length → w.cell? ((⟨G, off, none⟩ : Addr).add j) = some (.int .i32 (zs.getD j 0))
  | 0, _ => ⟨[], rfl, fun j hj => absurd hj (by simp)⟩
  | m + 1, h => by
    obtain ⟨zs, hl, hz⟩ := runes_exist w G off m (fun j hj => h j (by omega))
    obtain ⟨x, hx⟩ := h m (by omega)
    refine ⟨zs ++ [(x : Int)], by simp [hl], fun j hj => ?_⟩
    simp only [List.length_append, List.length_cons, List.length_nil] at hj
    by_cases hjm : j < zs.length
    · rw [hz j hjm]
      simp [List.getD, List.getElem?_append_left hjm]
    · obtain rfl : j = zs.length := by omega
      rw [addr_add, hl, hx]
      simp [List.getD, ← hl]
/-- The text of the shown runes, in every world in which they lie. -/
theorem runes_text (w : World) (G off m c : Nat) (hm : m ≤ 5000) (h : ∀ j, j < m → ∃ x : Nat, w.cell? ⟨G, off + j, none⟩ = some (.int .i32 (x : Int))) :
    ∃ S : ByteArray, S.size ≤ 20000 ∧ ∀ W : World, Frm (fun _ => False) w W → (convert 52 9 (.slice (some ⟨G, off, none⟩) m c)).run Tryd.prog W = .ok (.string S) W := by
  obtain ⟨zs, hl, hz⟩ := runes_exist w G off m h
  refine ⟨runesBytes (zs.take m), ?_, fun W hW => ?_⟩
  · have := runesBytes_size_le (zs.take m)
    rw [List.length_take] at this
    omega
  · exact run_convert_runes W 52 9 21 ⟨G, off, none⟩ m c zs (by omega) Tryd.underlying52 Tryd.underlying21 Tryd.underlying9 (fun j hj => (hW.cell (World.block_lt_of_cell? w _ (hz j hj)) (fun h => h)).trans (hz j hj))
theorem tab_frm {S : Nat → Prop} {w w' : World} {n : String} {k : IntKind} {zs : List Int} (h : Lib.TabIs Tryd.prog w n k zs) (g : Nat) (hg : Tryd.prog.globalNamed n = some g) (hf : Frm S w w') (hlt : g < w.heap.size) (hS : ¬ S g) : Lib.TabIs Tryd.prog w' n k zs := by
  unfold Lib.TabIs World.var? at *
  rw [← h, hg]
  simp only [Option.bind_some]
  rw [hf.block g hlt hS]
theorem gPow : Tryd.prog.globalNamed "internal/strconv.uint64pow10" = some 4 := by kernel_rfl

/-- Behind ad lie the bytes L. -/
def ByteRow (w : World) (ad : Addr) (L : List UInt8) : Prop := ∀ (j : Nat) (hj : j < L.length), w.cell? (ad.add j) = some (.int .u8 (L[j].toNat : Int))

/-- The selection as a text. -/
theorem lexeme_text (g : Nat) (a : Addr) (bs : List UInt8) (c pos start : Nat) (r : Value) (w : World) (hn : bs.length ≤ 5000) (hc : bs.length + 1 ≤ c) (hp : start ≤ pos) (hpn : pos ≤ bs.length)
    (hi : Inp w g a (bs.length + 1) c r pos start) (hb : Buf w a (bvals bs)) (L : List UInt8) (hL : L = (bs.drop start).take (pos - start)) (m : Nat) (hm : L.length = m) :
    Calls Tryd.prog 22 #[.pointer (some ⟨g, 0, none⟩)] w fun e w' => ∃ ad, e = .returned (.slice (some ad) m m) ∧ Frm (fun _ => False) w w' ∧ ByteRow w' ad L := by
  have hLl : L.length = pos - start := by rw [hL, List.length_take, List.length_drop]; omega
  obtain rfl : m = pos - start := by omega
  refine (lexeme_any g (bs.length + 1) c pos start a r w hp (by omega) (by omega) hi).mono ?_
  rintro e w' ⟨rfl, n, rfl⟩
  refine ⟨_, rfl, (Frm.refl _ w).drewN n, ?_⟩
  intro j hj
  have hne : pos ≠ start := by omega
  rw [if_neg hne, add_of_add]
  have hjb : start + j < bs.length := by omega
  have hcell := hb.byte hjb
  have hLj : L[j] = bs[start + j] := by
    subst hL
    simp
  rw [hLj]
  exact hcell

set_option maxRecDepth 100000 in
set_option maxHeartbeats 800000 in
theorem context_any (g : Nat) (a : Addr) (bs : List UInt8) (c pos start line col : Nat) (r : Value) (t0 : TypeId) (x0 : Value) (w : World) (hn : bs.length ≤ 5000) (hc : bs.length + 1 ≤ c) (hp : start ≤ pos) (hpn : pos ≤ bs.length) (hl : line ≤ 5001) (hcol : col ≤ 5001)
    (hi : Inp w g a (bs.length + 1) c r pos start) (hb : Buf w a (bvals bs)) (ht : PlainText bs) (hsel : Sel bs start pos) (hag : a.block ≠ g) (hg1 : 1 < g)
    (hgr : Graph w) (htab : Lib.TabIs Tryd.prog w "internal/strconv.uint64pow10" .u64 Lib.pow10Tab) (hg4 : 4 < g) (hgw : g < w.heap.size) (hv : w.cell? ⟨0, 0, none⟩ = some (.iface t0 x0)) :
    Calls Tryd.prog 23 #[.pointer (some ⟨g, 0, none⟩), .int .i64 (line : Int), .int .i64 (col : Int)] w fun e w' => (∃ s : ByteArray, e = .returned (.string s)) ∧ Frm (fun x => x = g) w w' := by
  have HI := Lib.hid hi
  have HB := Lib.hid hb
  have HT := Lib.hid ht
  have HS := Lib.hid hsel
  have HG := Lib.hid hgr
  have HTAB := Lib.hid htab
  have HV := Lib.hid hv
  clear hi hb ht hsel hgr htab hv
  go_enter Tryd.func23, Tryd.ntmps23
  go_upto_block 0 with (fail)
  go_cut [7] (fun v7 wc => ∃ q : Nat, pos ≤ q ∧ q ≤ bs.length ∧ Hid (Inp wc g a (bs.length + 1) c r q start) ∧ Hid (Sel bs start q) ∧ Hid (Frm (fun x => x = g) w wc))
  case first =>
    go_wp2_with fail
    go_loopg [7] (bs.length - pos) (fun k v7 wr => ∃ q : Nat, pos ≤ q ∧ q ≤ bs.length ∧ Hid (k = bs.length - q) ∧ Hid (Inp wr g a (bs.length + 1) c r q start) ∧ Hid (Sel bs start q) ∧ Hid (Frm (fun x => x = g) w wr))
    case atStart => exact ⟨pos, Nat.le_refl _, hpn, rfl, HI, HS, Frm.refl _ _⟩
    case round =>
      obtain ⟨q, hq1, hq2, HK, HIq, HSq, HF⟩ := hrel
      have HBq : Hid (Buf wr a (bvals bs)) := HB.out.frm HF.out hag
      have HVq : Hid (wr.cell? ⟨0, 0, none⟩ = some (.iface t0 x0)) := (HF.out.cell (World.block_lt_of_cell? w _ HV.out) (fun e => by have : (0 : Nat) = g := e; omega)).trans HV.out
      by_cases hqn : q < bs.length
      · have hbq := HT.out bs[q] (List.getElem_mem hqn)
        have HCB := Lib.hid (HBq.out.byte hqn)
        obtain ⟨bq, hbb⟩ : ∃ x, x = bs[q].toNat := ⟨_, rfl⟩
        rw [← hbb] at hbq HCB
        unfold Plain at hbq
        rw [← hbb] at hbq
        have hz : ((bq : Int) == 0) = false := by rw [beq_eq_false_iff_ne]; omega
        by_cases hnl : bq = 10 ∨ bq = 13
        · by_cases hten : bq = 10
          · have h10 : ((bq : Int) == 10) = true := by rw [beq_iff_eq]; omega
            clear hbb hbq hnl hten
            go_wp2_with (first | (go_at_call 17; refine (peek0 g _ c q start a r bq wr (by omega) (by omega) HIq.out HCB.out).mono ?_; rintro e w' ⟨rfl, rfl⟩))
            go_meet
            case rel => exact ⟨q, hq1, hq2, HIq, HSq, HF⟩
          · have h10 : ((bq : Int) == 10) = false := by rw [beq_eq_false_iff_ne]; omega
            have h13 : ((bq : Int) == 13) = true := by rw [beq_iff_eq]; omega
            clear hbb hbq hnl hten
            go_wp2_with (first | (go_at_call 17; refine (peek0 g _ c q start a r bq wr (by omega) (by omega) HIq.out HCB.out).mono ?_; rintro e w' ⟨rfl, rfl⟩))
            go_meet
            case rel => exact ⟨q, hq1, hq2, HIq, HSq, HF⟩
        · have h10 : ((bq : Int) == 10) = false := by rw [beq_eq_false_iff_ne]; omega
          have h13 : ((bq : Int) == 13) = false := by rw [beq_eq_false_iff_ne]; omega
          have HPL : Hid (Plain bs[q]) := by unfold Plain; rw [← hbb]; exact ⟨by omega, by omega⟩
          clear hbb hbq hnl
          go_wp2_with (first | (go_at_call 17; refine (peek0 g _ c q start a r bq wr (by omega) (by omega) HIq.out HCB.out).mono ?_; rintro e w' ⟨rfl, rfl⟩) | (go_at_call 20; refine (move1 g _ c q start a r wr (by omega) HIq.out).mono ?_; rintro e w' ⟨rfl, hinp, hfrm⟩))
          go_roundg (bs.length - (q + 1))
          case measure => have := HK.out; omega
          case rel =>
            refine ⟨q + 1, by omega, by omega, rfl, hinp, ?_, HF.out.trans hfrm⟩
            intro j h1 h2
            by_cases hj : j < q
            · exact HSq.out j h1 hj
            · obtain rfl : j = q := by omega
              exact ⟨bs[j], List.getElem?_eq_getElem hqn, HPL.out⟩
      · have hqe : q = bs.length := by omega
        have HCB : Hid (wr.cell? (a.add q) = some (.int .u8 0)) := by rw [hqe]; exact HBq.out.last
        have hq3 : bs.length + 1 ≤ q + 1 := by omega
        clear hqe
        go_wp2_with (first | (go_at_call 17; refine (peek0 g _ c q start a r 0 wr (by omega) (by omega) HIq.out HCB.out).mono ?_; rintro e w' ⟨rfl, rfl⟩) | (go_at_call 19; refine (err_end g _ c q start a r (.iface t0 x0) wr (by omega) hq3 (by omega) HIq.out HVq.out).mono ?_; rintro e w' ⟨rfl, nd, rfl⟩))
        go_meet
        case rel => exact ⟨q, hq1, hq2, HIq.out.drewN nd, HSq, HF.out.drewN nd⟩
  case rest =>
    obtain ⟨q, hq1, hq2, HIq, HSq, HF⟩ := hcut
    obtain ⟨L, hL⟩ : ∃ L, L = (bs.drop start).take (q - start) := ⟨_, rfl⟩
    obtain ⟨m, hm⟩ : ∃ m, L.length = m := ⟨_, rfl⟩
    have hmb : m ≤ 5000 := by rw [← hm, hL, List.length_take, List.length_drop]; omega
    have HBq : Hid (Buf wc a (bvals bs)) := HB.out.frm HF.out hag
    have hplain := sel_plain HSq.out hq2 hL
    have hasc : ∀ b ∈ L, b.toNat < 128 := fun b hb => by have := hplain b hb; unfold Plain at this; omega
    have HPLN := Lib.hid hplain
    clear hplain
    have HM := Lib.hid hm
    have HLD := Lib.hid hL
    have HASC := Lib.hid hasc
    clear hm hL hasc
    go_wp2_with fail
    refine (lexeme_text g a bs c q start r wc hn hc (by omega) hq2 HIq.out HBq.out L HLD.out m HM.out).mono ?_
    rintro e w1 ⟨ad, rfl, hf1, hrow⟩
    have hcv := run_convert_bytes_back (P := Tryd.prog) w1 22 9 5 ad m L Tryd.underlying22 Tryd.underlying5 Tryd.underlying9 hrow
    rw [HM.out] at hcv
    obtain ⟨cap, cs, hcr, hcap1, hcap2, hcsz, hcs⟩ := run_plain_runes w1 L HASC.out (by rw [HM.out]; omega)
    rw [HM.out] at hcr
    have HCS := Lib.hid hcs
    have HCSZ := Lib.hid hcsz
    have HF1 := Lib.hid hf1
    clear hcs hcsz hf1 hrow
    go_upto_if 41 with (fail)
    have hfr2 : Frm (fun x => x = g) w (w1.alloc (.cells cs 21)).drew := (HF.out.trans' HF1.out (fun _ _ h => h.elim)).alloc _ |>.drew
    have hcell2 : ∀ j, j < m → ∃ x : Nat, 32 ≤ x ∧ x ≤ 126 ∧ (w1.alloc (.cells cs 21)).drew.cell? ⟨w1.heap.size, j, none⟩ = some (.int .i32 (x : Int)) := by
      intro j hj
      have hjL : j < L.length := by rw [HM.out]; exact hj
      have hp := HPLN.out L[j] (List.getElem_mem hjL)
      unfold Plain at hp
      refine ⟨L[j].toNat, hp.1, hp.2, ?_⟩
      refine (Blk.cell (Blk.new w1 21 cs) j).trans ?_
      exact HCS.out j _ (by simp [rvals, hjL])
    have HF2 := Lib.hid hfr2
    have HC2 := Lib.hid hcell2
    have hcm : m ≤ cap := by have := HM.out; omega
    have hcap0 : m ≠ 0 → ¬ cap = 0 := by omega
    unfold maxLen at hcap2
    clear hfr2 hcell2 hcr hcv hcap1
    generalize (w1.alloc (.cells cs 21)).drew = w2 at *
    generalize w1.heap.size = G at *
    go_cut [2, 8, 11, 12] (fun v2 v8 v11 v12 wd => ∃ (col' off m' cap' : Nat) (s1 s2 : ByteArray), v2 = .int .i64 (col' : Int) ∧ col' ≤ 5100 ∧ v8 = .slice (some ⟨G, off, none⟩) m' cap' ∧ off + m' ≤ m ∧ v11 = .string s1 ∧ s1.size ≤ 3 ∧ v12 = .string s2 ∧ s2.size ≤ 3 ∧ Hid (w2 = wd))
    case first =>
      go_wp2
      · go_meet
        case rel => exact ⟨col, 0, 57, cap, ⟨#[]⟩, ⟨#[46, 46, 46]⟩, rfl, by omega, rfl, by omega, rfl, by decide, rfl, by decide, rfl⟩
      · go_meet
        case rel => exact ⟨col - (m - 47), m - 20 - 20 - 4, m - (m - 20 - 20 - 4), cap - (m - 20 - 20 - 4), ⟨#[46, 46, 46]⟩, ⟨#[]⟩, by go_num, by omega, rfl, by omega, rfl, by decide, rfl, by decide, rfl⟩
      · go_meet
        case rel => exact ⟨24, col - 20 - 1, col + 20 - (col - 20 - 1), cap - (col - 20 - 1), ⟨#[46, 46, 46]⟩, ⟨#[46, 46, 46]⟩, rfl, by omega, rfl, by omega, rfl, by decide, rfl, by decide, rfl⟩
      · go_meet
        case rel => exact ⟨col, 0, m, cap, ⟨#[]⟩, ⟨#[]⟩, rfl, by omega, rfl, by omega, rfl, by decide, rfl, by decide, rfl⟩
    case rest =>
      obtain ⟨col', off, m', cap', s1, s2, rfl, hcol', rfl, hoff, rfl, hs1, rfl, hs2, hw2⟩ := hcut
      obtain rfl := hw2.out
      clear hw2
      have HGR2 : Hid (Graph w2) := HG.out.frm HF2.out (fun e => by have : (1 : Nat) = g := e; omega)
      go_wp2_with fail
      go_loop [89] (fun v => ∃ k : Nat, k ≤ m' ∧ v = .int .i64 (k : Int)) (fun v => m' - (intOf v).toNat)
      case atStart => exact ⟨0, Nat.zero_le _, rfl⟩
      case round =>
        obtain ⟨k, hk, rfl⟩ := hrel
        by_cases hkm : k < m'
        · obtain ⟨x, hx1, hx2, hx3⟩ := HC2.out (off + k) (by omega)
          go_wp2_with (go_at_call 29; refine (isGraphic_plain x w2 hx1 hx2 HGR2.out).mono ?_; rintro e w' ⟨rfl, rfl⟩)
          go_round
          case rel => exact ⟨k + 1, by omega, by go_num⟩
          case measure => simp [intOf]; omega
        · obtain ⟨S, hS, hcv⟩ := runes_text w2 G off m' cap' (by omega) (fun j hj => by
            obtain ⟨x, _, _, hx⟩ := HC2.out (off + j) (by omega)
            exact ⟨x, hx⟩)
          have hcv0 := hcv w2.drew (Frm.refl _ w2).drew
          have HCV := Lib.hid hcv
          have HTAB2 : Hid (Lib.TabIs Tryd.prog w2.drew "internal/strconv.uint64pow10" .u64 Lib.pow10Tab) := tab_frm HTAB.out 4 gPow HF2.out.drew (by omega) (fun e => by have : (4 : Nat) = g := e; omega)
          have HFD : Hid (Frm (fun _ => False) w2 w2.drew) := (Frm.refl _ w2).drew
          clear hcv
          go_wp2_with fail
          go_cut [6] (fun v6 wd => ∃ s6 : ByteArray, v6 = .string s6 ∧ s6.size ≤ 30000 ∧ Hid (Frm (fun _ => False) w2 wd))
          case first =>
            go_region_with (go_at_call 30; refine (zzPad5_any line w2.drew (by omega) HTAB2.out).mono ?_; rintro e w3 ⟨⟨s, rfl, hs⟩, hf3⟩; have hcv3 := HCV.out w3 (HFD.out.trans hf3))
            all_goals go_wp2
            all_goals go_meet
            all_goals exact ⟨_, rfl, by simp only [ByteArray.size_append]; have e1 : ByteArray.size ⟨#[]⟩ = 0 := rfl; have e2 : ByteArray.size ⟨#[58, 32]⟩ = 2 := rfl; have e3 : ByteArray.size ⟨#[10]⟩ = 1 := rfl; omega, HFD.out.trans hf3⟩
          case rest =>
            obtain ⟨s6, rfl, hs6, HF6⟩ := hcut
            go_wp2_with fail
            rw [show ((6 : Int) + (col' : Int)) = ((6 + col' : Nat) : Int) from by omega]
            refine (Tryd.strings_Repeat ⟨#[32]⟩ (6 + col') wc (by omega) (by simp [ByteArray.size]; omega)).mono ?_
            rintro e w7 ⟨rfl, hb7⟩
            obtain ⟨s7, hs7⟩ : ∃ x : ByteArray, x = ⟨(Lib.repeatL (ByteArray.mk #[32]).data.toList (6 + col')).toArray⟩ := ⟨_, rfl⟩
            have hz7 : s7.size ≤ 10000 := by
              have h1 := Lib.repeatL_length [32] (6 + col')
              simp only [List.length_cons, List.length_nil] at h1
              rw [hs7]
              simp only [ByteArray.size, List.size_toArray]
              omega
            rw [← hs7]
            have hF7 : Frm (fun x => x = g) w w7 := (HF2.out.trans' HF6.out (fun _ _ h => h.elim)).trans' (Frm.of_below hb7) (fun k hk h => by have := HF2.out.size; have := HF6.out.size; omega)
            have HF7 := Lib.hid hF7
            clear hs7 hb7 hF7
            go_wp2
            go_ret
            exact ⟨⟨_, rfl⟩, HF7.out⟩
end Go.Proofs.YtdfafjfcnbfmnaaDoor
