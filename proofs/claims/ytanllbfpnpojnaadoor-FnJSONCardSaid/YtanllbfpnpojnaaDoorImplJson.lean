/- The program's reading of a text of JSON. -/
import Derived.Test.YtanllbfpnpojnaaDoorImpl
set_option linter.unusedVariables false
namespace Go.Proofs.YtanllbfpnpojnaaDoor
open Go.RowKit

theorem Chain.part {bs : List UInt8} {i b : Nat} {nc ncb : Bool} {st stb : List Int} {rest : List Pc} (h : Chain bs i nc st rest b ncb stb) :
    (rest = [] ∧ i = b ∧ nc = ncb ∧ st = stb) ∨ ∃ kd lo hi i1 nc1 st1 t1 ps, rest = ⟨kd, lo, hi, t1⟩ :: ps ∧ Step bs i nc st kd lo hi i1 nc1 st1 t1 ∧ Chain bs i1 nc1 (st1 ++ [t1]) ps b ncb stb := by
  cases h with
  | nil => exact .inl ⟨rfl, rfl, rfl, rfl⟩
  | cons hs hc => exact .inr ⟨_, _, _, _, _, _, _, _, rfl, hs, hc⟩
/-- As many pieces as bytes at the most. -/
theorem Chain.few {bs : List UInt8} {i b : Nat} {nc ncb : Bool} {st stb : List Int} {rest : List Pc} (h : Chain bs i nc st rest b ncb stb) : i ≤ bs.length → i + rest.length ≤ bs.length := by
  induction h with
  | nil => intro h; simpa using h
  | cons hs _ ih =>
    intro h
    have h1 := hs.facts
    have := ih h1.2.2.2.1
    simp only [List.length_cons]
    omega

/-- What the program's reading answers. -/
def Given (w w' : World) (bs : List UInt8) (ps : List Pc) (e : Ending) : Prop :=
  ∃ vo qs, e = .returned (.tuple #[vo, .bool true]) ∧ Row w' w.heap.size bs vo qs ∧ qs.map Prod.fst = ps

theorem news_buf {B gp gi gb c : Nat} {r : Value} {bs : List UInt8} {w : World} {pos start lo hi : Nat} {nc : Bool} {st : List Int} {sv : Value} (h : Ps B gp gi gb c r bs w pos start nc st sv) (hh : hi ≤ bs.length) :
    ∀ j u, (bvals ((bs.drop lo).take (hi - lo)))[j]? = some u → w.cell? ((⟨gb, lo, none⟩ : Addr).add j) = some u := by
  intro j u hu
  have hj : j < ((bs.drop lo).take (hi - lo)).length := by
    have := (List.getElem?_eq_some_iff.1 hu).1
    simpa [bvals_length] using this
  have hj2 : lo + j < bs.length := by simp at hj; omega
  rw [Addr.add_lit, h.byte (by omega), ← hu, bvals, List.getElem?_map, List.getElem?_eq_getElem hj, pk_lt hj2]
  simp
theorem news_text {w : World} {B : Nat} {A : Option Addr} {bs : List UInt8} (h : LiesB w B A bs) (h0 : 0 < bs.length) : ∃ ad : Addr, A = some ad ∧ ∀ j u, (bvals bs)[j]? = some u → w.cell? (ad.add j) = some u := by
  obtain ⟨ad, e, _, hc⟩ := h h0
  refine ⟨ad, e, fun j u hu => ?_⟩
  have hj : j < bs.length := by
    have := (List.getElem?_eq_some_iff.1 hu).1
    simpa [bvals_length] using this
  rw [hc j hj, ← hu, bvals, List.getElem?_map, List.getElem?_eq_getElem hj]
  rfl

theorem und48 : Tryd.prog.underlying 48 = some (.interface #[("Error", 55)]) := by kernel_rfl
theorem comp150 : (Tryd.prog.info? 150).map (·.comparable) = some true := by kernel_rfl
theorem info164 : (Tryd.prog.info? 164).isSome = true := by kernel_rfl
/-- io.EOF is itself. -/
theorem eof_eq (a : Addr) (w : World) : (binOp .eql 48 (.iface 150 (.pointer (some a))) (.iface 150 (.pointer (some a)))).run Tryd.prog w = .ok (.bool true) w := by
  obtain ⟨i, hi, hc⟩ := Option.map_eq_some_iff.1 comp150
  obtain ⟨j, hj⟩ := Option.isSome_iff_exists.1 info164
  exact run_eql_iface_ptr_same w a und48 Tryd.underlying150 hi hc hj

section
variable {A : Option Addr} {c : Nat} {bs : List UInt8} {ps : List Pc} {w : World} {a0 : Addr}
set_option maxRecDepth 100000 in
set_option maxHeartbeats 3200000 in
theorem json_i (hn : bs.length ≤ 5000) (hl : LiesB w w.heap.size A bs) (hj : IsJson bs ps) (hv : w.cell? ⟨0, 0, none⟩ = some (.iface 150 (.pointer (some a0)))) :
    Calls Tryd.prog 5 #[.slice A bs.length c] w fun e w' => Given w w' bs ps e ∧ Frm (fun _ => False) w w' := by
  obtain ⟨i46, h46, h46z, h46s, h46b⟩ := info_parts info46
  have HL := Lib.hid hl
  have HJ := Lib.hid hj
  have HV := Lib.hid hv
  have hlt0 : 0 < w.heap.size := World.block_lt_of_cell? w _ hv
  clear hl hj hv
  go_enter Tryd.func5, Tryd.ntmps5
  go_wp2_with fail
  refine (copy11 A c bs w (by omega) (fun h => news_text HL.out h)).mono ?_
  rintro e w1 ⟨rfl, hB1, hF1⟩
  have HB1 := Lib.hid hB1
  have HF1 := Lib.hid hF1
  clear hB1 hF1
  dsimp only
  go_wp2_with fail
  refine (newBytes_any w.heap.size bs w1 hn HB1.out w.heap.size (Nat.le_refl _) HF1.out.size).mono ?_
  rintro e w2 ⟨⟨gi, gb, c2, rfl, hgi, hgb, hc2, hcm, hin, hbuf⟩, hF2⟩
  have HIN := Lib.hid hin
  have HBUF := Lib.hid hbuf
  have HCM : Hid (c2 ≤ 9223372036854775807) := Lib.hid (by unfold maxLen at hcm; omega)
  have HF2 : Hid (Frm (fun k => w.heap.size ≤ k) w w2) := Lib.hid (Frm.trans' (HF1.out.mono (fun _ _ h => h.elim)) hF2 (fun k hk e => by omega))
  clear hin hbuf hF2 hcm
  dsimp only
  go_wp2_with fail
  refine (newParser_any w2 w.heap.size HF2.out.size hgi hgb hc2 HIN.out HBUF.out).mono ?_
  rintro e w3 ⟨gp, sv, rfl, hP, hF3⟩
  have HP3 := Lib.hid hP
  have HF3 : Hid (Frm (fun k => w.heap.size ≤ k) w w3) := Lib.hid (HF2.out.trans (hF3.mono (fun _ _ h => h.elim)))
  clear hP hF3
  dsimp only
  go_wp2_with fail
  have HP4 : Hid (Ps w.heap.size gp gi gb c2 .nilFunc bs (w3.alloc (.cells #[] 46)) 0 0 false ([] ++ [0]) sv) := HP3.out.frm ((Frm.refl (fun _ => False) w3).alloc _) (fun _ h => h.elim)
  have HF4 : Hid (Frm (fun k => w.heap.size ≤ k) w (w3.alloc (.cells #[] 46))) := HF3.out.alloc _
  have HR4 : Hid (Row (w3.alloc (.cells #[] 46)) w.heap.size bs (.slice (some ⟨w3.heap.size, 0, none⟩) 0 0) []) := ⟨World.ownsRow_made w3 #[] 0 HF3.out.size (by decide) rfl, fun q hq => by cases hq⟩
  obtain ⟨bend, hch0, hbl0⟩ := HJ.out
  have HCH0 := Lib.hid hch0
  have HBL0 := Lib.hid hbl0
  clear HP3 HF3 hch0 hbl0
  generalize w3.alloc (.cells #[] 46) = w4 at *
  generalize w3.heap.size = g3 at *
  have hw0 : ∀ w', Frm (fun k => w.heap.size ≤ k) w w' → w'.cell? ⟨0, 0, none⟩ = some (.iface 150 (.pointer (some a0))) := fun w' hf => (hf.cell hlt0 (by show ¬ w.heap.size ≤ 0; omega)).trans HV.out
  have HW0 := Lib.hid hw0
  clear hw0
  go_loopg [5, 6, 7, 13] (ps.length) (fun g v5 v6 v7 v13 wr => ∃ (rest : List Pc) (qs : List (Pc × Value)) (vo sv : Value) (i : Nat) (nc : Bool) (st : List Int), vo = v5 ∧ v13 = .int .i64 (qs.length : Int) ∧ Hid (g = rest.length) ∧ qs.length ≤ i ∧ i ≤ bs.length ∧
    Hid (st.length ≤ qs.length + 1 ∧ Fine st ∧ qs.map Prod.fst ++ rest = ps ∧ Chain bs i nc st rest bend true [0]) ∧ Hid (Ps w.heap.size gp gi gb c2 .nilFunc bs wr i i nc st sv) ∧ Hid (Row wr w.heap.size bs vo qs) ∧ Hid (Frm (fun k => w.heap.size ≤ k) w wr))
  case atStart => exact ⟨ps, [], _, sv, 0, false, [0], rfl, rfl, rfl, Nat.le_refl _, Nat.zero_le _, ⟨Nat.le_refl _, fun s hs => by simp at hs; omega, rfl, HCH0.out⟩, HP4.out, HR4.out, HF4.out⟩
  case round =>
    obtain ⟨rest, qs, vo, sv', i, nc, st, rfl, rfl, HK, hqi, hin2, HI, HP, HR, HF⟩ := hrel
    have hlt : (qs.length : Int) < 100000 := by omega
    clear HP4 HR4 HF4 HCH0
    obtain ⟨hst, hfine, hps, hch⟩ := HI.out
    rcases hch.part with ⟨hr, hib, hnc, hst0⟩ | ⟨kd, lo, hi, i1, nc1, st1, t1, rest1, hr, hstep, hch1⟩
    · subst hr hib hnc hst0
      have HPS : Hid (qs.map Prod.fst = ps) := Lib.hid (by rw [List.append_nil] at hps; exact hps)
      clear hst hfine hps hch HI
      go_wp2_with fail
      refine (next_end (st := []) HP.out HBL0.out hn HCM.out (Nat.zero_le _) (HW0.out _ HF.out) (fun h => by have := h.1; omega)).mono ?_
      rintro e w5 ⟨rfl, ⟨sv5, hP5⟩, hF5⟩
      have HP5 := Lib.hid hP5
      have HR5 := Lib.hid (HR.out.pf hF5)
      have HF5 : Hid (Frm (fun k => w.heap.size ≤ k) w w5) := Lib.hid (HF.out.trans hF5.up)
      clear hP5 hF5
      dsimp only
      go_wp2_with fail
      have kv := HW0.out _ HF5.out
      have heq := eof_eq a0
      go_region_held3 (fun w' => w'.cell? ⟨0, 0, none⟩ = some (.iface 150 (.pointer (some a0))))
        (first | go_keep | assumption)
        (first
          | (go_at_call 16; refine (perr_p HP5.out.drew hn kv).mono ?_; rintro e w6 ⟨rfl, hP6, hF6⟩; have HF6 : Hid (Frm (fun k => w.heap.size ≤ k) w w6) := Lib.hid (HF5.out.drew.trans hF6.up); have kv6 := HW0.out _ HF6.out; have HR6 : Hid (Row w6 w.heap.size bs vo qs) := Lib.hid (Row.pf (w := w5.drew) HR5.out hF6))
          | fail)
      go_wp2
      go_ret2
      exact ⟨⟨vo, qs, rfl, HR6.out, HPS.out⟩, HF6.out.mono (fun k hk e => by omega)⟩
    · subst hr
      have HST := Lib.hid hstep
      have HCH := Lib.hid hch1
      have HFI := Lib.hid hfine
      have HPS := Lib.hid hps
      obtain ⟨f1, f2, f3, f4, f5, f6, f7, f8⟩ := hstep.facts
      have HFI1 := Lib.hid (f8 hfine)
      have hq5 : qs.length ≤ 5000 := by omega
      have hst5 : st.length ≤ 100000 := by omega
      have HSL : Hid (st1.length ≤ qs.length + 1) := Lib.hid (by omega)
      have hst15 : st1.length ≤ 100000 := by omega
      clear hstep hch1 hfine hps hch HI f8 hst
      have ek : (kd == 0) = false := by rw [beq_eq_false_iff_ne]; omega
      go_wp2_with fail
      refine (next_step HP.out HST.out hn HCM.out hst5).mono ?_
      rintro e w5 ⟨cap, sv5, rfl, hcap, hP5, hF5⟩
      have HP5 := Lib.hid hP5
      have HR5 := Lib.hid (HR.out.pf hF5)
      have HF5 : Hid (Frm (fun k => w.heap.size ≤ k) w w5) := Lib.hid (HF.out.trans hF5.up)
      clear hP5 hF5
      obtain ⟨L, hL⟩ : ∃ L, L = (bs.drop lo).take (hi - lo) := ⟨_, rfl⟩
      have hLl : L.length = hi - lo := by rw [hL, List.length_take, List.length_drop]; omega
      have HLD := Lib.hid hL
      rw [← hLl]
      have hL5 : L.length ≤ 5000 := by omega
      have HLL := Lib.hid hLl
      clear hL hLl hcap
      dsimp only
      go_wp2_with fail
      refine (kind_p w5 ⟨f5, f6⟩).mono ?_
      rintro e wq ⟨rfl, rfl⟩
      dsimp only
      go_wp2_with fail
      refine (copy11 (some ⟨gb, lo, none⟩) cap L w5 (by omega) (fun _ => ⟨_, rfl, by rw [HLD.out]; exact news_buf HP5.out (by omega)⟩)).mono ?_
      rintro e w6 ⟨rfl, hB6, hF6⟩
      have HB6 := Lib.hid hB6
      have HP6 : Hid (Ps w.heap.size gp gi gb c2 .nilFunc bs w6 i1 i1 nc1 (st1 ++ [t1]) sv5) := Lib.hid (HP5.out.frm hF6 (fun _ h => h.elim))
      have HR6 := Lib.hid (HR5.out.none_ hF6)
      have HF6 : Hid (Frm (fun k => w.heap.size ≤ k) w w6) := Lib.hid (HF5.out.trans (hF6.mono (fun _ _ h => h.elim)))
      clear hB6 hF6
      dsimp only
      go_wp2_with fail
      refine (state_p HP6.out hst15).mono ?_
      rintro e w7 ⟨rfl, hP7, hF7⟩
      have HP7 := Lib.hid hP7
      have HR7 := Lib.hid (HR6.out.pf hF7)
      have HF7 : Hid (Frm (fun k => w.heap.size ≤ k) w w7) := Lib.hid (HF6.out.trans hF7.up)
      have HO7 : Hid (w7.ownsRow w.heap.size 5 1 (.slice (some ⟨w5.heap.size, 0, none⟩) L.length L.length) L.length (bvals L)) := Lib.hid (hF7.owns (own_of_blk HB6.out HF5.out.size (bvals_length L) (by unfold maxLen; omega)) (by decide) (by decide) (by decide))
      clear hP7 hF7
      dsimp only
      go_wp2_with fail
      refine (stateS_p w7 (HFI1.out t1 (by simp))).mono ?_
      rintro e wq ⟨rfl, rfl⟩
      dsimp only
      have hB7 : w.heap.size ≤ w7.heap.size := HF7.out.size
      go_wp2_with (at_builtin; refine wpList_append_lies _ rfl (.tmp 22) (.tmp 31) 23 rfl w.heap.size 46 i46 _ 6 128 Tryd.underlying23 h46 h46z h46s h46b rfl (by omega) vo qs.length (qs.flatMap PcCells) rfl (HR7.out.1.alloc _) ⟨w7.heap.size, 0, none⟩ 1 1 [.string (kindS kd), .slice (some ⟨w5.heap.size, 0, none⟩) L.length L.length, .slice none 0 0, .slice none 0 0, .slice none 0 0, .string (stateS t1)] rfl rfl (World.news_of_block (cs := #[.string (kindS kd), .slice (some ⟨w5.heap.size, 0, none⟩) L.length L.length, .slice none 0 0, .slice none 0 0, .slice none 0 0, .string (stateS t1)]) (t := 46) (fr := (0, 0)) (heap_alloc_new w7 _)) (by simp [Value.oneCell']) (by omega) (by unfold maxLen; omega) (by omega) (by simp; omega) (w7.heap.size + 1) (by simp) ?_; intro g8 cap8 w8 hown hgrow hat hlt8)
      have hvn : ∀ g, vo.ownBlock = some g → w.heap.size ≤ g ∧ g < w7.heap.size := fun g hg => HR7.out.1.lt g hg
      have hf78 : Frm (fun k => vo.ownBlock = some k) w7 w8 := ((Frm.refl _ w7).alloc _).trans (Frm.of_grownBy hgrow)
      have HP8 : Hid (Ps w.heap.size gp gi gb c2 .nilFunc bs w8 i1 i1 nc1 (st1 ++ [t1]) sv5) := Lib.hid (HP7.out.frm hf78 (fun g hg => ty_of_own HR7.out.1 hg))
      have HF8 : Hid (Frm (fun k => w.heap.size ≤ k) w w8) := Lib.hid (HF7.out.trans (hf78.mono (fun k _ e => (hvn k e).1)))
      have keep : ∀ {v : Value} {n : Nat} {ys : List Value}, w7.ownsRow w.heap.size 5 1 v n ys → w8.ownsRow w.heap.size 5 1 v n ys := fun {v n ys} hv => hf78.owns hv (fun g hg e => own_ne hv HR7.out.1 (by decide) hg e)
      have HR8 : Hid (Row w8 w.heap.size bs (.slice (some ⟨g8, 0, none⟩) (qs.length + 1) cap8) (qs ++ [(⟨kd, lo, hi, t1⟩, .slice (some ⟨w5.heap.size, 0, none⟩) L.length L.length)])) := by
        refine ⟨?_, fun q hq => ?_⟩
        · rw [List.length_append, List.flatMap_append]
          simpa [PcCells] using hown
        · rcases List.mem_append.1 hq with hq | hq
          · exact keep (HR7.out.2 q hq)
          · obtain rfl : q = (⟨kd, lo, hi, t1⟩, .slice (some ⟨w5.heap.size, 0, none⟩) L.length L.length) := by simpa using hq
            have h1 := keep HO7.out
            rw [HLD.out] at h1 ⊢
            exact h1
      clear hown hgrow hat hlt8 hf78 hvn
      go_roundg (rest1.length)
      case measure => have := HK.out; simp only [List.length_cons] at this; omega
      case rel =>
        refine ⟨rest1, qs ++ [(⟨kd, lo, hi, t1⟩, .slice (some ⟨w5.heap.size, 0, none⟩) L.length L.length)], _, sv5, i1, nc1, st1 ++ [t1], rfl, ?_, rfl, ?_, f4, ⟨?_, HFI1.out, ?_, HCH.out⟩, HP8, HR8, HF8⟩
        · rw [List.length_append]; go_num
        · rw [List.length_append]; simp; omega
        · have := HSL.out; rw [List.length_append, List.length_append]; simp; omega
        · rw [List.map_append, List.append_assoc]; exact HPS.out
end
end Go.Proofs.YtanllbfpnpojnaaDoor
