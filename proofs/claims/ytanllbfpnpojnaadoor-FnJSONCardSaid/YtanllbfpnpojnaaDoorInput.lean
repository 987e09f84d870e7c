/- The parser that is called: its memory, and the small methods of its input. -/
import Derived.Test.YtanllbfpnpojnaaDoorNoteA
import Derived.Deep.DeepCutAuto
import Derived.Deep.CutBlock
set_option linter.unusedVariables false
namespace Go.Proofs.YtanllbfpnpojnaaDoor
open Go.RowKit

def InCells (gb n c : Nat) (pos start : Nat) (r : Value) : Array Value := #[.slice (some ⟨gb, 0, none⟩) (n + 1) c, .int .i64 (pos : Int), .int .i64 (start : Int), .nilIface, r]
def PaCells (gi : Nat) (sv : Value) (nc : Bool) : Array Value := #[.pointer (some ⟨gi, 0, none⟩), sv, .nilIface, .bool nc]

/-- The parser at a place: the start of its selection, its flag, its states. -/
structure Ps (B gp gi gb c : Nat) (r : Value) (bs : List UInt8) (w : World) (pos start : Nat) (nc : Bool) (st : List Int) (sv : Value) : Prop where
  par : Blk w gp 59 (PaCells gi sv nc)
  inp : Blk w gi 61 (InCells gb bs.length c pos start r)
  buf : ∃ cur, Blk w gb 5 cur ∧ ∀ i, i ≤ bs.length → cur[i]? = some (.int .u8 (pk bs i))
  own : w.ownsRow B 43 1 sv st.length (st.map (Value.int .u32))
  hp : B ≤ gp
  hi : B ≤ gi
  hb : B ≤ gb
  cap : bs.length + 1 ≤ c

/-- A block that the parser may turn. -/
def Turned (B : Nat) (w : World) (k : Nat) : Prop := B ≤ k ∧ ∃ t cur, (t = 61 ∨ t = 59 ∨ t = 43) ∧ Blk w k t cur
def PF (B : Nat) (w w' : World) : Prop := Frm (Turned B w) w w'
theorem PF.refl (B : Nat) (w : World) : PF B w w := Frm.refl _ _
theorem PF.trans {B : Nat} {w w1 w2 : World} (h : PF B w w1) (h' : PF B w1 w2) : PF B w w2 :=
  Frm.trans' h h' (fun k hk hT => by
    by_cases hw : Turned B w k
    · exact hw
    · have he := h.block k hk hw
      obtain ⟨hB, t, cur, ht, hb⟩ := hT
      exact ⟨hB, t, cur, ht, by unfold Blk at hb ⊢; rw [← he]; exact hb⟩)
theorem PF.drewN {B : Nat} {w w1 : World} (h : PF B w w1) (n : Nat) : PF B w (w1.drewN n) := Frm.drewN h n
theorem PF.drew {B : Nat} {w w1 : World} (h : PF B w w1) : PF B w w1.drew := Frm.drew h
theorem PF.set_ {B : Nat} {w : World} {g : Nat} {t : TypeId} {cs : Array Value} (hb : Blk w g t cs) (hB : B ≤ g) (ht : t = 61 ∨ t = 59 ∨ t = 43) (i : Nat) (v : Value) : PF B w (w.setCell ⟨g, i, none⟩ v) :=
  (Frm.refl _ w).setCell (p := ⟨g, i, none⟩) (fun _ => ⟨hB, t, cs, ht, hb⟩) v
theorem not_turned {B : Nat} {w : World} {g : Nat} {t : TypeId} {cs : Array Value} (hb : Blk w g t cs) (h1 : t ≠ 61) (h2 : t ≠ 59) (h3 : t ≠ 43) : ¬ Turned B w g := by
  rintro ⟨_, t', cur, ht, hb'⟩
  by_cases he : t = t'
  · subst he; rcases ht with h | h | h <;> contradiction
  · exact hb.ne_ hb' he rfl
theorem PF.owns {B base : Nat} {w w' : World} {e : TypeId} {size : Nat} {v : Value} {n : Nat} {xs : List Value} (h : PF B w w') (ho : w.ownsRow base e size v n xs) (h1 : e ≠ 61) (h2 : e ≠ 59) (h3 : e ≠ 43) : w'.ownsRow base e size v n xs :=
  Frm.owns h ho (fun g hg => by
    obtain ⟨cur, hb⟩ := ty_of_own ho hg
    exact not_turned hb h1 h2 h3)

section
variable {B gp gi gb c : Nat} {r : Value} {bs : List UInt8} {w w' : World} {pos start p' s' : Nat} {nc : Bool} {st : List Int} {sv : Value}
theorem Ps.i0 (h : Ps B gp gi gb c r bs w pos start nc st sv) : w.cell? ⟨gi, 0, none⟩ = some (.slice (some ⟨gb, 0, none⟩) (bs.length + 1) c) := Blk.cell h.inp 0
theorem Ps.i1 (h : Ps B gp gi gb c r bs w pos start nc st sv) : w.cell? ⟨gi, 1, none⟩ = some (.int .i64 (pos : Int)) := Blk.cell h.inp 1
theorem Ps.i2 (h : Ps B gp gi gb c r bs w pos start nc st sv) : w.cell? ⟨gi, 2, none⟩ = some (.int .i64 (start : Int)) := Blk.cell h.inp 2
theorem Ps.i3 (h : Ps B gp gi gb c r bs w pos start nc st sv) : w.cell? ⟨gi, 3, none⟩ = some .nilIface := Blk.cell h.inp 3
theorem Ps.if1 (h : Ps B gp gi gb c r bs w pos start nc st sv) : w.frozen? ⟨gi, 1, none⟩ = false := Blk.frozen h.inp 1
theorem Ps.if2 (h : Ps B gp gi gb c r bs w pos start nc st sv) : w.frozen? ⟨gi, 2, none⟩ = false := Blk.frozen h.inp 2
theorem Ps.p0 (h : Ps B gp gi gb c r bs w pos start nc st sv) : w.cell? ⟨gp, 0, none⟩ = some (.pointer (some ⟨gi, 0, none⟩)) := Blk.cell h.par 0
theorem Ps.p1 (h : Ps B gp gi gb c r bs w pos start nc st sv) : w.cell? ⟨gp, 1, none⟩ = some sv := Blk.cell h.par 1
theorem Ps.p2 (h : Ps B gp gi gb c r bs w pos start nc st sv) : w.cell? ⟨gp, 2, none⟩ = some .nilIface := Blk.cell h.par 2
theorem Ps.p3 (h : Ps B gp gi gb c r bs w pos start nc st sv) : w.cell? ⟨gp, 3, none⟩ = some (.bool nc) := Blk.cell h.par 3
theorem Ps.pf1 (h : Ps B gp gi gb c r bs w pos start nc st sv) : w.frozen? ⟨gp, 1, none⟩ = false := Blk.frozen h.par 1
theorem Ps.pf3 (h : Ps B gp gi gb c r bs w pos start nc st sv) : w.frozen? ⟨gp, 3, none⟩ = false := Blk.frozen h.par 3
theorem Ps.byte (h : Ps B gp gi gb c r bs w pos start nc st sv) {i : Nat} (hi : i ≤ bs.length) : w.cell? ⟨gb, i, none⟩ = some (.int .u8 (pk bs i)) := by
  obtain ⟨cur, hb, hc⟩ := h.buf
  exact (Blk.cell hb i).trans (hc i hi)
theorem Ps.drawn (h : Ps B gp gi gb c r bs w pos start nc st sv) (n : Nat) : Ps B gp gi gb c r bs (w.drewN n) pos start nc st sv := ⟨h.par, h.inp, h.buf, h.own, h.hp, h.hi, h.hb, h.cap⟩
theorem Ps.drew (h : Ps B gp gi gb c r bs w pos start nc st sv) : Ps B gp gi gb c r bs w.drew pos start nc st sv := ⟨h.par, h.inp, h.buf, h.own, h.hp, h.hi, h.hb, h.cap⟩
/-- The input's block has turned. -/
theorem Ps.upd (h : Ps B gp gi gb c r bs w pos start nc st sv) (hf : Frm (fun k => k = gi) w w') (hi : Blk w' gi 61 (InCells gb bs.length c p' s' r)) : Ps B gp gi gb c r bs w' p' s' nc st sv where
  par := hf.blk h.par (fun e => h.par.ne_ h.inp (by decide) e)
  inp := hi
  buf := by
    obtain ⟨cur, hb, hc⟩ := h.buf
    exact ⟨cur, hf.blk hb (fun e => hb.ne_ h.inp (by decide) e), hc⟩
  own := hf.owns h.own (fun g hg e => own_ne_blk h.own h.inp (by decide) (by rw [hg, e]))
  hp := h.hp
  hi := h.hi
  hb := h.hb
  cap := h.cap
theorem Ps.to (h : Ps B gp gi gb c r bs w pos start nc st sv) (q : Nat) : Ps B gp gi gb c r bs (w.setCell ⟨gi, 1, none⟩ (.int .i64 (q : Int))) q start nc st sv :=
  h.upd ((Frm.refl (fun k => k = gi) w).setCell (p := ⟨gi, 1, none⟩) (fun _ => rfl) _) (h.inp.set_ 1 (.int .i64 (q : Int)))
theorem Ps.pto (h : Ps B gp gi gb c r bs w pos start nc st sv) (v : Value) : PF B w (w.setCell ⟨gi, 1, none⟩ v) := PF.set_ h.inp h.hi (.inl rfl) 1 v
theorem Ps.skip (h : Ps B gp gi gb c r bs w pos start nc st sv) (q : Nat) : Ps B gp gi gb c r bs (w.setCell ⟨gi, 2, none⟩ (.int .i64 (q : Int))) pos q nc st sv :=
  h.upd ((Frm.refl (fun k => k = gi) w).setCell (p := ⟨gi, 2, none⟩) (fun _ => rfl) _) (h.inp.set_ 2 (.int .i64 (q : Int)))
theorem Ps.pskip (h : Ps B gp gi gb c r bs w pos start nc st sv) (v : Value) : PF B w (w.setCell ⟨gi, 2, none⟩ v) := PF.set_ h.inp h.hi (.inl rfl) 2 v
/-- The flag is turned. -/
theorem Ps.flag (h : Ps B gp gi gb c r bs w pos start nc st sv) (b : Bool) : Ps B gp gi gb c r bs (w.setCell ⟨gp, 3, none⟩ (.bool b)) pos start b st sv where
  par := h.par.set_ 3 (.bool b)
  inp := ((Frm.refl (fun k => k = gp) w).setCell (p := ⟨gp, 3, none⟩) (fun _ => rfl) (.bool b)).blk h.inp (fun e => h.inp.ne_ h.par (by decide) e)
  buf := by
    obtain ⟨cur, hb, hc⟩ := h.buf
    exact ⟨cur, ((Frm.refl (fun k => k = gp) w).setCell (p := ⟨gp, 3, none⟩) (fun _ => rfl) (.bool b)).blk hb (fun e => hb.ne_ h.par (by decide) e), hc⟩
  own := ((Frm.refl (fun k => k = gp) w).setCell (p := ⟨gp, 3, none⟩) (fun _ => rfl) (.bool b)).owns h.own (fun g hg e => own_ne_blk h.own h.par (by decide) (by rw [hg, e]))
  hp := h.hp
  hi := h.hi
  hb := h.hb
  cap := h.cap
theorem Ps.pflag (h : Ps B gp gi gb c r bs w pos start nc st sv) (v : Value) : PF B w (w.setCell ⟨gp, 3, none⟩ v) := PF.set_ h.par h.hp (.inr (.inl rfl)) 3 v

set_option maxHeartbeats 400000 in
theorem peek_p (j : Nat) {k : Int} (hk : k = (j : Int)) (h : Ps B gp gi gb c r bs w pos start nc st sv) (hj : pos + j ≤ bs.length) (hn : bs.length ≤ 5000) :
    Calls Tryd.prog 31 #[.pointer (some ⟨gi, 0, none⟩), .int .i64 k] w fun e w' => e = .returned (.int .u8 (pk bs (pos + j))) ∧ w = w' := by
  subst hk
  have h0 := h.i0
  have h1 := h.i1
  have hb := h.byte hj
  rw [Nat.add_comm pos j] at hb ⊢
  generalize pk bs (j + pos) = b at *
  have hlt : j + pos < bs.length + 1 := by omega
  have hm : bs.length + 1 ≤ 5001 := by omega
  generalize bs.length + 1 = m at *
  clear h
  go_enter Tryd.func31, Tryd.ntmps31
  go_wp2
  go_ret
  exact ⟨rfl, rfl⟩

set_option maxHeartbeats 400000 in
theorem move_p (j : Nat) {k : Int} (hk : k = (j : Int)) (h : Ps B gp gi gb c r bs w pos start nc st sv) (hj : pos ≤ bs.length) (hn : bs.length ≤ 5000) (hj5 : j ≤ 5) :
    Calls Tryd.prog 33 #[.pointer (some ⟨gi, 0, none⟩), .int .i64 k] w fun e w' => e = .returned (.tuple #[]) ∧ Ps B gp gi gb c r bs w' (pos + j) start nc st sv ∧ PF B w w' := by
  subst hk
  have h1 := h.i1
  have f1 := h.if1
  have HH := Lib.hid h
  clear h
  go_enter Tryd.func33, Tryd.ntmps33
  go_wp2
  go_end0
  have := HH.out.to (pos + j)
  rw [Int.natCast_add] at this
  exact ⟨rfl, this, HH.out.pto _⟩

set_option maxHeartbeats 400000 in
theorem skip_p (h : Ps B gp gi gb c r bs w pos start nc st sv) :
    Calls Tryd.prog 34 #[.pointer (some ⟨gi, 0, none⟩)] w fun e w' => e = .returned (.tuple #[]) ∧ Ps B gp gi gb c r bs w' pos pos nc st sv ∧ PF B w w' := by
  have h1 := h.i1
  have h2 := h.i2
  have f2 := h.if2
  have HH := Lib.hid h
  clear h
  go_enter Tryd.func34, Tryd.ntmps34
  go_wp2
  go_end0
  exact ⟨rfl, HH.out.skip pos, HH.out.pskip _⟩

set_option maxHeartbeats 400000 in
theorem pos_p (h : Ps B gp gi gb c r bs w pos start nc st sv) (hs : start ≤ pos) (hj : pos ≤ bs.length) (hn : bs.length ≤ 5000) :
    Calls Tryd.prog 37 #[.pointer (some ⟨gi, 0, none⟩)] w fun e w' => e = .returned (.int .i64 ((pos - start : Nat) : Int)) ∧ Ps B gp gi gb c r bs w' pos start nc st sv ∧ PF B w w' := by
  have h1 := h.i1
  have h2 := h.i2
  have HH := Lib.hid h
  have e1 : ((pos - start : Nat) : Int) = (pos : Int) - start := by omega
  rw [e1]
  clear h e1
  go_enter Tryd.func37, Tryd.ntmps37
  go_wp2
  go_quiet (fail)
  go_wp2
  go_ret
  exact ⟨rfl, HH.out.drawn _, (PF.refl B w).drewN _⟩

set_option maxHeartbeats 400000 in
theorem rewind_p {k : Int} (hk : k = ((pos - start : Nat) : Int)) (h : Ps B gp gi gb c r bs w pos start nc st sv) (hs : start ≤ pos) (hj : pos ≤ bs.length) (hn : bs.length ≤ 5000) :
    Calls Tryd.prog 48 #[.pointer (some ⟨gi, 0, none⟩), .int .i64 k] w fun e w' => e = .returned (.tuple #[]) ∧ Ps B gp gi gb c r bs w' pos start nc st sv ∧ PF B w w' := by
  have h1 := h.i1
  have h2 := h.i2
  have f1 := h.if1
  have HH := Lib.hid h
  obtain ⟨d, rfl⟩ : ∃ d, pos = start + d := ⟨pos - start, by omega⟩
  have e1 : k = (d : Int) := by omega
  subst e1
  clear h hk
  go_enter Tryd.func48, Tryd.ntmps48
  go_wp2
  go_end0
  have := HH.out.to (start + d)
  rw [Int.natCast_add] at this
  exact ⟨rfl, this, HH.out.pto _⟩

set_option maxHeartbeats 400000 in
/-- The selection. -/
theorem lexeme_p (h : Ps B gp gi gb c r bs w pos start nc st sv) (hs : start < pos) (hj : pos ≤ bs.length) (hn : bs.length ≤ 5000) (hc : c ≤ 9223372036854775807) :
    Calls Tryd.prog 47 #[.pointer (some ⟨gi, 0, none⟩)] w fun e w' => e = .returned (.slice (some ⟨gb, start, none⟩) (pos - start) (pos - start)) ∧ Ps B gp gi gb c r bs w' pos start nc st sv ∧ PF B w w' := by
  have h0 := h.i0
  have h1 := h.i1
  have h2 := h.i2
  have hcap := h.cap
  have HH := Lib.hid h
  clear h
  go_enter Tryd.func47, Tryd.ntmps47
  go_wp2
  go_quiet (fail)
  go_wp2
  all_goals
    go_ret
    exact ⟨rfl, HH.out.drawn _, (PF.refl B w).drewN _⟩

set_option maxHeartbeats 400000 in
/-- The selection, and the next one begins. -/
theorem shift_p (h : Ps B gp gi gb c r bs w pos start nc st sv) (hs : start < pos) (hj : pos ≤ bs.length) (hn : bs.length ≤ 5000) (hc : c ≤ 9223372036854775807) :
    Calls Tryd.prog 35 #[.pointer (some ⟨gi, 0, none⟩)] w fun e w' => e = .returned (.slice (some ⟨gb, start, none⟩) (pos - start) (pos - start)) ∧ Ps B gp gi gb c r bs w' pos pos nc st sv ∧ PF B w w' := by
  have h0 := h.i0
  have h1 := h.i1
  have h2 := h.i2
  have f2 := h.if2
  have hcap := h.cap
  have HH := Lib.hid h
  clear h
  go_enter Tryd.func35, Tryd.ntmps35
  go_wp2
  go_quiet (fail)
  go_wp2
  all_goals
    go_ret
    exact ⟨rfl, (HH.out.drawn _).skip pos, ((PF.refl B w).drewN _).trans ((HH.out.drawn _).pskip _)⟩

set_option maxHeartbeats 400000 in
theorem peekErr_p {v : Value} (h : Ps B gp gi gb c r bs w pos start nc st sv) (hj : pos = bs.length) (hn : bs.length ≤ 5000) (hv : w.cell? ⟨0, 0, none⟩ = some v) :
    Calls Tryd.prog 49 #[.pointer (some ⟨gi, 0, none⟩), .int .i64 0] w fun e w' => e = .returned v ∧ Ps B gp gi gb c r bs w' pos start nc st sv ∧ PF B w w' := by
  have h0 := h.i0
  have h1 := h.i1
  have h3 := h.i3
  have HH := Lib.hid h
  subst hj
  clear h
  go_enter Tryd.func49, Tryd.ntmps49
  go_wp2
  go_quiet (fail)
  go_wp2
  go_ret
  exact ⟨rfl, HH.out.drawn _, (PF.refl B w).drewN _⟩

set_option maxHeartbeats 400000 in
/-- The end's error: what io.EOF holds. -/
theorem err_p {v : Value} (h : Ps B gp gi gb c r bs w pos start nc st sv) (hj : pos = bs.length) (hn : bs.length ≤ 5000) (hv : w.cell? ⟨0, 0, none⟩ = some v) :
    Calls Tryd.prog 40 #[.pointer (some ⟨gi, 0, none⟩)] w fun e w' => e = .returned v ∧ Ps B gp gi gb c r bs w' pos start nc st sv ∧ PF B w w' := by
  go_enter Tryd.func40, Tryd.ntmps40
  go_wp2_with fail
  refine (peekErr_p h hj hn hv).mono ?_
  rintro e w' ⟨rfl, hP, hF⟩
  dsimp only
  go_wp2
  go_ret
  exact ⟨rfl, hP, hF⟩
end
end Go.Proofs.YtanllbfpnpojnaaDoor
