/- The parser's stack of states. -/
import Derived.Test.YtanllbfpnpojnaaDoorInput
set_option linter.unusedVariables false
namespace Go.Proofs.YtanllbfpnpojnaaDoor
open Go.RowKit

theorem info43 : (Tryd.prog.info? 43).map (fun i => (i.zero, i.size, i.bytes)) = some (some (.int .u32 0), 1, 4) := by kernel_rfl

section
variable {B gp gi gb c : Nat} {r : Value} {bs : List UInt8} {w w' : World} {pos start p' s' i j g y cap : Nat} {nc : Bool} {st : List Int} {sv : Value} {x : Int}

theorem Ps.form (h : Ps B gp gi gb c r bs w pos start nc (st ++ [x]) sv) : ∃ g cap, sv = .slice (some ⟨g, 0, none⟩) (st.length + 1) cap ∧ st.length + 1 ≤ cap := by
  rcases h.own.2 with ⟨_, e⟩ | ⟨g, cap, cur, e, _, _, hle, _⟩
  · simp at e
  · rw [List.length_append] at e hle
    exact ⟨g, cap, e, hle⟩
theorem Ps.row (h : Ps B gp gi gb c r bs w pos start nc st (.slice (some ⟨g, 0, none⟩) y cap)) : B ≤ g ∧ ∃ cur, Blk w g 43 cur := by
  have h1 := h.own.lt g rfl
  obtain ⟨cur, hb⟩ := ty_of_own h.own (g := g) rfl
  exact ⟨h1.1, cur, hb⟩
theorem Ps.top_ (h : Ps B gp gi gb c r bs w pos start nc (st ++ [x]) (.slice (some ⟨g, 0, none⟩) (y + 1) cap)) (hy : st.length = y) : w.cell? ⟨g, y, none⟩ = some (.int .u32 x) := by
  have := h.own.cells (g := g) rfl y (.int .u32 x) (by subst hy; simp)
  simpa [Addr.add_lit] using this
theorem Ps.ftop (h : Ps B gp gi gb c r bs w pos start nc st (.slice (some ⟨g, 0, none⟩) y cap)) (k : Nat) : w.frozen? ⟨g, k, none⟩ = false := by
  obtain ⟨_, cur, hb⟩ := h.row
  exact hb.frozen k

/-- The parser's block has turned, and the row of its states perhaps. -/
theorem Ps.restate {w2 : World} {sv' : Value} {st' : List Int} (h : Ps B gp gi gb c r bs w pos start nc st sv) (hf : Frm (fun k => sv.ownBlock = some k) w w2)
    (hown : w2.ownsRow B 43 1 sv' st'.length (st'.map (Value.int .u32))) : Ps B gp gi gb c r bs (w2.setCell ⟨gp, 1, none⟩ sv') pos start nc st' sv' := by
  have p2 := hf.blk h.par (own_ne_blk h.own h.par (by decide))
  have f3 : Frm (fun k => k = gp) w2 (w2.setCell ⟨gp, 1, none⟩ sv') := (Frm.refl (fun k => k = gp) w2).setCell (p := ⟨gp, 1, none⟩) (fun _ => rfl) _
  have i2 := hf.blk h.inp (own_ne_blk h.own h.inp (by decide))
  obtain ⟨cur, hb, hc⟩ := h.buf
  have b2 := hf.blk hb (own_ne_blk h.own hb (by decide))
  exact ⟨p2.set_ 1 sv', f3.blk i2 (fun e => i2.ne_ p2 (by decide) e), ⟨cur, f3.blk b2 (fun e => b2.ne_ p2 (by decide) e), hc⟩, f3.owns hown (fun g hg e => own_ne_blk hown p2 (by decide) (by rw [hg, e])), h.hp, h.hi, h.hb, h.cap⟩
theorem Ps.prestate {w2 : World} {sv' : Value} (h : Ps B gp gi gb c r bs w pos start nc st sv) (hf : Frm (fun k => sv.ownBlock = some k) w w2) : PF B w (w2.setCell ⟨gp, 1, none⟩ sv') := by
  have p2 := hf.blk h.par (own_ne_blk h.own h.par (by decide))
  have h1 : PF B w w2 := hf.mono (fun k hk e => ⟨(h.own.lt k e).1, 43, (ty_of_own h.own e).choose, .inr (.inr rfl), (ty_of_own h.own e).choose_spec⟩)
  exact h1.trans (PF.set_ p2 h.hp (.inr (.inl rfl)) 1 sv')

theorem own_shorter {base : Nat} {e : TypeId} {xs : List Value} {u : Value} (h : w.ownsRow base e 1 (.slice (some ⟨g, 0, none⟩) (y + 1) cap) (y + 1) (xs ++ [u])) (hy : xs.length = y) : w.ownsRow base e 1 (.slice (some ⟨g, 0, none⟩) y cap) y xs := by
  refine ⟨by omega, ?_⟩
  rcases h.2 with ⟨e1, _⟩ | ⟨g', cap', cur, e1, hb, hg, hn, hm, hs, ht⟩
  · cases e1
  · injection e1 with e1 e2 e3
    injection e1 with e1
    injection e1 with e1
    subst e1 e3
    refine .inr ⟨g, cap, cur, rfl, hb, hg, by omega, hm, hs, ?_⟩
    have ht2 := congrArg (List.take y) ht
    rw [List.take_take] at ht2
    rw [Nat.mul_one] at ht2 ⊢
    rw [show min y (y + 1) = y by omega] at ht2
    rw [ht2, List.take_append_of_le_length (by omega), List.take_of_length_le (by omega)]
theorem Ps.pop (h : Ps B gp gi gb c r bs w pos start nc (st ++ [x]) (.slice (some ⟨g, 0, none⟩) (y + 1) cap)) (hy : st.length = y) :
    Ps B gp gi gb c r bs (w.setCell ⟨gp, 1, none⟩ (.slice (some ⟨g, 0, none⟩) y cap)) pos start nc st (.slice (some ⟨g, 0, none⟩) y cap) := by
  refine h.restate (Frm.refl _ w) ?_
  have h1 := h.own
  rw [List.length_append, List.map_append] at h1
  subst hy
  exact own_shorter h1 (by simp)
theorem Ps.ppop (h : Ps B gp gi gb c r bs w pos start nc st sv) (v : Value) : PF B w (w.setCell ⟨gp, 1, none⟩ v) := PF.set_ h.par h.hp (.inr (.inl rfl)) 1 v
theorem Ps.settop {x' : Int} (h : Ps B gp gi gb c r bs w pos start nc (st ++ [x]) (.slice (some ⟨g, 0, none⟩) (y + 1) cap)) (hy : st.length = y) :
    Ps B gp gi gb c r bs (w.setCell ⟨g, y, none⟩ (.int .u32 x')) pos start nc (st ++ [x']) (.slice (some ⟨g, 0, none⟩) (y + 1) cap) := by
  obtain ⟨hB, cur0, hrow⟩ := h.row
  have f3 : Frm (fun k => k = g) w (w.setCell ⟨g, y, none⟩ (.int .u32 x')) := (Frm.refl (fun k => k = g) w).setCell (p := ⟨g, y, none⟩) (fun _ => rfl) _
  obtain ⟨cb, hb, hc⟩ := h.buf
  refine ⟨f3.blk h.par (fun e => h.par.ne_ hrow (by decide) e), f3.blk h.inp (fun e => h.inp.ne_ hrow (by decide) e), ⟨cb, f3.blk hb (fun e => hb.ne_ hrow (by decide) e), hc⟩, ?_, h.hp, h.hi, h.hb, h.cap⟩
  have h1 := h.own
  refine ⟨by simp, ?_⟩
  rcases h1.2 with ⟨e1, _⟩ | ⟨g', cap', cur, e1, hbb, hg, hn, hm, hs, ht⟩
  · cases e1
  · injection e1 with e1 e2 e3
    injection e1 with e1
    injection e1 with e1
    subst e1 e3
    refine .inr ⟨g, cap, cur.setIfInBounds y (.int .u32 x'), by rw [List.length_append, hy]; rfl, hbb, Blk.set_ (cs := cur) hg y _, by simpa using hn, hm, by simpa using hs, ?_⟩
    rw [List.length_append, List.map_append] at ht
    rw [List.length_append, List.map_append, Array.toList_setIfInBounds]
    simp only [List.length_cons, List.length_nil, Nat.zero_add, Nat.mul_one, List.map_cons, List.map_nil] at ht ⊢
    rw [hy] at ht ⊢
    rw [List.take_set, ht, List.set_append_right _ _ (by simp [hy])]
    simp [hy]
theorem Ps.psettop {v : Value} (h : Ps B gp gi gb c r bs w pos start nc st (.slice (some ⟨g, 0, none⟩) y cap)) (k : Nat) : PF B w (w.setCell ⟨g, k, none⟩ v) := by
  obtain ⟨hB, cur0, hrow⟩ := h.row
  exact PF.set_ hrow hB (.inr (.inr rfl)) k v

/-- What the parser's next step gives. -/
def Stepped (B gp gi gb c : Nat) (r : Value) (bs : List UInt8) (w : World) (kd : Int) (lo hi i1 : Nat) (nc1 : Bool) (st1 : List Int) (e : Ending) (w' : World) : Prop :=
  ∃ cap sv', e = .returned (.tuple #[.int .u32 kd, .slice (some ⟨gb, lo, none⟩) (hi - lo) cap]) ∧ hi - lo ≤ cap ∧ Ps B gp gi gb c r bs w' i1 i1 nc1 st1 sv' ∧ PF B w w'
end
end Go.Proofs.YtanllbfpnpojnaaDoor
