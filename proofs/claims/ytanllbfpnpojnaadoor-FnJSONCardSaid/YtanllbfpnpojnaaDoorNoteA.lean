/- The reference's reader notes a piece. -/
import Derived.Test.YtanllbfpnpojnaaDoorLiteral
import Derived.Deep.RegionHeld3
import Derived.Deep.AppendLies
import Derived.Deep.DrawnRows
set_option linter.unusedVariables false
namespace Go.Proofs.YtanllbfpnpojnaaDoor
open Go.RowKit

def bvals (l : List UInt8) : List Value := l.map fun b => .int .u8 (b.toNat : Int)
theorem bvals_length (l : List UInt8) : (bvals l).length = l.length := by simp [bvals]
theorem bvals_one (l : List UInt8) : ∀ u ∈ bvals l, u.oneCell' = true := by
  intro u hu
  obtain ⟨b, _, rfl⟩ := List.mem_map.1 hu
  rfl
/-- The cells of a piece: its data lie in the slice that stands beside it. -/
def PcCells (p : Pc × Value) : List Value := [.string (kindS p.1.kind), p.2, .slice none 0 0, .slice none 0 0, .slice none 0 0, .string (stateS p.1.st)]

theorem info5 : (Tryd.prog.info? 5).map (fun i => (i.zero, i.size, i.bytes)) = some (some (.int .u8 0), 1, 1) := by kernel_rfl
theorem info46 : (Tryd.prog.info? 46).map (fun i => (i.zero, i.size, i.bytes)) = some (some (.agg #[.string ⟨#[]⟩, .slice none 0 0, .slice none 0 0, .slice none 0 0, .slice none 0 0, .string ⟨#[]⟩]), 6, 128) := by kernel_rfl

/-- The reader at a place: what it has noted, the brackets that stand open. -/
structure Rd (B R : Nat) (A : Option Addr) (c : Nat) (bs : List UInt8) (w : World) (a : Nat) (qs : List (Pc × Value)) (xs : List UInt8) (vo va : Value) : Prop where
  blk : Blk w R 30 (RdCells A bs.length c a vo va)
  text : LiesB w B A bs
  hR : B ≤ R
  out : w.ownsRow B 46 6 vo qs.length (qs.flatMap PcCells)
  data : ∀ q ∈ qs, w.ownsRow B 5 1 q.2 (q.1.data bs).length (bvals (q.1.data bs))
  abv : w.ownsRow B 5 1 va xs.length (bvals xs)
  apart : ∀ q ∈ qs, ∀ g, q.2.ownBlock = some g → va.ownBlock ≠ some g
  few : qs.length ≤ a

theorem ty_of_own {w : World} {base : Nat} {e : TypeId} {size : Nat} {v : Value} {n : Nat} {xs : List Value} (h : w.ownsRow base e size v n xs) {g : Nat} (hg : v.ownBlock = some g) : ∃ cur, Blk w g e cur := by
  rcases h.2 with ⟨rfl, _⟩ | ⟨g', cap, cur, rfl, _, hgg, _⟩
  · simp [Value.ownBlock] at hg
  · simp [Value.ownBlock] at hg
    subst hg
    exact ⟨cur, hgg⟩
theorem own_ne {w : World} {base base' : Nat} {e e' : TypeId} {size size' : Nat} {v v' : Value} {n n' : Nat} {xs xs' : List Value} (h : w.ownsRow base e size v n xs) (h' : w.ownsRow base' e' size' v' n' xs') (he : e ≠ e') {g : Nat} (hg : v.ownBlock = some g) : v'.ownBlock ≠ some g := fun hg' => by
  obtain ⟨_, b⟩ := ty_of_own h hg
  obtain ⟨_, b'⟩ := ty_of_own h' hg'
  exact b.ne_ b' he rfl
theorem own_ne_blk {w : World} {base : Nat} {e t : TypeId} {size : Nat} {v : Value} {n : Nat} {xs : List Value} {R : Nat} {cs : Array Value} (h : w.ownsRow base e size v n xs) (hb : Blk w R t cs) (he : e ≠ t) : v.ownBlock ≠ some R := fun hg => by
  obtain ⟨_, b⟩ := ty_of_own h hg
  exact b.ne_ hb he rfl

section
variable {B R : Nat} {A : Option Addr} {c : Nat} {bs xs : List UInt8} {vo va : Value} {w1 w w' : World} {a b : Nat} {qs : List (Pc × Value)}
theorem Rd.rs (h : Rd B R A c bs w a qs xs vo va) : Rs B R A c bs vo va w w a := ⟨h.blk, h.text, h.hR, Frm.refl _ _⟩
theorem Rd.of_rs (h : Rd B R A c bs w a qs xs vo va) (hs : Rs B R A c bs vo va w w' b) (hab : a ≤ b) : Rd B R A c bs w' b qs xs vo va where
  blk := hs.1
  text := hs.2.1
  hR := h.hR
  out := hs.2.2.2.owns h.out (fun g hg e => own_ne_blk h.out h.blk (by decide) (by rw [hg, e]))
  data := fun q hq => hs.2.2.2.owns (h.data q hq) (fun g hg e => own_ne_blk (h.data q hq) h.blk (by decide) (by rw [hg, e]))
  abv := hs.2.2.2.owns h.abv (fun g hg e => own_ne_blk h.abv h.blk (by decide) (by rw [hg, e]))
  apart := h.apart
  few := Nat.le_trans h.few hab

theorem news_lies {ad : Addr} (hl : LiesB w B (some ad) bs) (hf : Frm (fun _ => False) w w') (hB : B ≤ w.heap.size) {lo hi : Nat} (hh : hi ≤ bs.length) :
    ∀ j u, (bvals ((bs.drop lo).take (hi - lo)))[j]? = some u → w'.cell? ((ad.add lo).add j) = some u := by
  intro j u hu
  have hj : j < ((bs.drop lo).take (hi - lo)).length := by
    have := (List.getElem?_eq_some_iff.1 hu).1
    simpa [bvals_length] using this
  have hj2 : lo + j < bs.length := by simp at hj; omega
  obtain ⟨ad', e, hb, hc⟩ := hl (by omega)
  obtain rfl : ad' = ad := (Option.some.inj e).symm
  rw [add_of_add, hf.cell (by rw [block_of_add]; omega) (fun h => h), hc (lo + j) hj2, ← hu, bvals, List.getElem?_map, List.getElem?_eq_getElem hj]
  simp

/-- What is so when a piece has been noted. -/
def Noted (B R : Nat) (A : Option Addr) (c : Nat) (bs : List UInt8) (w w' : World) (a : Nat) (qs : List (Pc × Value)) (p : Pc) (xs : List UInt8) (va : Value) : Prop :=
  ∃ vo' v1, Rd B R A c bs w' a (qs ++ [(p, v1)]) xs vo' va ∧ Frm (fun k => B ≤ k) w w'

theorem noted {p : Pc} {k s : ByteArray} {g1 cap1 g2 cap2 : Nat} {w2 : World} (h : Rd B R A c bs w a qs xs vo va) (hk : kindS p.kind = k) (hs : stateS p.st = s) (hp : p.hi = a) (hlo : p.lo < a) (ha : a ≤ bs.length) (hf : qs.length < a)
    (hown1 : w1.ownsRow B 5 1 (.slice (some ⟨g1, 0, none⟩) (a - p.lo) cap1) (a - p.lo) (bvals ((bs.drop p.lo).take (a - p.lo)))) (hg1 : w.heap.size ≤ g1)
    (hf12 : Frm (fun k => vo.ownBlock = some k) w1 w2) (hf2 : Frm (fun k => vo.ownBlock = some k) w w2)
    (hown2 : w2.ownsRow B 46 6 (.slice (some ⟨g2, 0, none⟩) (qs.length + 1) cap2) (qs.length + 1) (qs.flatMap PcCells ++ [.string k, .slice (some ⟨g1, 0, none⟩) (a - p.lo) cap1, .slice none 0 0, .slice none 0 0, .slice none 0 0, .string s])) :
    Noted B R A c bs w (w2.setCell ⟨R, 2, none⟩ (.slice (some ⟨g2, 0, none⟩) (qs.length + 1) cap2)) a qs p xs va := by
  have hne : vo.ownBlock ≠ some R := own_ne_blk h.out h.blk (by decide)
  have hB : B ≤ w.heap.size := by have := h.hR; have := h.blk.lt; omega
  have b2 : Blk w2 R 30 (RdCells A bs.length c a vo va) := hf2.blk h.blk hne
  have f3 : Frm (fun k => k = R) w2 (w2.setCell ⟨R, 2, none⟩ (.slice (some ⟨g2, 0, none⟩) (qs.length + 1) cap2)) := (Frm.refl (fun k => k = R) w2).setCell (p := ⟨R, 2, none⟩) (fun _ => rfl) _
  have hvo : ∀ g, vo.ownBlock = some g → B ≤ g ∧ g < w.heap.size := fun g hg => h.out.lt g hg
  have keep : ∀ {v : Value} {n : Nat} {ys : List Value}, w.ownsRow B 5 1 v n ys → (w2.setCell ⟨R, 2, none⟩ (.slice (some ⟨g2, 0, none⟩) (qs.length + 1) cap2)).ownsRow B 5 1 v n ys := fun {v n ys} hv => by
    have h2 := hf2.owns hv (fun g hg e => own_ne hv h.out (by decide) hg e)
    exact f3.owns h2 (fun g hg e => own_ne_blk h2 b2 (by decide) (by rw [hg, e]))
  have hdat : (p.data bs) = (bs.drop p.lo).take (a - p.lo) := by unfold Pc.data; rw [hp]
  have hdl : (p.data bs).length = a - p.lo := by rw [hdat, List.length_take, List.length_drop]; omega
  refine ⟨.slice (some ⟨g2, 0, none⟩) (qs.length + 1) cap2, .slice (some ⟨g1, 0, none⟩) (a - p.lo) cap1, ⟨?_, ?_, h.hR, ?_, ?_, keep h.abv, ?_, ?_⟩, ?_⟩
  · exact b2.set_ 2 (.slice (some ⟨g2, 0, none⟩) (qs.length + 1) cap2)
  · have t2 := h.text.frm hf2 hB (fun k hk e => by have := hvo k e; omega)
    exact t2.frm f3 (Nat.le_trans hB hf2.size) (fun k hk e => by have := h.hR; omega)
  · have h3 := f3.owns hown2 (fun g hg e => own_ne_blk hown2 b2 (by decide) (by rw [hg, e]))
    rw [List.length_append, List.flatMap_append]
    simpa [PcCells, hk, hs] using h3
  · intro q hq
    rcases List.mem_append.1 hq with hq | hq
    · exact keep (h.data q hq)
    · obtain rfl : q = (p, .slice (some ⟨g1, 0, none⟩) (a - p.lo) cap1) := by simpa using hq
      have h1 : w1.ownsRow B 5 1 (.slice (some ⟨g1, 0, none⟩) (a - p.lo) cap1) (p.data bs).length (bvals (p.data bs)) := by rw [hdl, hdat]; exact hown1
      have h2 := hf12.owns h1 (fun g hg e => by
        have := hvo g e
        simp [Value.ownBlock] at hg
        omega)
      exact f3.owns h2 (fun g hg e => own_ne_blk h2 b2 (by decide) (by rw [hg, e]))
  · intro q hq g hg e
    rcases List.mem_append.1 hq with hq | hq
    · exact h.apart q hq g hg e
    · obtain rfl : q = (p, .slice (some ⟨g1, 0, none⟩) (a - p.lo) cap1) := by simpa using hq
      have := (h.abv.lt g e).2
      simp [Value.ownBlock] at hg
      omega
  · rw [List.length_append]
    simp
    omega
  · exact (hf2.mono (fun k hk e => (hvo k e).1)).trans' f3 (fun k _ e => by have := h.hR; omega)

theorem cell_set_ne {w : World} {i j : Nat} {u v : Value} (h : w.cell? ⟨R, i, none⟩ = some u) (hij : j ≠ i) : (w.setCell ⟨R, j, none⟩ v).cell? ⟨R, i, none⟩ = some u :=
  (World.cell?_setCell_other w ⟨R, j, none⟩ ⟨R, i, none⟩ v (fun e => hij (congrArg Addr.off e))).trans h

end
end Go.Proofs.YtanllbfpnpojnaaDoor
