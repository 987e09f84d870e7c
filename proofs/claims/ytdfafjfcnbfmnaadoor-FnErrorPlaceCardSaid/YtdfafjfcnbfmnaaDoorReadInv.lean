/- What holds at each round of reading all bytes of a reader, and what each round does to it. -/
import Derived.Test.YtdfafjfcnbfmnaaDoorRead
set_option linter.unusedVariables false
namespace Go.Proofs.YtdfafjfcnbfmnaaDoor
open Go.RowKit

/-- A byte. -/
def IsB (u : Value) : Prop := ∃ x : Int, u = .int .u8 x
theorem IsB.one {u : Value} (h : IsB u) : u.oneCell' = true := by
  obtain ⟨x, rfl⟩ := h
  rfl

/-- A row of the call's own, known whole: its first n cells are xs, and each cell is a byte. -/
structure Row (w : World) (e : TypeId) (g cap n : Nat) (xs : List Value) (cur : List Value) : Prop where
  row : w.heap[g]? = some (.cells cur.toArray e (0, 0))
  len : cur.length = cap
  le : n ≤ cap
  top : cur.take n = xs
  ones : ∀ u ∈ cur, IsB u

theorem mem_splice {cur cs : List Value} {off : Nat} {u : Value} (h : u ∈ splice cur off cs) : u ∈ cur ∨ u ∈ cs := by
  unfold splice at h
  rcases List.mem_append.1 h with h | h
  · exact .inl (List.mem_of_mem_take h)
  · rcases List.mem_append.1 h with h | h
    · exact .inr h
    · exact .inl (List.mem_of_mem_drop h)

theorem take_splice {cur cs : List Value} {n : Nat} (h : n + cs.length ≤ cur.length) : (splice cur n cs).take (n + cs.length) = cur.take n ++ cs := by
  unfold splice
  rw [← List.append_assoc, List.take_append_of_le_length (by simp only [List.length_append, List.length_take]; omega), List.take_of_length_le]
  simp only [List.length_append, List.length_take]
  omega

/-- append within the capacity: the row is known whole. -/
theorem wpList_append_row {P : Program} (w : World) {ops : Array Oper} {rest : List Oper} {o : Oper} {a : Act} {Q : Exit → Act → World → Prop}
    (hgd : o.guard = none) (s x : Operand) (t : TypeId) (hop : o.op = Op.call { callee := Callee.builtin Builtin.append, args := #[s, x], argTypes := #[t, t] })
    (e : TypeId) (i : TypeInfo) (h1 : P.underlying t = some (.slice e)) (h2 : P.info? e = some i) (h4 : i.size = 1)
    (g k cap : Nat) (xs cur : List Value) (hs : a.eval s = .slice (some ⟨g, 0, none⟩) k cap) (hrow : Row w e g cap k xs cur) (ad : Addr) (m c : Nat) (news : List Value) (hx : a.eval x = .slice (some ad) m c) (hn : news.length = m)
    (hc : ∀ j u, news[j]? = some u → w.cell? (ad.add j) = some u) (h1c : ∀ u ∈ news, IsB u) (b1 : k + m ≤ cap)
    (hK : ∀ w', Hid (Row w' e g cap (k + m) (xs ++ news) (splice cur k news)) → Frm (fun x => x = g) w w' → wpList P ops Q rest (a.put o.dst (.slice (some ⟨g, 0, none⟩) (k + m) cap)) w') :
    wpList P ops Q (o :: rest) a w := by
  refine wpList_plain hgd fun K hK' => ?_
  have hl := hrow.len
  have hrun := run_append_room (P := P) w t o.type e i h1 h2 g k cap cur.toArray hrow.row ad m c news (by rw [h4]; omega) hc (fun u hu => (h1c u hu).one) b1 (by rw [h4]; simp; omega)
  unfold Oper.wp
  simp [execOp, hop, resolve, invoke, builtin, hs, hx, hrun, Result.andThen]
  refine hK' _ _ (hK _ ?_ ((Frm.refl (fun x => x = g) w).setRow (g := g) (fun _ => rfl) _))
  have hl2 : news.length = m := hn
  refine ⟨?_, by rw [length_splice _ _ _ (by omega)]; exact hl, b1, ?_, ?_⟩
  · have hh := setRow_heap w g _ (cur.take k ++ (news ++ cur.drop (k + news.length))).toArray e _ hrow.row
    simpa [splice, h4] using hh
  · have h5 := take_splice (cur := cur) (cs := news) (n := k) (by omega)
    rw [hl2, hrow.top] at h5
    exact h5
  · intro u hu
    rcases mem_splice hu with hu | hu
    · exact hrow.ones u hu
    · exact h1c u hu

/-- The chunks that have been read, and where they lie. -/
def Chunks (B : Nat) (g : Nat) (chs : List (Value × List Value)) (w : World) : Prop :=
  ∀ p ∈ chs, ∃ gc lc cc, p.1 = .slice (some ⟨gc, 0, none⟩) lc cc ∧ gc < g ∧ w.ownsRow B 5 1 p.1 p.2.length p.2

structure RInv (w0 : World) (gr : Nat) (A : Option Addr) (n c : Nat) (src : List Value) (i g l cap : Nat) (cur : List Value) (nx : Nat) (v6 : Value) (chs : List (Value × List Value)) (fs : Nat) (w : World) : Prop where
  frm : Frm (fun k => k = gr) w0 w
  rd : ∃ p, Blk w gr 56 (RdCells A n c i p)
  hi : i ≤ n
  row : w.heap[g]? = some (.cells cur.toArray 5 (0, 0))
  len : cur.length = cap
  ones : ∀ u ∈ cur, IsB u
  lc : l < cap
  c0 : 256 ≤ cap
  cm : cap ≤ maxLen
  new : w0.heap.size ≤ g
  chunks : Chunks w0.heap.size g chs w
  list : w.ownsRow w0.heap.size 22 1 v6 chs.length (chs.map (·.1))
  text : (chs.map (·.2)).flatten ++ cur.take l = src.take i
  sum : fs = (chs.map (·.2)).flatten.length
  pos : chs.length ≤ fs
  nx0 : 256 ≤ nx
  nxf : nx ≤ 256 + fs
  nxc : 2 * nx ≤ 3 * cap

theorem RInv.g_lt {w0 : World} {gr : Nat} {A : Option Addr} {n c : Nat} {src : List Value} {i g l cap : Nat} {cur : List Value} {nx : Nat} {v6 : Value} {chs : List (Value × List Value)} {fs : Nat} {w : World}
    (h : RInv w0 gr A n c src i g l cap cur nx v6 chs fs w) : g < w.heap.size := (Array.getElem?_eq_some_iff.1 h.row).1

/-- The text so far is no longer than the place in the source. -/
theorem RInv.fs_le {w0 : World} {gr : Nat} {A : Option Addr} {n c : Nat} {src : List Value} {i g l cap : Nat} {cur : List Value} {nx : Nat} {v6 : Value} {chs : List (Value × List Value)} {fs : Nat} {w : World}
    (h : RInv w0 gr A n c src i g l cap cur nx v6 chs fs w) : fs + l ≤ i := by
  have ht := congrArg List.length h.text
  have h1 := h.len
  have h2 := h.lc
  have h3 := h.sum
  simp only [List.length_append, List.length_take] at ht
  omega

theorem ownsRow_other_type {w : World} {base : Nat} {e : TypeId} {size n : Nat} {v : Value} {xs : List Value} (h : w.ownsRow base e size v n xs) {g : Nat} {t : TypeId} {cs : Array Value} (hg : Blk w g t cs) (hne : e ≠ t) : v.ownBlock ≠ some g := by
  rcases h.2 with ⟨rfl, _⟩ | ⟨g', cap, cur, rfl, _, hh, _⟩
  · simp [Value.ownBlock]
  · intro he
    have : g' = g := by simpa [Value.ownBlock] using he
    subst this
    exact Blk.ne_ (t := e) hh hg hne rfl

/-- What a read gives: the text goes on. -/
theorem text_on {src pre cur : List Value} {i l m k : Nat} (hl : l + m ≤ cur.length) (hk : ((src.drop i).take m).length = k) (h : pre ++ cur.take l = src.take i) :
    pre ++ (splice cur l ((src.drop i).take m)).take (l + k) = src.take (i + k) := by
  have h1 : (splice cur l ((src.drop i).take m)).take (l + k) = cur.take l ++ (src.drop i).take m := by
    unfold splice
    rw [← List.append_assoc, List.take_append_of_le_length (by simp only [List.length_append, List.length_take] at hk ⊢; omega), List.take_of_length_le]
    simp only [List.length_append, List.length_take] at hk ⊢
    omega
  rw [h1, ← List.append_assoc, h, List.take_add, ← hk]
  congr 1
  rw [List.length_take]
  rcases Nat.le_total m (src.drop i).length with hm | hm
  · rw [Nat.min_eq_left hm]
  · rw [Nat.min_eq_right hm, List.take_of_length_le hm, List.take_of_length_le (Nat.le_refl _)]

section
variable {w0 : World} {gr : Nat} {A : Option Addr} {n c : Nat} {src : List Value} {i g l cap : Nat} {cur : List Value} {nx : Nat} {v6 : Value} {chs : List (Value × List Value)} {fs : Nat} {w w1 w2 : World} {k : Nat} {cur' : List Value}

/-- Behind a read: all but the room left. -/
theorem RInv.read (h : RInv w0 gr A n c src i g l cap cur nx v6 chs fs w) (hgr : gr < w0.heap.size)
    (hf : Frm (fun x => x = gr ∨ x = g) w w1) : Frm (fun x => x = gr) w0 w1 ∧ Chunks w0.heap.size g chs w1 ∧ w1.ownsRow w0.heap.size 22 1 v6 chs.length (chs.map (·.1)) := by
  have hg := h.g_lt
  refine ⟨h.frm.trans' hf fun x hx hs => ?_, fun p hp => ?_, ?_⟩
  · rcases hs with rfl | rfl
    · rfl
    · exact absurd h.new (by omega)
  · obtain ⟨gc, lc, cc, e, hlt, ho⟩ := h.chunks p hp
    refine ⟨gc, lc, cc, e, hlt, hf.owns ho fun x hx hs => ?_⟩
    rw [e] at hx
    obtain rfl : gc = x := by simpa [Value.ownBlock] using hx
    have hb := ho.lt gc (by rw [e]; rfl)
    omega
  · refine hf.owns h.list fun x hx hs => ?_
    rcases hs with rfl | rfl
    · exact absurd (h.list.lt _ hx).1 (by omega)
    · exact ownsRow_other_type h.list (t := 5) h.row (by decide) hx

theorem Chunks.same {B : Nat} (h : Chunks B g chs w) (hf : Frm (fun _ => False) w w1) : Chunks B g chs w1 := fun p hp => by
  obtain ⟨gc, lc, cc, e, hlt, ho⟩ := h p hp
  exact ⟨gc, lc, cc, e, hlt, hf.owns ho fun _ _ h => h⟩
/-- At the end nothing has turned. -/
theorem RInv.same (h : RInv w0 gr A n c src i g l cap cur nx v6 chs fs w) (hf : Frm (fun _ => False) w w1) : RInv w0 gr A n c src i g l cap cur nx v6 chs fs w1 := by
  obtain ⟨p, hp⟩ := h.rd
  exact { h with frm := h.frm.trans (hf.mono fun _ _ h => h.elim), rd := ⟨p, hf.blk hp fun h => h⟩, row := (hf.block g h.g_lt fun h => h).trans h.row, chunks := h.chunks.same hf, list := hf.owns h.list fun _ _ h => h }
/-- The list's own form. -/
theorem RInv.listForm (h : RInv w0 gr A n c src i g l cap cur nx v6 chs fs w) : ∃ A' c6, v6 = .slice A' chs.length c6 := by
  rcases h.list.2 with ⟨e, h0⟩ | ⟨g', cap', cur, e, _⟩
  · exact ⟨none, 0, by rw [e, h0]⟩
  · exact ⟨_, cap', e⟩
/-- All of the source has been read. -/
theorem RInv.total (h : RInv w0 gr A n c src i g l cap cur nx v6 chs fs w) (hi : ¬ i < n) (hl : src.length = n) : fs + l = n ∧ (chs.map (·.2)).flatten ++ cur.take l = src := by
  have h1 := h.hi
  have ht := h.text
  have hsrc : src.take i = src := List.take_of_length_le (by omega)
  rw [hsrc] at ht
  refine ⟨?_, ht⟩
  have h2 := congrArg List.length ht
  have h3 := h.len
  have h4 := h.lc
  have h5 := h.sum
  simp only [List.length_append, List.length_take] at h2
  omega

/-- A round in which the room does for more. -/
theorem RInv.keep (h : RInv w0 gr A n c src i g l cap cur nx v6 chs fs w) (hgr : gr < w0.heap.size) (h1c : ∀ u ∈ src, IsB u) (hk : ((src.drop i).take (cap - l)).length = k) (hcur : splice cur l ((src.drop i).take (cap - l)) = cur')
    (hk2 : i + k ≤ n) (hroom : ¬ (cap : Int) - (l + k) < (cap : Int) / 16)
    (hf : Frm (fun x => x = gr ∨ x = g) w w1) (hb : Blk w1 gr 56 (RdCells A n c (i + k) (-1))) (hr : w1.heap[g]? = some (.cells cur'.toArray 5 (0, 0))) :
    RInv w0 gr A n c src (i + k) g (l + k) cap cur' nx v6 chs fs w1 := by
  obtain ⟨f1, f2, f3⟩ := h.read hgr hf
  have hlen := h.len
  have hlc := h.lc
  have hc0 := h.c0
  exact { frm := f1, rd := ⟨_, hb⟩, hi := hk2, row := hr, len := by rw [← hcur, length_splice _ _ _ (by simp only [List.length_take]; omega), hlen], ones := by
            rw [← hcur]
            intro u hu
            rcases mem_splice hu with hu | hu
            · exact h.ones u hu
            · exact h1c u (List.mem_of_mem_drop (List.mem_of_mem_take hu))
          lc := by omega, c0 := hc0, cm := h.cm, new := h.new, chunks := f2, list := f3,
          text := by rw [← hcur]; exact text_on (by omega) hk h.text, sum := h.sum, pos := h.pos, nx0 := h.nx0, nxf := h.nxf, nxc := h.nxc }

/-- A round that begins a new chunk. -/
theorem RInv.next (h : RInv w0 gr A n c src i g l cap cur nx v6 chs fs w) (hgr : gr < w0.heap.size) (hk : ((src.drop i).take (cap - l)).length = k) (hcur : splice cur l ((src.drop i).take (cap - l)) = cur')
    (hk1 : 0 < k) (hk2 : i + k ≤ n) (hk3 : k ≤ cap - l) (hroom : (cap : Int) - (l + k) < (cap : Int) / 16)
    (hf : Frm (fun x => x = gr ∨ x = g) w w1) (hb : Blk w1 gr 56 (RdCells A n c (i + k) (-1))) (hr : w1.heap[g]? = some (.cells cur'.toArray 5 (0, 0)))
    (o : Obj) (v6' : Value) (hown : w2.ownsRow w0.heap.size 22 1 v6' (chs.length + 1) (chs.map (·.1) ++ [.slice (some ⟨g, 0, none⟩) (l + k) cap])) (hgrow : (w1.alloc o).grownBy w2 v6.ownBlock)
    (zs : Array Value) (cap' : Nat) (hzo : ∀ u ∈ zs.toList, IsB u) (hz : zs.size = cap') (hc' : nx ≤ cap') (hcm : cap' ≤ maxLen) :
    RInv w0 gr A n c src (i + k) w2.heap.size 0 cap' zs.toList (nx + nx / 2) v6' (chs ++ [(.slice (some ⟨g, 0, none⟩) (l + k) cap, cur'.take (l + k))]) (fs + (l + k)) (w2.drew.alloc (.cells zs 5)) := by
  obtain ⟨f1, f2, f3⟩ := h.read hgr hf
  have hlen := h.len
  have hlc := h.lc
  have hc0 := h.c0
  have hnew := h.new
  have hg1 : g < w1.heap.size := (Array.getElem?_eq_some_iff.1 hr).1
  have hgr1 : gr < w1.heap.size := hb.lt
  have hs12 : w1.heap.size + 1 ≤ w2.heap.size := by have := hgrow.size; simpa using this
  have hcl : cur'.length = cap := by rw [← hcur, length_splice _ _ _ (by simp only [List.length_take]; omega), hlen]
  have hx : ∀ x, x < w1.heap.size → v6.ownBlock ≠ some x → w2.heap[x]? = w1.heap[x]? := fun x hx hne => (hgrow.block x (by simp; omega) (fun e => hne e.symm)).trans (Below.heap_alloc w1 o x hx)
  have hv6gr : v6.ownBlock ≠ some gr := fun e => absurd (f3.lt _ e).1 (by omega)
  have hv6g : v6.ownBlock ≠ some g := ownsRow_other_type f3 (t := 5) hr (by decide)
  have hfrm2 : Frm (fun x => x = gr) w0 w2 := f1.trans' (T := fun x => v6.ownBlock = some x) ⟨hgrow.os, hgrow.tape, hgrow.output, by omega, fun x hx' hne => hx x hx' hne⟩ (fun x hx' e => absurd (f3.lt _ e).1 (by omega))
  refine { frm := (hfrm2.drew).alloc _, rd := ⟨-1, ?_⟩, hi := hk2, row := ?_, len := by simpa using hz, ones := hzo, lc := by have := h.nx0; omega, c0 := by have := h.nx0; omega, cm := hcm, new := by have := hfrm2.size; omega, chunks := ?_, list := ?_,
           text := ?_, sum := ?_, pos := ?_, nx0 := by have := h.nx0; omega, nxf := ?_, nxc := by omega }
  · exact Blk.alloc (w := w2.drew) ((hx gr hgr1 hv6gr).trans hb) _
  · exact Blk.new w2.drew 5 zs
  · intro p hp
    rcases List.mem_append.1 hp with hp | hp
    · obtain ⟨gc, lc, cc, e, hlt, ho⟩ := f2 p hp
      refine ⟨gc, lc, cc, e, by omega, ?_⟩
      have hb2 := ho.lt gc (by rw [e]; rfl)
      have hne : v6.ownBlock ≠ some gc := by
        rcases ho.2 with ⟨h1, _⟩ | ⟨g', cap1, cur1, h1, _, hh, _⟩
        · rw [e] at h1; cases h1
        · rw [e] at h1
          injection h1 with h1
          injection h1 with h1
          injection h1 with h1
          subst h1
          exact ownsRow_other_type f3 (t := 5) hh (by decide)
      have hfo : Frm (fun x => v6.ownBlock = some x) w1 w2 := ⟨hgrow.os, hgrow.tape, hgrow.output, by omega, fun x hx' hn => hx x hx' hn⟩
      have h2 := hfo.owns ho (fun x hx' hs => by
        rw [e] at hx'
        obtain rfl : gc = x := by simpa [Value.ownBlock] using hx'
        exact hne hs)
      exact World.ownsRow.alloc (w := w2.drew) h2 _
    · obtain rfl : p = (.slice (some ⟨g, 0, none⟩) (l + k) cap, cur'.take (l + k)) := by simpa using hp
      refine ⟨g, l + k, cap, rfl, by omega, ?_⟩
      have hlk : (cur'.take (l + k)).length = l + k := by rw [List.length_take]; omega
      refine World.ownsRow.alloc (w := w2.drew) ?_ _
      refine ⟨by simp, .inr ⟨g, cap, cur'.toArray, by show Value.slice _ _ _ = Value.slice _ (cur'.take (l + k)).length _; rw [hlk], hnew, (hx g hg1 hv6g).trans hr, by show (cur'.take (l + k)).length ≤ cap; omega, h.cm, by simp [hcl], ?_⟩⟩
      show cur'.toArray.toList.take ((cur'.take (l + k)).length * 1) = _
      rw [hlk]
      simp
  · have := World.ownsRow.alloc (w := w2.drew) hown (.cells zs 5)
    simpa using this
  · have := text_on (pre := (chs.map (·.2)).flatten) (cur := cur) (by omega) hk h.text
    rw [hcur] at this
    simpa using this
  · have hlk : (cur'.take (l + k)).length = l + k := by rw [List.length_take]; omega
    simp only [List.map_append, List.flatten_append, List.length_append, ← h.sum, List.map_cons, List.map_nil, List.flatten_cons, List.flatten_nil, hlk, List.length_nil]
    omega
  · have := h.pos
    simp only [List.length_append, List.length_cons, List.length_nil]
    omega
  · have h1 := h.nxf
    have h2 := h.nxc
    omega

/-- The chunk at place j: where the list holds it, and where its bytes lie. -/
theorem RInv.chunkAt (h : RInv w0 gr A n c src i g l cap cur nx v6 chs fs w) {j : Nat} (hj : j < chs.length) :
    ∃ gc lc cc, chs[j].1 = .slice (some ⟨gc, 0, none⟩) lc cc ∧ chs[j].2.length = lc ∧ (∀ t u, chs[j].2[t]? = some u → w.cell? ((⟨gc, 0, none⟩ : Addr).add t) = some u) ∧ gc < w.heap.size := by
  obtain ⟨gc, lc, cc, e, hlt, ho⟩ := h.chunks chs[j] (List.getElem_mem hj)
  have hlc : chs[j].2.length = lc := by
    rcases ho.2 with ⟨h1, _⟩ | ⟨g', cap1, cur1, h1, _⟩
    · rw [e] at h1; cases h1
    · rw [e] at h1
      injection h1 with _ h1 _
      exact h1.symm
  refine ⟨gc, lc, cc, e, hlc, ho.cells (by rw [e]; rfl), (ho.lt gc (by rw [e]; rfl)).2⟩
theorem ownsRow_form {w : World} {base e size m : Nat} {v : Value} {xs : List Value} (h : w.ownsRow base e size v m xs) (hv : ¬ v = .slice none 0 0) : ∃ g' c', v = .slice (some ⟨g', 0, none⟩) m c' := by
  rcases h.2 with ⟨e', _⟩ | ⟨g', cap', cur', e', _⟩
  · exact absurd e' hv
  · exact ⟨g', cap', e'⟩
theorem RInv.listSome (h : RInv w0 gr A n c src i g l cap cur nx v6 chs fs w) (hj : 0 < chs.length) : ∃ g6 c6, v6 = .slice (some ⟨g6, 0, none⟩) chs.length c6 ∧ g6 < w.heap.size := by
  rcases h.list.2 with ⟨_, h0⟩ | ⟨g', cap', cur', e', _⟩
  · omega
  · exact ⟨g', cap', e', (h.list.lt g' (by rw [e']; rfl)).2⟩
theorem RInv.listCell (h : RInv w0 gr A n c src i g l cap cur nx v6 chs fs w) {g6 c6 : Nat} (he : v6 = .slice (some ⟨g6, 0, none⟩) chs.length c6) {j : Nat} (hj : j < chs.length) : w.cell? ⟨g6, j, none⟩ = some chs[j].1 := by
  have := h.list.cells (g := g6) (by rw [he]; rfl) j chs[j].1 (by simp [hj])
  have ha : (⟨g6, 0, none⟩ : Addr).add j = ⟨g6, j, none⟩ := by unfold Addr.add; split <;> simp_all
  rwa [ha] at this
/-- Each byte of a chunk is one of the source's; the chunks up to a place are no longer than the source. -/
theorem chunk_mem {chs : List (Value × List Value)} {rest src : List Value} (h : (chs.map (·.2)).flatten ++ rest = src) {j : Nat} (hj : j < chs.length) {u : Value} (hu : u ∈ chs[j].2) : u ∈ src := by
  rw [← h]
  exact List.mem_append_left _ (List.mem_flatten.2 ⟨chs[j].2, List.mem_map.2 ⟨chs[j], List.getElem_mem hj, rfl⟩, hu⟩)
theorem chunk_len {chs : List (Value × List Value)} {rest src : List Value} (h : (chs.map (·.2)).flatten ++ rest = src) {j : Nat} (hj : j < chs.length) :
    (((chs.take j).map (·.2)).flatten).length + chs[j].2.length ≤ src.length := by
  have h1 : ((chs.take (j + 1)).map (·.2)).flatten.length ≤ ((chs.map (·.2)).flatten).length := by
    have : chs.map (·.2) = (chs.take (j + 1)).map (·.2) ++ (chs.drop (j + 1)).map (·.2) := by rw [← List.map_append, List.take_append_drop]
    rw [this, List.flatten_append, List.length_append]
    omega
  rw [List.take_succ_eq_append_getElem hj] at h1
  simp only [List.map_append, List.flatten_append, List.length_append, List.map_cons, List.map_nil, List.flatten_cons, List.flatten_nil, List.length_nil] at h1
  have h2 := congrArg List.length h
  rw [List.length_append] at h2
  omega
theorem chunk_snoc {chs : List (Value × List Value)} {j : Nat} (hj : j < chs.length) : ((chs.take (j + 1)).map (·.2)).flatten = ((chs.take j).map (·.2)).flatten ++ chs[j].2 := by
  rw [List.take_succ_eq_append_getElem hj]
  simp only [List.map_append, List.flatten_append, List.map_cons, List.map_nil, List.flatten_cons, List.flatten_nil, List.append_nil]
end
end Go.Proofs.YtdfafjfcnbfmnaaDoor
