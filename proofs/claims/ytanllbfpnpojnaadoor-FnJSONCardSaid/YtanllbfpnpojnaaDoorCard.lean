/- FnJSON: a text of JSON is made of its brackets, keys, strings, numbers and literals, in order, each with its bytes and with what is expected behind it, for every text, whatever unicode.GraphicRanges holds. -/
import Derived.Test.YtanllbfpnpojnaaDoorLaw
import Derived.Test.YtanllbfpnpojnaaDoorTie
import Derived.Test.YtanllbfpnpojnaaDoorCards
import Derived.ProofKit
import Derived.OpenShut
import Derived.Below
import Derived.ChangeSame
import Derived.Deep.DeepHandedRow
import Derived.Lib.LaidTab
import Derived.Stop.LaidErr
import Derived.LaidLaws
set_option linter.unusedVariables false
set_option maxRecDepth 100000
namespace Go.Proofs.YtanllbfpnpojnaaDoor
open Go.ChangeShapes Go.WideShapes Go.ChangeAt Go.RowKit
theorem own : ownKnob Tryd.prog.godebug = none := by kernel_rfl
theorem cells5 : Tryd.prog.cellsOf 5 = 1 := by kernel_rfl

section
variable {H : Type} {enc : TypeId × Value → H}

/-- A text that comes in: its bytes, where they lie, and that it reads so in every world that has turned nothing that was there. -/
theorem open_text {W : World} {base : Nat} {v : Value} {d : DataW H} {p : List MemPlace} (hval : Value.okWide Tryd.prog W .any base 22 v) (h : DataW.Trod enc Tryd.prog W 0 (fun _ => true) true 22 v d p) :
    ∃ (A : Option Addr) (c : Nat) (bs : List UInt8), v = .slice A bs.length c ∧ bs.length ≤ c ∧ c ≤ maxLen ∧ LiesB W W.heap.size A bs ∧
      ∀ (W' : World) (sp : Nat → Bool), Below W.heap.size W W' → (∀ q ∈ p, sp q.block = true) → DataW.Trod enc Tryd.prog W' 0 sp true 22 v d p := by
  obtain ⟨a1, len, cap, rfl⟩ := okWide_slice Tryd.underlying22 hval
  obtain ⟨fuel, hf⟩ := h
  rcases open_ints Tryd.underlying22 Tryd.underlying5 cells5 hf with ⟨hcs, hx⟩ | ⟨a, len', cap', zs, hcs, _, hl, hm, hz, hx, hcell, hwz⟩
  · simp [Value.cells] at hcs
    obtain ⟨rfl, rfl, rfl⟩ := hcs
    simp only [Prod.mk.injEq] at hx
    obtain ⟨rfl, rfl⟩ := hx
    exact ⟨none, 0, [], rfl, Nat.zero_le _, Nat.zero_le _, fun h0 => absurd h0 (by simp), fun W' sp _ _ => shut_slice_nil Tryd.underlying22⟩
  · simp [Value.cells] at hcs
    obtain ⟨rfl, rfl, rfl⟩ := hcs
    simp only [Prod.mk.injEq] at hx
    obtain ⟨rfl, rfl⟩ := hx
    simp only [if_true] at hz
    have hlen : ((zs.take len).map fun n => UInt8.ofNat n.toNat).length = len := by simp; omega
    have hblk : ∀ j, j < zs.length → (a.add j).block < W.heap.size := fun j hj => World.block_lt_of_cell? W _ (hcell j hj)
    refine ⟨some a, cap, (zs.take len).map fun n => UInt8.ofNat n.toNat, by rw [hlen], by rw [hlen]; exact hl, hm, fun h0 => ⟨a, rfl, ?_, fun j hj => ?_⟩, fun W' sp hb hsp => ?_⟩
    · rw [hlen] at h0
      have := hblk 0 (by omega)
      rw [block_of_add] at this
      exact this
    · rw [hlen] at hj
      have hcj := hcell j (by omega)
      rw [hcj]
      have hb := range_u8 hwz j
      simp only [List.getElem_map, List.getElem_take]
      have e : zs.getD j 0 = zs[j]'(by omega) := by simp [List.getD, List.getElem?_eq_getElem (show j < zs.length by omega)]
      rw [List.getD_eq_getElem?_getD] at e
      rw [e] at hb
      rw [List.getD_eq_getElem?_getD, e]
      congr 2
      simp only [UInt8.toNat_ofNat']
      omega
    · refine ⟨2, shut_ints 0 Tryd.underlying22 Tryd.underlying5 cells5 (Nat.zero_le _) hl hm ?_ (fun i hi => ?_) hwz⟩
      · by_cases hc0 : cap = 0
        · split <;> omega
        · have hin : ∃ q ∈ MemPlace.row a zs.length, q.block = a.block := by
            refine ⟨.cell a.block (a.off + 0), ?_, rfl⟩
            simp only [MemPlace.row, List.mem_map, List.mem_range]
            exact ⟨0, by omega, rfl⟩
          obtain ⟨q, hq, he⟩ := hin
          have := hsp q hq
          rw [he] at this
          rw [this, if_pos rfl]
          exact hz
      · rw [hb.cell (hblk i hi)]
        exact hcell i hi

/-- The row's last step, where nothing that was there has turned. -/
theorem post_below {P : Program} {f : Func} {s : ChangeSpec} {apart fresh handsOn again : Bool} {W W' : World} {args : Array Value} {v : Value} {ds gs : List (DataW H)} {before pa pv : List MemPlace}
    (hW : DataW.Whole enc P f.params.toList s.vars apart W args.toList ds gs before)
    (hres : ∀ (b : Nat) (sp : Nat → Bool) (hd : Bool), DataW.TrodAll enc P W' b sp hd f.resultTypes.toList (v.resultList f.resultTypes.size) (s.fn H (ds ++ gs)).results [])
    (hargs : ∀ sp : Nat → Bool, (∀ p ∈ before, sp p.block = true) → DataW.TrodAll enc P W' 0 sp true f.params.toList args.toList (s.fn H (ds ++ gs)).args pa)
    (hvars : ∀ sp : Nat → Bool, (∀ p ∈ before, sp p.block = true) → DataW.TrodVars enc P W' sp s.vars (s.fn H (ds ++ gs)).vars pv)
    (hps : before = pa ++ pv) (hb : Below W.heap.size W W')
    (hok : ∀ (j : Nat) (t : TypeId) (r : Value), f.resultTypes[j]? = some t → (v.resultList f.resultTypes.size)[j]? = some r → Value.okWide P W' .any 0 t r) :
    s.post enc P f apart fresh handsOn again W args v W' := by
  have hlt : ∀ p ∈ before, p.block < W.heap.size := fun p hp => hW.lt p hp
  have hold : ∀ p ∈ before, (fun b => decide (b < W.heap.size)) p.block = true := fun p hp => by simpa using hlt p hp
  refine ⟨ds, gs, before, [], pa, pv, hW, hres _ _ _, hargs _ hold, hvars _ hold, World.keptBut_mono (fun p hp => ⟨hp, ?_⟩) (hb.frame (· ∈ before)), fun _ => ?_⟩
  · rw [hps, List.mem_append] at hp
    exact Or.inr hp
  · obtain ⟨_, _, _, _, _, hz, hn⟩ := hW
    refine ⟨hok, _, _, ([] ++ pa) ++ pv, ⟨[] ++ pa, pv, trodAll_append (hargs _ (fun _ _ => rfl)) (hres _ _ _), hvars _ (fun _ _ => rfl), rfl, ?_, ?_⟩, ?_⟩
    · intro b off hp
      have hin : MemPlace.cell b off ∈ before := by rw [hps]; simpa using hp
      rw [hb.frozen (hlt _ hin)]
      exact hz b off hin
    · intro ha
      have := hn ha
      rw [hps] at this
      simpa using this
    · intro p hp _
      rw [hps]
      simpa using hp
end

/-! What the list lays. -/
def props : List Int := [1, 1, 1, 1, 1, 1, 1, 1, 1, 1, 1, 1, 1, 1, 1, 1, 1, 1, 1, 1, 1, 1, 1, 1,
  1, 1, 1, 1, 1, 1, 1, 1, 144, 130, 130, 130, 136, 130, 130, 130, 130, 130, 130, 136, 130, 130, 130, 130,
  132, 132, 132, 132, 132, 132, 132, 132, 132, 132, 130, 130, 136, 136, 136, 130, 130, 160, 160, 160, 160, 160, 160, 160,
  160, 160, 160, 160, 160, 160, 160, 160, 160, 160, 160, 160, 160, 160, 160, 160, 160, 160, 160, 130, 130, 130, 136, 130,
  136, 192, 192, 192, 192, 192, 192, 192, 192, 192, 192, 192, 192, 192, 192, 192, 192, 192, 192, 192, 192, 192, 192, 192,
  192, 192, 192, 130, 136, 130, 136, 1, 1, 1, 1, 1, 1, 1, 1, 1, 1, 1, 1, 1, 1, 1, 1, 1,
  1, 1, 1, 1, 1, 1, 1, 1, 1, 1, 1, 1, 1, 1, 1, 1, 16, 130, 136, 136, 136, 136, 136, 130,
  136, 136, 224, 130, 136, 0, 136, 136, 136, 136, 132, 132, 136, 192, 130, 130, 136, 132, 224, 130, 132, 132, 132, 130,
  160, 160, 160, 160, 160, 160, 160, 160, 160, 160, 160, 160, 160, 160, 160, 160, 160, 160, 160, 160, 160, 160, 160, 136,
  160, 160, 160, 160, 160, 160, 160, 192, 192, 192, 192, 192, 192, 192, 192, 192, 192, 192, 192, 192, 192, 192, 192, 192,
  192, 192, 192, 192, 192, 192, 192, 136, 192, 192, 192, 192, 192, 192, 192, 192]
def tab32 : List Int := [0, 1, 28, 2, 29, 14, 24, 3, 30, 22, 20, 15, 25, 17, 4, 8, 31, 27, 13, 23, 21, 19, 16, 7,
  26, 12, 18, 6, 11, 5, 10, 9]
def tab64 : List Int := [0, 1, 56, 2, 57, 49, 28, 3, 61, 58, 42, 50, 38, 29, 17, 4, 62, 47, 59, 36, 45, 43, 51, 22,
  53, 39, 33, 30, 24, 18, 12, 5, 63, 55, 48, 27, 60, 41, 37, 16, 46, 35, 44, 21, 52, 32, 23, 11,
  54, 26, 40, 15, 34, 20, 31, 10, 25, 14, 19, 9, 13, 8, 7, 6]
def pow10 : List Int := [1, 10, 100, 1000, 10000, 100000, 1000000, 10000000, 100000000, 1000000000, 10000000000, 100000000000, 1000000000000, 10000000000000, 100000000000000, 1000000000000000, 10000000000000000, 100000000000000000, 1000000000000000000, 10000000000000000000]
def lays : List (String × DataW Unit) := [("math/bits.deBruijn32tab", Rows.laid_math_bits_deBruijn32tab), ("math/bits.deBruijn64tab", Rows.laid_math_bits_deBruijn64tab), ("internal/strconv.uint64pow10", Rows.laid_internal_strconv_uint64pow10), ("io.EOF", Rows.laid_io_EOF), ("unicode.properties", Rows.laid_unicode_properties)]

theorem gEof : Tryd.prog.globalNamed "io.EOF" = some 0 := by kernel_rfl
theorem gEofType : (Tryd.prog.globals[0]?).map (·.type) = some 48 := by kernel_rfl
theorem star : "*" ++ "errors.errorString" = "*errors.errorString" := by decide
theorem row150 (u : TypeId) (h : Tryd.prog.typeName? 3 u = some "*errors.errorString") : u = 150 :=
  typeName_ptr_named (nm := "errors.errorString") (by rw [star]; kernel_rfl) (by kernel_rfl) (by decide) u (by rw [star]; exact h)
theorem cells164 : Tryd.prog.cellsOf 164 = 1 := by kernel_rfl
theorem cells9 : Tryd.prog.cellsOf 9 = 1 := by kernel_rfl
theorem ready_of {W : World} (h : laidMet Tryd.prog lays W) : ∃ a0, W.cell? ⟨0, 0, none⟩ = some (.iface 150 (.pointer (some a0))) := by
  have h3 : laidMet Tryd.prog (("io.EOF", Rows.laid_io_EOF) :: [("unicode.properties", Rows.laid_unicode_properties)]) W := h.tail.tail.tail
  obtain ⟨a0, s0, hv0, _, _, _⟩ := laid_sentinel h3 gEof gEofType Tryd.underlying48 row150 Tryd.underlying150 Tryd.underlying164 rfl rfl Tryd.underlying9 cells164 cells9
  exact ⟨a0, by simpa using World.var?_cell gEof hv0 0⟩
/-! A world for the witness: the settled one, its tables as the list lays them, io.EOF an error of its own. -/
abbrev eofS : ByteArray := { data := #[69, 79, 70] }
noncomputable def low : Nat := (World.holding Tryd.prog default ⟨#[], #[], []⟩).heap.size
def put (w : World) (g : Nat) (cs : Array Value) : World :=
  { w with heap := w.heap.modify g fun
      | .cells _ t frozen => .cells cs t frozen
      | o => o }
noncomputable def laidWorld (os : Os) : World :=
  put (put (put (put (put (World.holding Tryd.prog os ⟨#[.cells #[.string eofS] 164], #[], []⟩) 0 #[.iface 150 (.pointer (some ⟨low, 0, none⟩))])
    1 (props.map (Value.int .u8)).toArray) 4 (pow10.map (Value.int .u64)).toArray) 5 (tab32.map (Value.int .u8)).toArray) 6 (tab64.map (Value.int .u8)).toArray

namespace fnJSON
/-- What the walk gives, for all arguments and each world that holds what the list lays. -/
theorem contract (H : Type) (enc : TypeId × Value → H) (W : World) (base : Nat) (args : Array Value) (ds gs : List (DataW H)) (before : List MemPlace)
    (hval : ∀ (j : Nat) t v, Tryd.f3.params[j]? = some t → args[j]? = some v → Value.okWide Tryd.prog W .any base t v)
    (hW : DataW.Whole enc Tryd.prog Tryd.f3.params.toList Rows.fnJSONSpec.vars false W args.toList ds gs before) (hL : laidMet Tryd.prog lays W) :
    Calls Tryd.prog 3 args W fun e W' => ∃ v, e = .returned v ∧ Rows.fnJSONSpec.post enc Tryd.prog Tryd.f3 false true false false W args v W' := by
  have hW' := hW
  obtain ⟨p, q, hA0, hV, rfl, hfz, hnd⟩ := hW
  have hA : DataW.TrodAll enc Tryd.prog W 0 (fun _ => true) true Tryd.f3.params.toList args.toList ds p := hA0
  rw [Tryd.params3] at hA hval
  obtain ⟨v0, d0, hargs, rfl, h0⟩ := trodAll_one hA
  obtain rfl := hargs
  obtain ⟨A, c, bs, rfl, hc, hcm, hl, hback⟩ := open_text (hval 0 22 v0 rfl rfl) h0
  obtain ⟨rfl, rfl⟩ := trodVars_none hV
  clear hA0
  simp only [List.append_nil] at hW'
  refine (fnJSON_law A c bs W hc hcm hl (ready_of hL)).mono fun e W' ⟨he, hf⟩ => ?_
  subst he
  have hb : Below W.heap.size W W' := hf.below (Nat.le_refl _) (fun _ _ h => h)
  exact ⟨_, rfl, post_below (pa := p) (pv := []) hW' (fun _ _ _ => trodAll_cons_mk (shut_bool Tryd.underlying4 _) trodAll_mk0) (fun sp hsp => show DataW.TrodAll enc Tryd.prog W' 0 sp true [22] [.slice A bs.length c] [d0] p from trodAll_mk1 (hback W' sp hb hsp))
    (fun _ _ => rfl) (by simp) hb (ok_one (by kernel_rfl) rfl (okWide_bool_mk Tryd.underlying4 _))⟩

/-! A world for the witness. -/
theorem laid_met (os : Os) : laidMet Tryd.prog Rows.fnJSONRow.laid ((laidWorld os).forCall (fun _ _ => 0) ⟨#[], #[.slice none 0 0], []⟩).memory :=
  laidMet_of_run' 8 (by kernel_rfl) (by kernel_rfl)
theorem reads (os : Os) {H : Type} (enc : TypeId × Value → H) : ∃ places, DataW.whole enc Tryd.prog ((laidWorld os).forCall (fun _ _ => 0) ⟨#[], #[.slice none 0 0], []⟩).memory Tryd.f3.params.toList Rows.fnJSONSpec.vars false (#[.slice none 0 0] : Array Value).toList 8 = some ([.nil], [], places) :=
  ⟨[], by kernel_rfl⟩

theorem lifted (os : Os) (started : os.Started) (H : Type) (enc : TypeId × Value → H) (F : Stop.Interp) :
    ReturnsInHanded {} Tryd.checked os 3 .any ((OpenSpec.ofChange Rows.fnJSONSpec).preRow enc Tryd.prog Tryd.f3 Rows.fnJSONRow.domain false Rows.fnJSONRow.laid) (((OpenSpec.ofChange Rows.fnJSONSpec).at F).post enc Tryd.prog Tryd.f3 false true false false) := by
  obtain ⟨places, hx⟩ := reads os enc
  refine returnsInHanded_of_row (C := Tryd.checked) (s := OpenSpec.ofChange Rows.fnJSONSpec) own started (by kernel_rfl) Tryd.func3
    (witness_row_at (enc := enc) (C := Tryd.checked) false (laidWorld os) #[.slice none 0 0] rfl (by kernel_rfl) (by kernel_rfl) (by kernel_rfl)
      (OpenSpec.preRow_of_cond 8 hx (by kernel_rfl) (fun k hk => by cases hk) (by kernel_rfl) (laid_met os))) ?_
  intro W base args ds gs before hval hW _ _ _ hL _ _
  exact contract H enc W base args ds gs before hval hW hL

theorem said : Rows.FnJSONSaid :=
  OpenClaim.holds_of_cond 3 Tryd.f3 rfl rfl rfl rfl rfl rfl rfl ⟨rfl, rfl, rfl, rfl, rfl⟩ rfl rfl rfl rfl rfl (by kernel_rfl) Tryd.func3 (by kernel_rfl)
    (of_decide_eq_true (by kernel_rfl)) (by unfold Func.isWrapper; first | (rw [if_pos (by decide +kernel)]; kernel_rfl) | (rw [if_neg (by decide +kernel)]; exact ⟨rfl, rfl⟩))
    (fun os started H enc _ F => by rw [OpenClaim.pre_eq_preRow]; exact lifted os started H enc F)

theorem plain (f : FuncId) (fn : Func) (hf : Tryd.pinned.checked.prog.funcNamed Rows.fnJSONRow.func = some f) (hfn : Tryd.pinned.checked.prog.funcs[f]? = some fn) :
    true = Tryd.pinned.checked.prog.looks [] ∧ ∀ (j : Nat) t, fn.params[j]? = some t → Tryd.pinned.checked.prog.wantsStandIn t = false := by
  obtain rfl : f = 3 := Option.some.inj ((show Tryd.prog.funcNamed Rows.fnJSONRow.func = some 3 by kernel_rfl).symm.trans hf) |>.symm
  obtain rfl : fn = Tryd.f3 := (Option.some.inj (Tryd.func3.symm.trans hfn)).symm
  refine ⟨by kernel_rfl, fun j t ht => ?_⟩
  rw [Tryd.params3] at ht
  obtain rfl : t = 22 := by simpa using Array.mem_of_getElem? ht
  exact (show Tryd.prog.wantsStandIn 22 = false by kernel_rfl)

theorem card : Rows.FnJSONCardSaid :=
  Claim7.holds_tied_plain_at .later [] _ _ _ _ said (fun _ h => by cases h) (by kernel_rfl) (fun _ h => by cases h) fnJSON_row_tie rfl ⟨rfl, rfl⟩ (by kernel_rfl) rfl plain (by kernel_rfl)
end fnJSON
theorem fnJSON_card : Rows.FnJSONCardSaid := fnJSON.card
end Go.Proofs.YtanllbfpnpojnaaDoor
