/- The program's reading of a text of JSON, where its steps are known. -/
import Derived.Test.YtanllbfpnpojnaaDoorNextC
import Derived.Test.YtanllbfpnpojnaaDoorNextV
import Derived.Test.YtanllbfpnpojnaaDoorNextE
import Derived.Test.YtanllbfpnpojnaaDoorNew
import Derived.Test.YtanllbfpnpojnaaDoorSpecJson
set_option linter.unusedVariables false
namespace Go.Proofs.YtanllbfpnpojnaaDoor
open Go.RowKit

theorem StrTok.le {bs : List UInt8} {i j : Nat} (h : StrTok bs i j) : j ≤ bs.length := by
  have := lt_of_pk (bs := bs) (i := j - 1) (by rw [h.2.2.1]; decide)
  have := h.1
  omega
theorem LitTok.le {bs : List UInt8} {i j : Nat} (h : LitTok bs i j) : i < j ∧ j ≤ bs.length := by
  rcases h with ⟨_, _, _, h, h'⟩ | ⟨_, _, _, _, h, h'⟩ | ⟨_, _, _, h, h'⟩
  · have := lt_of_pk (bs := bs) (i := i + 3) (by omega); omega
  · have := lt_of_pk (bs := bs) (i := i + 4) (by omega); omega
  · have := lt_of_pk (bs := bs) (i := i + 3) (by omega); omega
theorem NumTok.le {bs : List UInt8} {i j : Nat} (h : NumTok bs i j) : j ≤ bs.length := by
  obtain ⟨a, b, c, h1, h2, h3, h4⟩ := h
  have hb : b ≤ bs.length := by
    rcases h2 with ⟨h, e⟩ | ⟨_, _, h, hd⟩
    · have := lt_of_pk (bs := bs) (i := a) (by omega); omega
    · exact hd.le h
  have hc : c ≤ bs.length := by
    rcases h3 with ⟨_, h, hd⟩ | ⟨_, e⟩
    · exact hd.le (by omega)
    · omega
  rcases h4 with ⟨_, _, e⟩ | ⟨_, d, _, h, hd⟩
  · omega
  · exact hd.le h

def Fine (st : List Int) : Prop := ∀ s ∈ st, 0 ≤ s ∧ s ≤ 3
theorem back_fine {x : Int} (h : 0 ≤ x ∧ x ≤ 3) : 0 ≤ back x ∧ back x ≤ 3 := by unfold back; split <;> omega
theorem Step.facts {bs : List UInt8} {i : Nat} {nc : Bool} {st : List Int} {kd : Int} {lo hi i1 : Nat} {nc1 : Bool} {st1 : List Int} {t1 : Int} (h : Step bs i nc st kd lo hi i1 nc1 st1 t1) :
    i < i1 ∧ lo < hi ∧ hi ≤ i1 ∧ i1 ≤ bs.length ∧ 2 ≤ kd ∧ kd ≤ 8 ∧ st1.length ≤ st.length ∧ (Fine st → Fine (st1 ++ [t1])) := by
  cases h with
  | openO hL hk =>
    have := hL.le; have := lt_of_pk (bs := bs) (i := lo) (by omega)
    refine ⟨by omega, by omega, by omega, by omega, by decide, by decide, Nat.le_refl _, fun hf s hs => ?_⟩
    rcases List.mem_append.1 hs with hs | hs
    · exact hf s hs
    · simp at hs; omega
  | openA hL hk =>
    have := hL.le; have := lt_of_pk (bs := bs) (i := lo) (by omega)
    refine ⟨by omega, by omega, by omega, by omega, by decide, by decide, Nat.le_refl _, fun hf s hs => ?_⟩
    rcases List.mem_append.1 hs with hs | hs
    · exact hf s hs
    · simp at hs; omega
  | closeO hB hk =>
    rename_i x
    have := hB.1; have := lt_of_pk (bs := bs) (i := lo) (by omega)
    refine ⟨by omega, by omega, by omega, by omega, by decide, by decide, by simp, fun hf s hs => ?_⟩
    rcases List.mem_append.1 hs with hs | hs
    · exact hf s (by simp [hs])
    · simp at hs
      subst hs
      exact back_fine (hf x (by simp))
  | closeA hB hk =>
    rename_i x
    have := hB.1; have := lt_of_pk (bs := bs) (i := lo) (by omega)
    refine ⟨by omega, by omega, by omega, by omega, by decide, by decide, by simp, fun hf s hs => ?_⟩
    rcases List.mem_append.1 hs with hs | hs
    · exact hf s (by simp [hs])
    · simp at hs
      subst hs
      exact back_fine (hf x (by simp))
  | key hL hT hB hm =>
    rename_i m
    have := hL.le; have := hT.1; have := hB.1; have := lt_of_pk (bs := bs) (i := m) (by omega)
    refine ⟨by omega, by omega, by omega, by omega, by decide, by decide, by simp, fun hf s hs => ?_⟩
    rcases List.mem_append.1 hs with hs | hs
    · exact hf s (by simp [hs])
    · simp at hs; omega
  | str hL ht hT =>
    rename_i top
    have := hL.le; have := hT.1; have := hT.le
    refine ⟨by omega, by omega, by omega, by omega, by decide, by decide, by simp, fun hf s hs => ?_⟩
    rcases List.mem_append.1 hs with hs | hs
    · exact hf s (by simp [hs])
    · simp at hs; subst hs; exact back_fine (hf top (by simp))
  | num hL ht hT =>
    rename_i top
    have := hL.le; have := hT.lt; have := hT.le
    refine ⟨by omega, by omega, by omega, by omega, by decide, by decide, by simp, fun hf s hs => ?_⟩
    rcases List.mem_append.1 hs with hs | hs
    · exact hf s (by simp [hs])
    · simp at hs; subst hs; exact back_fine (hf top (by simp))
  | lit hL ht hT =>
    rename_i top
    have := hL.le; have := hT.le
    refine ⟨by omega, by omega, by omega, by omega, by decide, by decide, by simp, fun hf s hs => ?_⟩
    rcases List.mem_append.1 hs with hs | hs
    · exact hf s (by simp [hs])
    · simp at hs; subst hs; exact back_fine (hf top (by simp))

section
variable {B gp gi gb c : Nat} {r : Value} {bs : List UInt8} {w w' : World} {pos start i lo hi i1 : Nat} {nc nc1 : Bool} {st st1 : List Int} {sv : Value} {kd t1 : Int}
theorem next_step (h : Ps B gp gi gb c r bs w i start nc st sv) (hs : Step bs i nc st kd lo hi i1 nc1 st1 t1) (hn : bs.length ≤ 5000) (hc : c ≤ 9223372036854775807) (hst : st.length ≤ 100000) :
    Calls Tryd.prog 12 #[.pointer (some ⟨gp, 0, none⟩)] w fun e w' => Stepped B gp gi gb c r bs w kd lo hi i1 nc1 (st1 ++ [t1]) e w' := by
  cases hs with
  | openO hL hk => exact next_obj h hL hk hn hc (by simp at hst; omega)
  | openA hL hk => exact next_arr h hL hk hn hc (by simp at hst; omega)
  | closeO hB hk => exact next_endobj h hB hk hn hc (by simp at hst; omega)
  | closeA hB hk => exact next_endarr h hB hk hn hc (by simp at hst; omega)
  | key hL hT hB hm => exact next_key h rfl hL hT hB hm hn hc (by simp at hst; omega)
  | str hL ht hT => exact next_str h ht hL hT hn hc (by simp at hst; omega)
  | num hL ht hT => exact next_num h ht hL hT hT.le hn hc (by simp at hst; omega)
  | lit hL ht hT => exact next_lit h ht hL hT hn hc (by simp at hst; omega)

/-- Other memory has turned. -/
theorem Ps.frm {S : Nat → Prop} (h : Ps B gp gi gb c r bs w pos start nc st sv) (hf : Frm S w w') (hS : ∀ g, S g → ∃ cur, Blk w g 46 cur) : Ps B gp gi gb c r bs w' pos start nc st sv := by
  have key : ∀ {g : Nat} {t : TypeId} {cs : Array Value}, Blk w g t cs → t ≠ 46 → ¬ S g := fun hb ht hg => by
    obtain ⟨cur, hb'⟩ := hS _ hg
    exact hb.ne_ hb' ht rfl
  obtain ⟨cur, hb, hc⟩ := h.buf
  exact ⟨hf.blk h.par (key h.par (by decide)), hf.blk h.inp (key h.inp (by decide)), ⟨cur, hf.blk hb (key hb (by decide)), hc⟩,
    hf.owns h.own (fun g hg => by obtain ⟨_, hb⟩ := ty_of_own h.own hg; exact key hb (by decide)), h.hp, h.hi, h.hb, h.cap⟩
theorem Row.pf {v : Value} {qs : List (Pc × Value)} (h : Row w B bs v qs) (hf : PF B w w') : Row w' B bs v qs :=
  ⟨hf.owns h.1 (by decide) (by decide) (by decide), fun q hq => hf.owns (h.2 q hq) (by decide) (by decide) (by decide)⟩
theorem PF.up (h : PF B w w') : Frm (fun k => B ≤ k) w w' := h.mono (fun k _ hT => hT.1)
theorem Row.none_ {v : Value} {qs : List (Pc × Value)} (h : Row w B bs v qs) (hf : Frm (fun _ => False) w w') : Row w' B bs v qs := h.frm hf (fun _ _ _ h => h)
end
end Go.Proofs.YtanllbfpnpojnaaDoor
