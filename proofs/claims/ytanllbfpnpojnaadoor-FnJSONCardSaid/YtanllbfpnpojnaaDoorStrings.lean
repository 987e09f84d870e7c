/- The reference's strings of JSON. -/
import Derived.Test.YtanllbfpnpojnaaDoorReader
set_option linter.unusedVariables false
namespace Go.Proofs.YtanllbfpnpojnaaDoor
open Go.RowKit

/-- A byte that is no mark, no backslash and not 0. -/
def Tame (b : Int) : Prop := b ≠ 0 ∧ b ≠ 34 ∧ b ≠ 92
/-- What stands behind a backslash. -/
def EscTok (bs : List UInt8) (a b : Nat) : Prop := a < b ∧ pk bs a ≠ 0 ∧ ∀ m, a < m → m < b → Tame (pk bs m)
theorem StrPre.plains {bs : List UInt8} {i k : Nat} (h : StrPre bs i k) : ∀ n, (∀ m, k ≤ m → m < k + n → Tame (pk bs m)) → StrPre bs i (k + n)
  | 0, _ => h
  | n + 1, hm => by
    have h1 := StrPre.plains h n (fun m h1 h2 => hm m h1 (by omega))
    obtain ⟨t0, t1, t2⟩ := hm (k + n) (by omega) (by omega)
    exact h1.plain t0 t1 t2
theorem StrPre.esc_ {bs : List UInt8} {i k b : Nat} (h : StrPre bs i k) (h0 : pk bs k = 92) (he : EscTok bs (k + 1) b) : StrPre bs i b := by
  obtain ⟨hlt, h1, h2⟩ := he
  have := (h.escaped h0 h1).plains (b - (k + 2)) (fun m hm hm' => h2 m (by omega) (by omega))
  rwa [show k + 2 + (b - (k + 2)) = b by omega] at this

set_option maxHeartbeats 400000 in
theorem hexValue_any (b : Int) (w : World) (h0 : 0 ≤ b) (h1 : b < 256) : Calls Tryd.prog 50 #[.int .u8 b] w fun e w' => (∃ v : Int, e = .returned (.int .i64 v) ∧ (0 ≤ v → Tame b)) ∧ w = w' := by
  by_cases hd : 48 ≤ b ∧ b ≤ 57
  · have HD := Lib.hid hd
    have hT : Hid (Tame b) := by obtain ⟨_, _⟩ := hd; exact ⟨by omega, by omega, by omega⟩
    obtain ⟨_, _⟩ := hd
    go_enter Tryd.func50, Tryd.ntmps50
    go_wp2_with (go_at_call 51; refine (isDigit_yes _ _ HD.out).mono ?_; rintro e w'' ⟨rfl, rfl⟩)
    go_ret
    exact ⟨⟨_, rfl, fun _ => hT.out⟩, rfl⟩
  · have HD := Lib.hid hd
    clear hd
    by_cases h2 : 97 ≤ b
    · by_cases h3 : b ≤ 102
      · go_enter Tryd.func50, Tryd.ntmps50
        go_wp2_with (go_at_call 51; refine (isDigit_no _ _ HD.out).mono ?_; rintro e w'' ⟨rfl, rfl⟩)
        go_ret
        exact ⟨⟨_, rfl, fun _ => ⟨by omega, by omega, by omega⟩⟩, rfl⟩
      · have h4 : 65 ≤ b := by omega
        have h5 : ¬ b ≤ 70 := by omega
        go_enter Tryd.func50, Tryd.ntmps50
        go_wp2_with (go_at_call 51; refine (isDigit_no _ _ HD.out).mono ?_; rintro e w'' ⟨rfl, rfl⟩)
        go_ret
        exact ⟨⟨_, rfl, fun h => absurd h (by decide)⟩, rfl⟩
    · by_cases h4 : 65 ≤ b
      · by_cases h5 : b ≤ 70
        · go_enter Tryd.func50, Tryd.ntmps50
          go_wp2_with (go_at_call 51; refine (isDigit_no _ _ HD.out).mono ?_; rintro e w'' ⟨rfl, rfl⟩)
          go_ret
          exact ⟨⟨_, rfl, fun _ => ⟨by omega, by omega, by omega⟩⟩, rfl⟩
        · go_enter Tryd.func50, Tryd.ntmps50
          go_wp2_with (go_at_call 51; refine (isDigit_no _ _ HD.out).mono ?_; rintro e w'' ⟨rfl, rfl⟩)
          go_ret
          exact ⟨⟨_, rfl, fun h => absurd h (by decide)⟩, rfl⟩
      · go_enter Tryd.func50, Tryd.ntmps50
        go_wp2_with (go_at_call 51; refine (isDigit_no _ _ HD.out).mono ?_; rintro e w'' ⟨rfl, rfl⟩)
        go_ret
        exact ⟨⟨_, rfl, fun h => absurd h (by decide)⟩, rfl⟩

section
variable {B R : Nat} {A : Option Addr} {c : Nat} {bs : List UInt8} {vo va : Value} {w1 w w' : World} {a : Nat}

/-- It answers a truth, the reader stands at a place, and Q is so of both. -/
def SaysAt (bs : List UInt8) (S : World → Nat → Prop) (Q : Bool → Nat → Prop) (e : Ending) (w : World) : Prop := ∃ ok b, e = .returned (.bool ok) ∧ b ≤ bs.length + 1 ∧ S w b ∧ Q ok b

set_option maxHeartbeats 1600000 in
theorem escape_s (h : Rs B R A c bs vo va w1 w a) (hn : bs.length ≤ 2147483647) (ha : a ≤ bs.length) :
    Calls Tryd.prog 41 #[.pointer (some ⟨R, 0, none⟩)] w fun e w' => SaysAt bs (Rs B R A c bs vo va w1) (fun ok b => ok = true → b ≤ bs.length ∧ EscTok bs a b) e w' := by
  have HS := Lib.hid h
  clear h
  by_cases hs : pk bs a = 34 ∨ pk bs a = 92 ∨ pk bs a = 47 ∨ pk bs a = 98 ∨ pk bs a = 102 ∨ pk bs a = 110 ∨ pk bs a = 114 ∨ pk bs a = 116
  · have hlt : a < bs.length := lt_of_pk (by omega)
    have hE : Hid (EscTok bs a (a + 1)) := ⟨by omega, by omega, fun m h1 h2 => absurd h1 (by omega)⟩
    generalize hx : pk bs a = x at *
    rcases hs with rfl | rfl | rfl | rfl | rfl | rfl | rfl | rfl
    all_goals
      go_enter Tryd.func41, Tryd.ntmps41
      go_wp2_with (go_at_call 18; refine (peek_s HS.out hn (by omega)).mono ?_; rintro e w' ⟨rfl, hS'⟩; rw [hx]; have g1 := hS'.c1; have gf := hS'.f1)
      go_ret
      exact ⟨true, a + 1, rfl, by omega, hS'.inc, fun _ => ⟨by omega, hE.out⟩⟩
  · have HNS := Lib.hid hs
    have d1 : (pk bs a == 34) = false := by rw [beq_eq_false_iff_ne]; omega
    have d2 : (pk bs a == 92) = false := by rw [beq_eq_false_iff_ne]; omega
    have d3 : (pk bs a == 47) = false := by rw [beq_eq_false_iff_ne]; omega
    have d4 : (pk bs a == 98) = false := by rw [beq_eq_false_iff_ne]; omega
    have d5 : (pk bs a == 102) = false := by rw [beq_eq_false_iff_ne]; omega
    have d6 : (pk bs a == 110) = false := by rw [beq_eq_false_iff_ne]; omega
    have d7 : (pk bs a == 114) = false := by rw [beq_eq_false_iff_ne]; omega
    have d8 : (pk bs a == 116) = false := by rw [beq_eq_false_iff_ne]; omega
    clear hs
    by_cases hu : pk bs a = 117
    · have hlt : a < bs.length := lt_of_pk (by omega)
      have hz : Hid (pk bs a ≠ 0) := by show pk bs a ≠ 0; omega
      have du : (pk bs a == 117) = true := by rw [beq_iff_eq]; exact hu
      clear hu
      generalize hx : pk bs a = x at *
      go_enter Tryd.func41, Tryd.ntmps41
      go_wp2_with (go_at_call 18; refine (peek_s HS.out hn (by omega)).mono ?_; rintro e w' ⟨rfl, hS'⟩; rw [hx]; have g1 := hS'.c1; have gf := hS'.f1)
      have HS1 := Lib.hid hS'
      clear hS' g1 gf
      go_loopg [25] 5 (fun k v25 wr => ∃ j : Nat, j ≤ 4 ∧ a + 1 + j ≤ bs.length ∧ v25 = .int .i64 (j : Int) ∧ Hid (k = 5 - j) ∧ Hid (∀ m, a < m → m < a + 1 + j → Tame (pk bs m)) ∧ Hid (Rs B R A c bs vo va w1 wr (a + 1 + j)))
      case atStart => exact ⟨0, by omega, by omega, rfl, rfl, fun m h1 h2 => absurd h1 (by omega), HS1.out.inc⟩
      case round =>
        obtain ⟨j, hj, hjn, rfl, HK, HB, HR⟩ := hrel
        have p0 := pk_nonneg bs (a + 1 + j)
        have p1 := pk_lt_256 bs (a + 1 + j)
        by_cases hj4 : j < 4
        · have hj4' : (j : Int) < 4 := by omega
          go_wp2_with (first
            | (go_at_call 18; refine (peek_s HR.out hn (by omega)).mono ?_; rintro e w' ⟨rfl, hS'⟩; have g1 := hS'.c1; have gf := hS'.f1)
            | (go_at_call 50; refine (hexValue_any _ _ p0 p1).mono ?_; rintro e w'' ⟨⟨v, rfl, hv⟩, rfl⟩; by_cases hv0 : v < 0))
          · go_ret
            exact ⟨false, a + 1 + j, rfl, by omega, hS', fun h => absurd h (by decide)⟩
          · have hT := Lib.hid (hv (by omega))
            have hb : a + 1 + j < bs.length := lt_of_pk hT.out.1
            go_wp2
            go_roundg (5 - (j + 1))
            case measure => have := HK.out; omega
            case rel => exact ⟨j + 1, by omega, by omega, by go_num, rfl, fun m h1 h2 => by
              rcases Nat.lt_or_ge m (a + 1 + j) with h3 | h3
              · exact HB.out m h1 h3
              · obtain rfl : m = a + 1 + j := by omega
                exact hT.out, hS'.inc⟩
        · have hj4' : ¬ (j : Int) < 4 := by omega
          go_wp2
          go_ret
          exact ⟨true, a + 1 + j, rfl, by omega, HR.out, fun _ => ⟨by omega, by omega, by rw [hx]; exact hz.out, HB.out⟩⟩
    · have du : (pk bs a == 117) = false := by rw [beq_eq_false_iff_ne]; exact hu
      clear hu
      generalize hx : pk bs a = x at *
      go_enter Tryd.func41, Tryd.ntmps41
      go_wp2_with (go_at_call 18; refine (peek_s HS.out hn (by omega)).mono ?_; rintro e w' ⟨rfl, hS'⟩; rw [hx]; have g1 := hS'.c1; have gf := hS'.f1)
      go_ret
      exact ⟨false, a + 1, rfl, by omega, hS'.inc, fun h => absurd h (by decide)⟩

set_option maxHeartbeats 1600000 in
theorem quoted_s (h : Rs B R A c bs vo va w1 w a) (hn : bs.length ≤ 2147483647) (ha : a ≤ bs.length + 1) :
    Calls Tryd.prog 22 #[.pointer (some ⟨R, 0, none⟩)] w fun e w' => SaysAt bs (Rs B R A c bs vo va w1) (fun ok b => ok = true → b ≤ bs.length ∧ StrTok bs a b) e w' := by
  have HS := Lib.hid h
  clear h
  by_cases hq : pk bs a = 34
  · have hlt : a < bs.length := lt_of_pk (by omega)
    have HQ := Lib.hid hq
    clear hq
    go_enter Tryd.func22, Tryd.ntmps22
    go_wp2_with (go_at_call 18; refine (peek_s HS.out hn ha).mono ?_; rintro e w' ⟨rfl, hS'⟩; rw [HQ.out]; have g1 := hS'.c1; have gf := hS'.f1)
    have HS1 := Lib.hid hS'
    clear hS' g1 gf
    go_loopg [3] (bs.length - a) (fun k v3 wr => ∃ b : Nat, b ≤ bs.length ∧ Hid (k = bs.length + 1 - b) ∧ Hid (StrPre bs a b) ∧ Hid (Rs B R A c bs vo va w1 wr b))
    case atStart => exact ⟨a + 1, by omega, by show bs.length - a = bs.length + 1 - (a + 1); omega, StrPre.start HQ.out, HS1.out.inc⟩
    case round =>
      obtain ⟨b, hb, HK, HP, HR⟩ := hrel
      by_cases h32 : 32 ≤ pk bs b
      · have hbn : b < bs.length := lt_of_pk (by omega)
        have HX : Hid (32 ≤ pk bs b) := h32
        by_cases h34 : pk bs b = 34
        · have HT : Hid (StrTok bs a (b + 1)) := HP.out.close h34
          generalize hx : pk bs b = x at *
          have e1 : (x == 34) = true := by rw [beq_iff_eq]; exact h34
          clear h34
          go_wp2_with (go_at_call 18; refine (peek_s (by first | exact HR.out | assumption) hn (by omega)).mono ?_; rintro e w' ⟨rfl, hS'⟩; rw [hx]; have g1 := hS'.c1; have gf := hS'.f1)
          go_ret
          exact ⟨true, b + 1, rfl, by omega, (by assumption : Rs B R A c bs vo va w1 _ b).inc, fun _ => ⟨by omega, HT.out⟩⟩
        · by_cases h92 : pk bs b = 92
          · have H92 := Lib.hid h92
            generalize hx : pk bs b = x at *
            have e1 : (x == 34) = false := by rw [beq_eq_false_iff_ne]; exact h34
            have e2 : (x == 92) = true := by rw [beq_iff_eq]; exact h92
            clear h34 h92
            go_wp2_with (first
              | (go_at_call 18; refine (peek_s (by first | exact HR.out | assumption) hn (by omega)).mono ?_; rintro e w' ⟨rfl, hS'⟩; rw [hx]; have g1 := hS'.c1; have gf := hS'.f1)
              | (go_at_call 41; refine (escape_s (Rs.inc (by assumption)) hn (by omega)).mono ?_; rintro e w'' ⟨ok, b', rfl, hb', hS'', hok⟩; cases ok))
            · go_ret
              exact ⟨false, b', rfl, by omega, by assumption, fun h => absurd h (by decide)⟩
            · obtain ⟨hb1, hE⟩ := hok (by first | rfl | trivial)
              have HE : Hid (StrPre bs a b') := HP.out.esc_ (by rw [hx]; exact H92.out) hE
              have hlt' : b + 1 < b' := hE.1
              clear hE hok
              go_wp2
              go_roundg (bs.length + 1 - b')
              case measure => have := HK.out; omega
              case rel => exact ⟨b', hb1, rfl, HE.out, by assumption⟩
          · have HT : Hid (StrPre bs a (b + 1)) := HP.out.plain (by omega) h34 h92
            generalize hx : pk bs b = x at *
            have e1 : (x == 34) = false := by rw [beq_eq_false_iff_ne]; exact h34
            have e2 : (x == 92) = false := by rw [beq_eq_false_iff_ne]; exact h92
            clear h34 h92
            go_wp2_with (go_at_call 18; refine (peek_s (by first | exact HR.out | assumption) hn (by omega)).mono ?_; rintro e w' ⟨rfl, hS'⟩; rw [hx]; have g1 := hS'.c1; have gf := hS'.f1)
            go_roundg (bs.length + 1 - (b + 1))
            case measure => have := HK.out; omega
            case rel => exact ⟨b + 1, by omega, rfl, HT.out, (by assumption : Rs B R A c bs vo va w1 _ b).inc⟩
      · go_wp2_with (go_at_call 18; refine (peek_s HR.out hn (by omega)).mono ?_; rintro e w' ⟨rfl, hS'⟩)
        go_ret
        exact ⟨false, b, rfl, by omega, hS', fun h => absurd h (by decide)⟩
  · have hq' : ¬ pk bs a = 34 := hq
    go_enter Tryd.func22, Tryd.ntmps22
    go_wp2_with (go_at_call 18; refine (peek_s HS.out hn ha).mono ?_; rintro e w' ⟨rfl, hS'⟩)
    go_ret
    exact ⟨false, a, rfl, by omega, hS', fun h => absurd h (by decide)⟩
end
end Go.Proofs.YtanllbfpnpojnaaDoor
