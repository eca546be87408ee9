/- What JSONCamelCase computes, in the package and in the reference, and that the program's functions compute just this, of texts shorter than 2^31. -/
import Derived.Test.YtapkmjfjikpnlaaIdent
namespace Go.Proofs.Ytapkmjfjikpnlaa
open Go.RowKit Go.Proofs.YtapkmjfjikpnlaaW.PrintWords Go.Proofs.YtapkmjfjikpnlaaW.PrintMore
set_option linter.unusedVariables false
set_option linter.unusedSimpArgs false

def lowB (c : Int) : Bool := decide (97 ≤ c) && decide (c ≤ 122)
def upC (c : Int) : Int := if lowB c = true then c - 32 else c
def camelI : Bool → List Int → List Int
  | _, [] => []
  | p, c :: t => if c = 95 then camelI true t else (if p = true then upC c else c) :: camelI false t
def camel (s : ByteArray) : ByteArray := strOfNums (camelI false (bytesOf s))

theorem strLow_c (c : Int) (w : World) : Calls Try.prog 24 #[.int .u8 c] w fun e w' => e = .returned (.bool (lowB c)) ∧ w = w' := by
  cases b4 : decide (97 ≤ c) <;> cases b5 : decide (c ≤ 122)
  all_goals
    have HF := Aside0.mk (show lowB c = _ by rw [lowB, b4, b5])
    go_enter Try.func24, Try.ntmps24
    go_wp2
    go_ret
    exact ⟨by rw [HF.out]; rfl, rfl⟩
theorem isLower_c (c : Int) (w : World) : Calls Try.prog 25 #[.int .u8 c] w fun e w' => e = .returned (.bool (lowB c)) ∧ w = w' := by
  cases b4 : decide (97 ≤ c) <;> cases b5 : decide (c ≤ 122)
  all_goals
    have HF := Aside0.mk (show lowB c = _ by rw [lowB, b4, b5])
    go_enter Try.func25, Try.ntmps25
    go_wp2
    go_ret
    exact ⟨by rw [HF.out]; rfl, rfl⟩
theorem upper_c (c : Int) (w : World) : Calls Try.prog 15 #[.int .u8 c] w fun e w' => e = .returned (.int .u8 (upC c)) ∧ w = w' := by
  cases b : lowB c
  · have HF := Aside0.mk (show upC c = c by rw [upC, b]; rfl)
    go_enter Try.func15, Try.ntmps15
    go_wp2_with (go_at_call 25; (with_reducible refine (isLower_c _ _).mono ?_); rw [b]; rintro e w1 ⟨rfl, rfl⟩)
    go_ret
    exact ⟨by rw [HF.out]; rfl, rfl⟩
  · have HF := Aside0.mk (show upC c = c - 32 by rw [upC, b]; rfl)
    have hb : 97 ≤ c ∧ c ≤ 122 := by simpa [lowB] using b
    obtain ⟨h1, h2⟩ := hb
    go_enter Try.func15, Try.ntmps15
    go_wp2_with (go_at_call 25; (with_reducible refine (isLower_c _ _).mono ?_); rw [b]; rintro e w1 ⟨rfl, rfl⟩)
    go_ret
    exact ⟨by rw [HF.out]; rfl, rfl⟩
theorem same_c (c : Int) (w : World) : Calls Try.prog 16 #[.int .u8 c] w fun e w' => e = .returned (.int .u8 c) ∧ w = w' := by
  go_enter Try.func16, Try.ntmps16
  go_wp2
  go_ret
  exact ⟨rfl, rfl⟩

theorem camelI_len (l : List Int) : ∀ p, (camelI p l).length ≤ l.length := by
  induction l with
  | nil => intro p; simp [camelI]
  | cons c t ih =>
    intro p
    unfold camelI
    split
    · have := ih true; simp; omega
    · have := ih false; simp; omega

/-- where the loop stands at byte i: what is written, and whether an underscore stands before -/
def CamelAt (s : ByteArray) (i : Nat) (out : List Int) (p : Bool) : Prop := out ++ camelI p ((bytesOf s).drop i) = camelI false (bytesOf s) ∧ out.length ≤ i
theorem CamelAt.start (s : ByteArray) : CamelAt s 0 [] false := ⟨rfl, Nat.le_refl _⟩
theorem CamelAt.skip {s : ByteArray} {i : Nat} {out : List Int} {p : Bool} (h : CamelAt s i out p) (hi : i < s.size) (hc : bt s i = 95) : CamelAt s (i + 1) out true := by
  refine ⟨?_, by have := h.2; omega⟩
  have := h.1
  rw [drop_bytes s i hi, camelI, if_pos hc] at this
  exact this
theorem CamelAt.put {s : ByteArray} {i : Nat} {out : List Int} {p : Bool} (h : CamelAt s i out p) (hi : i < s.size) (hc : ¬ bt s i = 95) : CamelAt s (i + 1) (out ++ [if p = true then upC (bt s i) else bt s i]) false := by
  refine ⟨?_, by have := h.2; simp; omega⟩
  have := h.1
  rw [drop_bytes s i hi, camelI, if_neg hc] at this
  rw [List.append_assoc]
  exact this
theorem CamelAt.done {s : ByteArray} {i : Nat} {out : List Int} {p : Bool} (h : CamelAt s i out p) (hi : s.size ≤ i) : strOfNums out = camel s := by
  have := h.1
  rw [drop_bytes_end s i hi, camelI, List.append_nil] at this
  rw [camel, this]

set_option maxHeartbeats 1000000 in
theorem strsCamel_c (s : ByteArray) (w : World) (hs : s.size ≤ 2147483647) :
    Calls Try.prog 13 #[.string s] w fun e w' => e = .returned (.string (camel s)) ∧ Below w.heap.size w w' := by
  go_enter Try.func13, Try.ntmps13
  go_wp2
  go_loopg [3, 4, 5] s.size (fun g v3 v4 v5 w' => ∃ (i : Nat) (out : List Int) (p : Bool), v4 = .bool p ∧ v5 = .int .i64 i ∧ i + g = s.size ∧ Aside0 (CamelAt s i out p) ∧ Aside0 (OwnB w' w.heap.size v3 out) ∧ Aside0 (Below w.heap.size w w'))
  case atStart => exact ⟨0, [], false, rfl, rfl, by simp, ⟨CamelAt.start s⟩, ⟨Kd.R_nil _ _ _ _ _⟩, ⟨Below.refl _ _⟩⟩
  case round =>
    obtain ⟨i, out, p, rfl, rfl, hg, HA, HO, HB⟩ := hrel
    by_cases hlt : i < s.size
    · have hx := bt_at s (i : Int)
      rw [Int.toNat_natCast] at hx
      have HL := Aside0.mk (show out.length + 1 ≤ 140737488355328 by have := HA.out.2; omega)
      obtain ⟨g', rfl⟩ : ∃ g', gk = g' + 1 := ⟨gk - 1, by omega⟩
      by_cases hc : bt s i = 95
      · have HN := Aside0.mk (HA.out.skip hlt hc)
        have c1 := eqT hc
        have c2 := neF hc
        clear hc
        go_wp2
        go_roundg g'
        case measure => omega
        case rel => exact ⟨i + 1, out, true, rfl, by go_num, by omega, HN, HO, HB⟩
      · have HN := Aside0.mk (HA.out.put hlt hc)
        have c1 := eqF hc
        have c2 := neT hc
        cases p
        · replace HN := Aside0.mk (show CamelAt s (i + 1) (out ++ [bt s i]) false from HN.out)
          clear hc
          go_wp2_with (at_builtin; refine app_byte (w0 := w) rfl (.tmp 25) (.tmp 27) rfl (bt s i) rfl rfl ?aO ?aB HL.out ?_; (case aO => exact HO.out); (case aB => exact HB.out); intro v1 w1 ho hb hg; have HO1 := Aside0.mk ho; have HB1 := Aside0.mk hb; clear ho hb hg)
          go_roundg g'
          case measure => omega
          case rel => exact ⟨i + 1, _, false, rfl, by go_num, by omega, HN, HO1, HB1⟩
        · cases bl : lowB (bt s i)
          · replace HN := Aside0.mk (show CamelAt s (i + 1) (out ++ [bt s i]) false by have := HN.out; rwa [if_pos rfl, upC, bl, if_neg (by simp)] at this)
            clear hc
            go_wp2_with (first | (go_at_call 24; (with_reducible refine (strLow_c _ _).mono ?_); rw [bl]; rintro e w1 ⟨rfl, rfl⟩) | (at_builtin; refine app_byte (w0 := w) rfl (.tmp 25) (.tmp 27) rfl (bt s i) rfl rfl ?aO ?aB HL.out ?_; (case aO => exact HO.out); (case aB => exact HB.out); intro v1 w1 ho hb hg; have HO1 := Aside0.mk ho; have HB1 := Aside0.mk hb; clear ho hb hg))
            go_roundg g'
            case measure => omega
            case rel => exact ⟨i + 1, _, false, rfl, by go_num, by omega, HN, HO1, HB1⟩
          · replace HN := Aside0.mk (show CamelAt s (i + 1) (out ++ [bt s i - 32]) false by have := HN.out; rwa [if_pos rfl, upC, bl, if_pos rfl] at this)
            have hb2 : 97 ≤ bt s i ∧ bt s i ≤ 122 := by simpa [lowB] using bl
            obtain ⟨h1, h2⟩ := hb2
            have c3 : ((bt s i - 32) == 95) = false := eqF (by omega)
            clear hc
            go_wp2_with (first | (go_at_call 24; (with_reducible refine (strLow_c _ _).mono ?_); rw [bl]; rintro e w1 ⟨rfl, rfl⟩) | (at_builtin; refine app_byte (w0 := w) rfl (.tmp 25) (.tmp 27) rfl (bt s i - 32) rfl rfl ?aO ?aB HL.out ?_; (case aO => exact HO.out); (case aB => exact HB.out); intro v1 w1 ho hb hg; have HO1 := Aside0.mk ho; have HB1 := Aside0.mk hb; clear ho hb hg))
            go_roundg g'
            case measure => omega
            case rel => exact ⟨i + 1, _, false, rfl, by go_num, by omega, HN, HO1, HB1⟩
    · have hcv := own_str HO.out
      have HE := Aside0.mk (HA.out.done (by omega))
      go_wp2
      go_ret
      exact ⟨by rw [← HE.out]; rfl, HB.out⟩

theorem implCamel_c (s : ByteArray) (w : World) (hs : s.size ≤ 2147483647) :
    Calls Try.prog 6 #[.string s] w fun e w' => e = .returned (.string (camel s)) ∧ Below w.heap.size w w' := by
  go_enter Try.func6, Try.ntmps6
  go_wp2_with (go_at_call 13; (with_reducible refine (strsCamel_c _ _ hs).mono ?_); rintro e w1 ⟨rfl, hb⟩)
  go_ret
  exact ⟨rfl, hb⟩

def PrevIs (s : ByteArray) (i : Nat) (p : Bool) : Prop := p = (decide (0 < i) && bt s ((i - 1 : Nat) : Int) == 95)
set_option maxHeartbeats 1000000 in
theorem words_c (s : ByteArray) (w : World) (hs : s.size ≤ 2147483647) :
    Calls Try.prog 14 #[.string s, .bool false, .func (.func 15) #[] #[], .func (.func 16) #[] #[]] w fun e w' => e = .returned (.string (camel s)) ∧ Below w.heap.size w w' := by
  go_enter Try.func14, Try.ntmps14
  go_wp2
  go_loopg [9, 10] s.size (fun g v9 v10 w' => ∃ (i : Nat) (out : List Int) (p : Bool), v10 = .int .i64 i ∧ i + g = s.size ∧ Aside0 (CamelAt s i out p) ∧ Aside0 (PrevIs s i p) ∧ Aside0 (OwnB w' w.heap.size v9 out) ∧ Aside0 (Below w.heap.size w w'))
  case atStart => exact ⟨0, [], false, rfl, by simp, ⟨CamelAt.start s⟩, ⟨rfl⟩, ⟨Kd.R_nil _ _ _ _ _⟩, ⟨Below.refl _ _⟩⟩
  case round =>
    obtain ⟨i, out, p, rfl, hg, HA, HP, HO, HB⟩ := hrel
    by_cases hlt : i < s.size
    · have hx := bt_at s (i : Int)
      rw [Int.toNat_natCast] at hx
      have HL := Aside0.mk (show out.length + 1 ≤ 140737488355328 by have := HA.out.2; omega)
      obtain ⟨g', rfl⟩ : ∃ g', gk = g' + 1 := ⟨gk - 1, by omega⟩
      by_cases hc : bt s i = 95
      · have HN := Aside0.mk (HA.out.skip hlt hc)
        have HQ := Aside0.mk (show PrevIs s (i + 1) true by simp [PrevIs, hc])
        have c1 := eqT hc
        clear hc
        go_wp2
        go_roundg g'
        case measure => omega
        case rel => exact ⟨i + 1, out, true, by go_num, by omega, HN, HQ, HO, HB⟩
      · have HN := Aside0.mk (HA.out.put hlt hc)
        have HQ := Aside0.mk (show PrevIs s (i + 1) false by simp [PrevIs, hc])
        have c1 := eqF hc
        clear hc
        by_cases h0 : i = 0
        · subst h0
          replace HN := Aside0.mk (show CamelAt s (0 + 1) (out ++ [bt s 0]) false by have := HN.out; rwa [show p = false from HP.out, if_neg (by simp)] at this)
          have c1 : (bt s 0 == 95) = false := c1
          have hx : ∀ h : 0 < s.size, ((s[0]'h).toNat : Int) = bt s 0 := bt_at s 0
          go_wp2_with (first | (go_at_call 16; (with_reducible refine (same_c _ _).mono ?_); rintro e w1 ⟨rfl, rfl⟩) | (at_builtin; refine app_byte (w0 := w) rfl (.tmp 17) (.tmp 23) rfl (bt s 0) rfl rfl ?aO ?aB HL.out ?_; (case aO => exact HO.out); (case aB => exact HB.out); intro v1 w1 ho hb hg; have HO1 := Aside0.mk ho; have HB1 := Aside0.mk hb; clear ho hb hg))
          go_roundg g'
          case measure => omega
          case rel => exact ⟨0 + 1, _, false, by go_num, by omega, HN, HQ, HO1, HB1⟩
        · obtain ⟨m, rfl⟩ : ∃ m, i = m + 1 := ⟨i - 1, by omega⟩
          have hp : p = (bt s (m : Int) == 95) := by have := HP.out; simpa [PrevIs] using this
          have hy := bt_at s (m : Int)
          rw [Int.toNat_natCast] at hy
          have c1 : (bt s ((m : Int) + 1) == 95) = false := c1
          have hx : ∀ h : m + 1 < s.size, ((s[m + 1]'h).toNat : Int) = bt s ((m : Int) + 1) := hx
          have m0 : (((m : Int) + 1) == 0) = false := eqF (by omega)
          cases p
          · have c5 : (bt s (m : Int) == 95) = false := hp.symm
            replace HN := Aside0.mk (show CamelAt s (m + 1 + 1) (out ++ [bt s ((m : Int) + 1)]) false from HN.out)
            clear hp
            go_wp2_with (first | (go_at_call 16; (with_reducible refine (same_c _ _).mono ?_); rintro e w1 ⟨rfl, rfl⟩) | (at_builtin; refine app_byte (w0 := w) rfl (.tmp 17) (.tmp 23) rfl (bt s ((m : Int) + 1)) rfl rfl ?aO ?aB HL.out ?_; (case aO => exact HO.out); (case aB => exact HB.out); intro v1 w1 ho hb hg; have HO1 := Aside0.mk ho; have HB1 := Aside0.mk hb; clear ho hb hg))
            go_roundg g'
            case measure => omega
            case rel => exact ⟨m + 1 + 1, _, false, by go_num, by omega, HN, HQ, HO1, HB1⟩
          · have c5 : (bt s (m : Int) == 95) = true := hp.symm
            replace HN := Aside0.mk (show CamelAt s (m + 1 + 1) (out ++ [upC (bt s ((m : Int) + 1))]) false from HN.out)
            clear hp
            go_wp2_with (first | (go_at_call 15; (with_reducible refine (upper_c _ _).mono ?_); rintro e w1 ⟨rfl, rfl⟩) | (at_builtin; refine app_byte (w0 := w) rfl (.tmp 47) (.tmp 53) rfl (upC (bt s ((m : Int) + 1))) rfl rfl ?aO ?aB HL.out ?_; (case aO => exact HO.out); (case aB => exact HB.out); intro v1 w1 ho hb hg; have HO1 := Aside0.mk ho; have HB1 := Aside0.mk hb; clear ho hb hg))
            go_roundg g'
            case measure => omega
            case rel => exact ⟨m + 1 + 1, _, false, by go_num, by omega, HN, HQ, HO1, HB1⟩
    · have hcv := own_str HO.out
      have HE := Aside0.mk (HA.out.done (by omega))
      go_wp2
      go_ret
      exact ⟨by rw [← HE.out]; rfl, HB.out⟩
theorem specCamel_c (s : ByteArray) (w : World) (hs : s.size ≤ 2147483647) :
    Calls Try.prog 7 #[.string s] w fun e w' => e = .returned (.string (camel s)) ∧ Below w.heap.size w w' := by
  go_enter Try.func7, Try.ntmps7
  go_wp2_with (go_at_call 14; (with_reducible refine (words_c _ _ hs).mono ?_); rintro e w1 ⟨rfl, hb⟩)
  go_ret
  exact ⟨rfl, hb⟩
end Go.Proofs.Ytapkmjfjikpnlaa
