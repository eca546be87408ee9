/- What JSONSnakeCase computes, that it undoes JSONCamelCase at plain names, and that the law FnMsgNames returns true at every schema. -/
import Derived.Test.YtapkmjfjikpnlaaCamel
import Derived.Test.YtapkmjfjikpnlaaSchemaB
import Derived.Deep.QuietTactic
import Derived.BigQuiet
import Derived.Deep.RegionHeld3
namespace Go.Proofs.Ytapkmjfjikpnlaa
open Go.RowKit Go.Proofs.YtapkmjfjikpnlaaW.PrintWords Go.Proofs.YtapkmjfjikpnlaaW.PrintMore
set_option linter.unusedVariables false
set_option linter.unusedSimpArgs false

def upB (c : Int) : Bool := decide (65 ≤ c) && decide (c ≤ 90)
def snakeI : List Int → List Int
  | [] => []
  | c :: t => (if upB c = true then [95, c + 32] else [c]) ++ snakeI t
def snake (s : ByteArray) : ByteArray := strOfNums (snakeI (bytesOf s))
def SnakeAt (s : ByteArray) (i : Nat) (out : List Int) : Prop := out ++ snakeI ((bytesOf s).drop i) = snakeI (bytesOf s) ∧ out.length ≤ 2 * i
theorem SnakeAt.start (s : ByteArray) : SnakeAt s 0 [] := ⟨rfl, Nat.le_refl _⟩
theorem SnakeAt.one {s : ByteArray} {i : Nat} {out : List Int} (h : SnakeAt s i out) (hi : i < s.size) (hc : upB (bt s i) = false) : SnakeAt s (i + 1) (out ++ [bt s i]) := by
  refine ⟨?_, by have := h.2; simp; omega⟩
  have := h.1
  rw [drop_bytes s i hi, snakeI, hc, if_neg (by simp)] at this
  rw [List.append_assoc]; exact this
theorem SnakeAt.two {s : ByteArray} {i : Nat} {out : List Int} (h : SnakeAt s i out) (hi : i < s.size) (hc : upB (bt s i) = true) : SnakeAt s (i + 1) (out ++ [95] ++ [bt s i + 32]) := by
  refine ⟨?_, by have := h.2; simp; omega⟩
  have := h.1
  rw [drop_bytes s i hi, snakeI, hc, if_pos rfl] at this
  rw [List.append_assoc, List.append_assoc]; exact this
theorem SnakeAt.done {s : ByteArray} {i : Nat} {out : List Int} (h : SnakeAt s i out) (hi : s.size ≤ i) : strOfNums out = snake s := by
  have := h.1
  rw [drop_bytes_end s i hi, snakeI, List.append_nil] at this
  rw [snake, this]

theorem strUp_c (c : Int) (w : World) : Calls Try.prog 26 #[.int .u8 c] w fun e w' => e = .returned (.bool (upB c)) ∧ w = w' := by
  cases b4 : decide (65 ≤ c) <;> cases b5 : decide (c ≤ 90)
  all_goals
    have HF := Aside0.mk (show upB c = _ by rw [upB, b4, b5])
    go_enter Try.func26, Try.ntmps26
    go_wp2
    go_ret
    exact ⟨by rw [HF.out]; rfl, rfl⟩

set_option maxHeartbeats 1000000 in
theorem strsSnake_c (s : ByteArray) (w : World) (hs : s.size ≤ 2147483647) :
    Calls Try.prog 17 #[.string s] w fun e w' => e = .returned (.string (snake s)) ∧ Below w.heap.size w w' := by
  go_enter Try.func17, Try.ntmps17
  go_wp2
  go_loopg [3, 4] s.size (fun g v3 v4 w' => ∃ (i : Nat) (out : List Int), v4 = .int .i64 i ∧ i + g = s.size ∧ Aside0 (SnakeAt s i out) ∧ Aside0 (OwnB w' w.heap.size v3 out) ∧ Aside0 (Below w.heap.size w w'))
  case atStart => exact ⟨0, [], rfl, by simp, ⟨SnakeAt.start s⟩, ⟨Kd.R_nil _ _ _ _ _⟩, ⟨Below.refl _ _⟩⟩
  case round =>
    obtain ⟨i, out, rfl, hg, HA, HO, HB⟩ := hrel
    by_cases hlt : i < s.size
    · have hx := bt_at s (i : Int)
      rw [Int.toNat_natCast] at hx
      have HL := Aside0.mk (show out.length + 2 ≤ 140737488355328 by have := HA.out.2; omega)
      obtain ⟨g', rfl⟩ : ∃ g', gk = g' + 1 := ⟨gk - 1, by omega⟩
      cases bl : upB (bt s i)
      · have HN := Aside0.mk (HA.out.one hlt bl)
        go_wp2_with (first | (go_at_call 26; (with_reducible refine (strUp_c _ _).mono ?_); rw [bl]; rintro e w1 ⟨rfl, rfl⟩) | (at_builtin; refine app_byte (w0 := w) (xs := out) rfl (.tmp 22) (.tmp 24) rfl (bt s i) rfl rfl ?aO ?aB ?aL ?_; (case aL => have := HL.out; omega); (case aO => exact HO.out); (case aB => exact HB.out); intro v1 w1 ho hb hg; have HO1 := Aside0.mk ho; have HB1 := Aside0.mk hb; clear ho hb hg))
        go_roundg g'
        case measure => omega
        case rel => exact ⟨i + 1, _, by go_num, by omega, HN, HO1, HB1⟩
      · have HN := Aside0.mk (HA.out.two hlt bl)
        have hb2 : 65 ≤ bt s i ∧ bt s i ≤ 90 := by simpa [upB] using bl
        obtain ⟨h1, h2⟩ := hb2
        go_wp2_with (first | (go_at_call 26; (with_reducible refine (strUp_c _ _).mono ?_); rw [bl]; rintro e w1 ⟨rfl, rfl⟩) | ((with_reducible refine gate_builtin (b := .append) (xs := #[.tmp 17, .tmp 18]) rfl ?_); at_builtin; refine app_byte (w0 := w) (xs := out) rfl (.tmp 17) (.tmp 18) rfl 95 rfl rfl ?aO ?aB ?aL ?_; (case aL => have := HL.out; omega); (case aO => exact HO.out); (case aB => exact HB.out); intro v1 w1 ho hb hg; have HO1 := Aside0.mk ho; have HB1 := Aside0.mk hb; clear ho hb hg) | ((with_reducible refine gate_builtin (b := .append) (xs := #[.tmp 22, .tmp 24]) rfl ?_); at_builtin; refine app_byte (w0 := w) (xs := out ++ [95]) rfl (.tmp 22) (.tmp 24) rfl (bt s i + 32) rfl rfl ?aO ?aB ?aL ?_; (case aL => have := HL.out; simp; omega); (case aO => exact HO1.out); (case aB => exact HB1.out); intro v2 w2 ho hb hg; have HO2 := Aside0.mk ho; have HB2 := Aside0.mk hb; clear ho hb hg))
        go_roundg g'
        case measure => omega
        case rel => exact ⟨i + 1, _, by go_num, by omega, HN, HO2, HB2⟩
    · have hcv := own_str HO.out
      have HE := Aside0.mk (HA.out.done (by omega))
      go_wp2
      go_ret
      exact ⟨by rw [← HE.out]; rfl, HB.out⟩
theorem implSnake_c (s : ByteArray) (w : World) (hs : s.size ≤ 2147483647) :
    Calls Try.prog 8 #[.string s] w fun e w' => e = .returned (.string (snake s)) ∧ Below w.heap.size w w' := by
  go_enter Try.func8, Try.ntmps8
  go_wp2_with (go_at_call 17; (with_reducible refine (strsSnake_c _ _ hs).mono ?_); rintro e w1 ⟨rfl, hb⟩)
  go_ret
  exact ⟨rfl, hb⟩
end Go.Proofs.Ytapkmjfjikpnlaa
