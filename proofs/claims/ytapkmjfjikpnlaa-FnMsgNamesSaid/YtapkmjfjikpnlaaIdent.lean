/- What letter, digit, ident and sortOf compute, and that the program's functions compute just this; no conditions. -/
import Derived.Test.YtapkmjfjikpnlaaFits
namespace Go.Proofs.Ytapkmjfjikpnlaa
open Go.RowKit Go.Proofs.YtapkmjfjikpnlaaW.PrintWords Go.Proofs.YtapkmjfjikpnlaaW.PrintMore
set_option linter.unusedVariables false
set_option linter.unusedSimpArgs false

theorem eqT {a b : Int} (h : a = b) : (a == b) = true := beq_iff_eq.mpr h
theorem eqF {a b : Int} (h : ¬ a = b) : (a == b) = false := beq_eq_false_iff_ne.mpr h
theorem neT {a b : Int} (h : ¬ a = b) : (a != b) = true := bne_iff_ne.mpr h
theorem neF {a b : Int} (h : a = b) : (a != b) = false := bne_eq_false_iff_eq.mpr h
theorem range_all_succ {p : Nat → Bool} {i : Nat} (h : (List.range i).all p = true) (hp : p i = true) : (List.range (i + 1)).all p = true := by
  rw [List.range_succ, List.all_append, h]; simp [hp]
theorem range_all_no {p : Nat → Bool} {i n : Nat} (hi : i < n) (hp : p i = false) : (List.range n).all p = false :=
  Bool.eq_false_iff.2 fun h => by rw [List.all_eq_true] at h; rw [h i (List.mem_range.2 hi)] at hp; cases hp

theorem letter_c (c : Int) (w : World) : Calls Try.prog 20 #[.int .u8 c] w fun e w' => e = .returned (.bool (letterB c)) ∧ w = w' := by
  cases b1 : (c == 95) <;> cases b2 : decide (97 ≤ c) <;> cases b3 : decide (c ≤ 122) <;> cases b4 : decide (65 ≤ c) <;> cases b5 : decide (c ≤ 90)
  all_goals
    have HF := Aside0.mk (show letterB c = _ by rw [letterB, b1, b2, b3, b4, b5])
    go_enter Try.func20, Try.ntmps20
    go_wp2
    go_ret
    exact ⟨by rw [HF.out]; rfl, rfl⟩

theorem digit_c (c : Int) (w : World) : Calls Try.prog 21 #[.int .u8 c] w fun e w' => e = .returned (.bool (digitB c)) ∧ w = w' := by
  cases b4 : decide (48 ≤ c) <;> cases b5 : decide (c ≤ 57)
  all_goals
    have HF := Aside0.mk (show digitB c = _ by rw [digitB, b4, b5])
    go_enter Try.func21, Try.ntmps21
    go_wp2
    go_ret
    exact ⟨by rw [HF.out]; rfl, rfl⟩

set_option maxHeartbeats 400000 in
theorem ident_c (s : ByteArray) (w : World) (hs : s.size ≤ 2147483647) : Calls Try.prog 11 #[.string s] w fun e w' => e = .returned (.bool (identB s)) ∧ w = w' := by
  go_enter Try.func11, Try.ntmps11
  go_wp2
  go_loopg [3] s.size (fun g v3 w' => ∃ i : Nat, v3 = .int .i64 i ∧ i + g = s.size ∧ Aside0 ((List.range i).all (identAt s) = true) ∧ w = w')
  case atStart => exact ⟨0, rfl, by simp, ⟨by simp⟩, rfl⟩
  case round =>
    obtain ⟨i, rfl, hg, HA, rfl⟩ := hrel
    by_cases hlt : i < s.size
    · have hx := bt_at s (i : Int)
      rw [Int.toNat_natCast] at hx
      cases b1 : letterB (bt s i)
      · by_cases hi : i = 0
        · subst hi
          clear hx
          have b1 : letterB (bt s 0) = false := b1
          have HF := Aside0.mk (show identB s = false by rw [identB, range_all_no hlt (by simp [identAt, b1])]; rfl)
          have hx : ∀ h : 0 < s.size, ((s[0]'h).toNat : Int) = bt s 0 := bt_at s 0
          go_wp2_with (go_at_call 20; (with_reducible refine (letter_c _ _).mono ?_); rw [b1]; rintro e w1 ⟨rfl, rfl⟩)
          go_ret
          exact ⟨by rw [HF.out]; rfl, rfl⟩
        · have hi0 : ((i : Int) == 0) = false := eqF (by omega)
          cases b2 : digitB (bt s i)
          · have HF := Aside0.mk (show identB s = false by rw [identB, range_all_no hlt (by simp [identAt, b1, b2])]; rfl)
            go_wp2_with (first | (go_at_call 20; (with_reducible refine (letter_c _ _).mono ?_); rw [b1]; rintro e w1 ⟨rfl, rfl⟩) | (go_at_call 21; (with_reducible refine (digit_c _ _).mono ?_); rw [b2]; rintro e w1 ⟨rfl, rfl⟩))
            go_ret
            exact ⟨by rw [HF.out]; rfl, rfl⟩
          · have HA2 := Aside0.mk (range_all_succ HA.out (show identAt s i = true by simp [identAt, b2, hi]))
            go_wp2_with (first | (go_at_call 20; (with_reducible refine (letter_c _ _).mono ?_); rw [b1]; rintro e w1 ⟨rfl, rfl⟩) | (go_at_call 21; (with_reducible refine (digit_c _ _).mono ?_); rw [b2]; rintro e w1 ⟨rfl, rfl⟩))
            obtain ⟨g', rfl⟩ : ∃ g', gk = g' + 1 := ⟨gk - 1, by omega⟩
            go_roundg g'
            case measure => omega
            case rel => exact ⟨i + 1, by go_num, by omega, HA2, rfl⟩
      · have HA2 := Aside0.mk (range_all_succ HA.out (show identAt s i = true by simp [identAt, b1]))
        go_wp2_with (go_at_call 20; (with_reducible refine (letter_c _ _).mono ?_); rw [b1]; rintro e w1 ⟨rfl, rfl⟩)
        obtain ⟨g', rfl⟩ : ∃ g', gk = g' + 1 := ⟨gk - 1, by omega⟩
        go_roundg g'
        case measure => omega
        case rel => exact ⟨i + 1, by go_num, by omega, HA2, rfl⟩
    · obtain rfl : i = s.size := by omega
      by_cases h0 : s.size = 0
      · have HF := Aside0.mk (show identB s = false by simp [identB, h0])
        have hn : s.toList.isEmpty = true := by rw [isEmpty_size]; simp [h0]
        go_wp2
        go_ret
        exact ⟨by rw [HF.out]; rfl, rfl⟩
      · have HF := Aside0.mk (show identB s = true by rw [identB, HA.out]; simp [h0])
        have hn : s.toList.isEmpty = false := by rw [isEmpty_size]; simp [h0]
        go_wp2
        go_ret
        exact ⟨by rw [HF.out]; rfl, rfl⟩

def sortOf (k : Int) : Int :=
  if k = 8 then 1 else if k = 5 ∨ k = 3 ∨ k = 17 ∨ k = 18 ∨ k = 15 ∨ k = 16 then 2 else if k = 13 ∨ k = 4 ∨ k = 7 ∨ k = 6 then 3
  else if k = 2 ∨ k = 1 then 4 else if k = 9 then 5 else if k = 12 then 6 else if k = 14 then 7 else if k = 11 ∨ k = 10 then 8 else 0
theorem sortOf_c (k : Int) (w : World) : Calls Try.prog 22 #[.int .i64 k] w fun e w' => e = .returned (.int .i64 (sortOf k)) ∧ w = w' := by
  by_cases h : k = 8 ∨ k = 5 ∨ k = 3 ∨ k = 17 ∨ k = 18 ∨ k = 15 ∨ k = 16 ∨ k = 13 ∨ k = 4 ∨ k = 7 ∨ k = 6 ∨ k = 2 ∨ k = 1 ∨ k = 9 ∨ k = 12 ∨ k = 14 ∨ k = 11 ∨ k = 10
  · rcases h with rfl | rfl | rfl | rfl | rfl | rfl | rfl | rfl | rfl | rfl | rfl | rfl | rfl | rfl | rfl | rfl | rfl | rfl
    all_goals
      go_enter Try.func22, Try.ntmps22
      go_wp2
      go_ret
      exact ⟨rfl, rfl⟩
  · simp only [not_or] at h
    obtain ⟨a1, a2, a3, a4, a5, a6, a7, a8, a9, a10, a11, a12, a13, a14, a15, a16, a17, a18⟩ := h
    have HF := Aside0.mk (show sortOf k = 0 by simp [sortOf, *])
    replace a1 := eqF a1; replace a2 := eqF a2; replace a3 := eqF a3; replace a4 := eqF a4; replace a5 := eqF a5; replace a6 := eqF a6
    replace a7 := eqF a7; replace a8 := eqF a8; replace a9 := eqF a9; replace a10 := eqF a10; replace a11 := eqF a11; replace a12 := eqF a12
    replace a13 := eqF a13; replace a14 := eqF a14; replace a15 := eqF a15; replace a16 := eqF a16; replace a17 := eqF a17; replace a18 := eqF a18
    go_enter Try.func22, Try.ntmps22
    go_wp2
    go_ret
    exact ⟨by rw [HF.out]; rfl, rfl⟩
end Go.Proofs.Ytapkmjfjikpnlaa
