/- A plain name in JSON's form leads back to the name: no conditions but that each byte is a small letter, a digit, or an underscore ahead of a small letter. -/
import Derived.Test.YtapkmjfjikpnlaaSnake
namespace Go.Proofs.Ytapkmjfjikpnlaa
open Go.RowKit Go.Proofs.YtapkmjfjikpnlaaW.PrintWords Go.Proofs.YtapkmjfjikpnlaaW.PrintMore
set_option linter.unusedVariables false

def plainAt (s : ByteArray) (i : Nat) : Bool := lowB (bt s i) || digitB (bt s i) || (bt s i == 95 && (decide ((i : Int) + 1 < s.size) && lowB (bt s ((i : Int) + 1))))
def plainB (s : ByteArray) : Bool := (List.range s.size).all (plainAt s)

theorem camelI_range : ∀ (l : List Int) (p : Bool), (∀ x ∈ l, 0 ≤ x ∧ x < 256) → ∀ x ∈ camelI p l, 0 ≤ x ∧ x < 256
  | [], _, _, x, hx => by simp [camelI] at hx
  | c :: t, p, h, x, hx => by
    unfold camelI at hx
    have hc := h c List.mem_cons_self
    have ht := fun y hy => h y (List.mem_cons_of_mem _ hy)
    split at hx
    · exact camelI_range t true ht x hx
    · rcases List.mem_cons.1 hx with rfl | hx
      · split
        · unfold upC lowB
          split
          · rename_i hl; simp at hl; omega
          · exact hc
        · exact hc
      · exact camelI_range t false ht x hx
theorem bytesOf_range (s : ByteArray) : ∀ x ∈ bytesOf s, 0 ≤ x ∧ x < 256 := by
  intro x hx
  unfold bytesOf at hx
  obtain ⟨b, _, rfl⟩ := List.mem_map.1 hx
  have := b.toNat_lt
  omega
theorem bytesOf_strOfNums (xs : List Int) (h : ∀ x ∈ xs, 0 ≤ x ∧ x < 256) : bytesOf (strOfNums xs) = xs := by
  unfold bytesOf
  rw [strOfNums_data, List.map_map]
  conv => rhs; rw [← List.map_id xs]
  refine List.map_congr_left fun x hx => ?_
  obtain ⟨h0, h1⟩ := h x hx
  simp only [Function.comp, id]
  rw [UInt8.toNat_ofNat']
  omega
theorem strOfNums_bytesOf (s : ByteArray) : strOfNums (bytesOf s) = s := by
  unfold bytesOf strOfNums
  rw [List.map_map]
  have : (s.data.toList.map ((fun n : Int => UInt8.ofNat n.toNat) ∘ fun b : UInt8 => (b.toNat : Int))) = s.data.toList := by
    conv => rhs; rw [← List.map_id s.data.toList]
    exact List.map_congr_left fun x _ => by simp
  rw [this]

def PlainI (l : List Int) : Prop := ∀ i c, l[i]? = some c → lowB c = true ∨ digitB c = true ∨ (c = 95 ∧ ∃ d, l[i + 1]? = some d ∧ lowB d = true)
theorem PlainI.tail {c : Int} {t : List Int} (h : PlainI (c :: t)) : PlainI t := fun i x hx => by
  have := h (i + 1) x (by simpa using hx)
  simpa using this
theorem low_iff {c : Int} : lowB c = true ↔ 97 ≤ c ∧ c ≤ 122 := by simp [lowB]
theorem digit_iff {c : Int} : digitB c = true ↔ 48 ≤ c ∧ c ≤ 57 := by simp [digitB]
theorem up_of {c : Int} (h : 65 ≤ c ∧ c ≤ 90) : upB c = true := by simp [upB, h]
theorem up_no {c : Int} (h : ¬ (65 ≤ c ∧ c ≤ 90)) : upB c = false := by simp only [upB, Bool.and_eq_false_iff, decide_eq_false_iff_not]; omega
theorem snake_camel : ∀ (n : Nat) (l : List Int), l.length ≤ n → PlainI l → snakeI (camelI false l) = l
  | _, [], _, _ => rfl
  | 0, c :: t, h, _ => by simp at h
  | n + 1, c :: t, h, hp => by
    by_cases hc : c = 95
    · subst hc
      rcases hp 0 95 rfl with h0 | h0 | ⟨_, d, hd, hl⟩
      · exact absurd h0 (by decide)
      · exact absurd h0 (by decide)
      · cases t with
        | nil => simp at hd
        | cons d' t' =>
          obtain rfl : d' = d := by simpa using hd
          have hl2 := low_iff.1 hl
          have e1 : camelI false (95 :: d' :: t') = (d' - 32) :: camelI false t' := by
            rw [camelI, if_pos rfl, camelI, if_neg (by omega), if_pos rfl, upC, if_pos hl]
          have ih := snake_camel n t' (by simp at h; omega) hp.tail.tail
          rw [e1, snakeI, if_pos (up_of (by omega)), ih]
          simp
    · have hc2 : ¬ (65 ≤ c ∧ c ≤ 90) := by
        rcases hp 0 c rfl with h0 | h0 | ⟨h0, _⟩
        · have := low_iff.1 h0; omega
        · have := digit_iff.1 h0; omega
        · exact absurd h0 hc
      have ih := snake_camel n t (by simp at h; omega) hp.tail
      rw [camelI, if_neg hc, if_neg (by simp), snakeI, up_no hc2, if_neg (by simp), ih]
      rfl
theorem bytes_get (s : ByteArray) (i : Nat) : (bytesOf s)[i]? = if i < s.size then some (bt s i) else none := by
  split
  · rename_i h
    have hl : i < (bytesOf s).length := by rw [bytesOf_length]; exact h
    have := rd_bytesOf s (i : Int)
    rw [← this, List.getElem?_eq_getElem hl]
    simp [rd, List.getD_eq_getElem?_getD, List.getElem?_eq_getElem hl]
  · rename_i h
    exact List.getElem?_eq_none (by rw [bytesOf_length]; omega)
theorem plain_of {s : ByteArray} (h : plainB s = true) : PlainI (bytesOf s) := by
  intro i c hc
  rw [bytes_get] at hc
  split at hc
  · rename_i hi
    obtain rfl := Option.some.inj hc
    simp only [plainB, List.all_eq_true, List.mem_range] at h
    have := h i hi
    simp only [plainAt, Bool.or_eq_true, Bool.and_eq_true, decide_eq_true_eq, beq_iff_eq] at this
    rcases this with (h0 | h0) | ⟨h0, h1, h2⟩
    · exact .inl h0
    · exact .inr (.inl h0)
    · refine .inr (.inr ⟨h0, _, ?_, h2⟩)
      rw [bytes_get, if_pos (by omega)]
      rfl
  · cases hc
theorem names_back {s : ByteArray} (h : plainB s = true) : snake (camel s) = s := by
  rw [snake, camel, bytesOf_strOfNums _ (camelI_range _ _ (bytesOf_range s)), snake_camel _ _ (Nat.le_refl _) (plain_of h), strOfNums_bytesOf]
theorem camel_size (s : ByteArray) : (camel s).size ≤ s.size := by
  rw [camel, strOfNums_size]
  exact Nat.le_trans (camelI_len _ _) (by rw [bytesOf_length]; exact Nat.le_refl _)
end Go.Proofs.Ytapkmjfjikpnlaa
