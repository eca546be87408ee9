/- What mapFits and fieldFits compute of a field's type, and that the program's functions compute just this; no conditions. -/
import Derived.Test.YtapkmjfjikpnlaaIdent
namespace Go.Proofs.Ytapkmjfjikpnlaa
open Go.RowKit Go.Proofs.YtapkmjfjikpnlaaW.PrintWords Go.Proofs.YtapkmjfjikpnlaaW.PrintMore
set_option linter.unusedVariables false
set_option linter.unusedSimpArgs false

def keyBytes : List UInt8 := [107, 101, 121]
def valueBytes : List UInt8 := [118, 97, 108, 117, 101]
def keySort (k : Int) : Bool := sortOf k == 1 || sortOf k == 2 || sortOf k == 3 || sortOf k == 5
def entryB (l : List FT) : Bool := match l with
  | [a, b] => decide (a.name.toList = keyBytes) && decide (b.name.toList = valueBytes) && !a.rep && !b.rep && keySort a.kind
  | _ => false
def mapB (ms : List MT) (f : FT) : Bool := f.rep && decide (f.kind = 11) && match ms[f.typ.toNat]? with
  | some m => entryB m.fields
  | none => false
def fieldB (ms : List MT) (es : List ET) (f : FT) : Bool :=
  identB f.name && decide (1 ≤ f.num) && decide (f.num ≤ 536870911) && decide (f.kind ≠ 10) && decide (sortOf f.kind ≠ 0) &&
  (decide (sortOf f.kind ≠ 7) || (decide (0 ≤ f.typ) && decide (f.typ < es.length))) && (decide (sortOf f.kind ≠ 8) || (decide (0 ≤ f.typ) && decide (f.typ < ms.length))) &&
  (!f.map || mapB ms f)
theorem cell_new {w w1 : World} {cs : Array Value} {t : TypeId} (hb : Below (w.alloc (.cells cs t)).heap.size (w.alloc (.cells cs t)) w1) (j : Nat) (v : Value) (hv : cs[j]? = some v) : w1.cell? ⟨w.heap.size, j, none⟩ = some v := by
  rw [hb.cell (p := ⟨w.heap.size, j, none⟩) (by simp)]
  rw [cell_of_row (w.alloc (.cells cs t)) w.heap.size j cs t (0, 0) (heap_alloc_new w _)]
  exact hv

set_option maxHeartbeats 1000000 in
theorem mapFits_c (ms : List MT) (f : FT) (bmp : Bool) (A0 : Option Addr) (c0 : Nat) (v1 : Value) (hv1 : v1.oneCell' = true) (w : World) (hr0 : Kd.C kMT w A0 ms.length ms) (hk : f.kind = 11 → 0 ≤ f.typ ∧ f.typ < ms.length) :
    Calls Try.prog 23 #[.agg #[.slice A0 ms.length c0, v1], .agg #[.string f.name, .int .i64 f.num, .int .i64 f.kind, .bool f.rep, .bool bmp, .int .i64 f.typ]] w fun e w' => e = .returned (.bool (mapB ms f)) ∧ Below w.heap.size w w' := by
  have HR0 := Aside0.mk hr0
  have HK := Aside0.mk hk
  clear hr0 hk
  cases br : f.rep
  · have HF := Aside0.mk (show mapB ms f = false by simp [mapB, br])
    go_enter Try.func23, Try.ntmps23
    go_wp2
    go_ret
    exact ⟨by rw [HF.out]; rfl, below_alloc (below_alloc (Below.refl _ _) _) _⟩
  · by_cases bk : f.kind = 11
    · have hk1 := eqT bk
      have hk2 := neF bk
      obtain ⟨h0, h1⟩ := HK.out bk
      have BK := Aside0.mk bk
      clear bk
      obtain ⟨i, hi⟩ := Int.eq_ofNat_of_zero_le h0
      have hlt : i < ms.length := by omega
      have HI := Aside0.mk hi
      obtain ⟨m, hm⟩ := get_ex hlt
      obtain ⟨ad, A1, c1', rfl, g0, g1, g2, g3⟩ := atMT (Kd.C_alloc (Kd.C_alloc HR0.out (.cells #[.slice A0 ms.length c0, v1] 25)) (.cells #[.string f.name, .int .i64 f.num, .int .i64 f.kind, .bool true, .bool bmp, .int .i64 i] 31)) hm.out
      have G3 := Aside0.mk g3
      clear g2 g3
      have HE := Aside0.mk (show mapB ms f = entryB m.fields by simp [mapB, br, BK.out, hi, hm.out])
      rw [hi]
      clear hi h0 h1
      by_cases hl : m.fields.length = 2
      · have hl1 := eqT (show (m.fields.length : Int) = 2 by omega)
        have hl2 := neF (show (m.fields.length : Int) = 2 by omega)
        obtain ⟨a, ha⟩ := get_ex (show 0 < m.fields.length by omega)
        obtain ⟨b, hb⟩ := get_ex (show 1 < m.fields.length by omega)
        obtain ⟨ad1, e1, p0, p1, p2, p3, p4, p5⟩ := atFT G3.out ha.out
        obtain ⟨ad2, e2, q0, q1, q2, q3, q4, q5⟩ := atFT G3.out hb.out
        cases e1
        cases e2
        rw [add0] at p0 p1 p2 p3 p4 p5
        rw [add1, addp _ 6 (by decide)] at q0 q1 q2 q3 q4 q5
        dsimp only at q0 q1 q2 q3 q4 q5
        clear p1 p4 p5 q1 q2 q4 q5
        have HM := Aside0.mk (show m.fields = [a, b] by
          rcases hf : m.fields with _ | ⟨x, _ | ⟨y, _ | ⟨z, l⟩⟩⟩ <;> rw [hf] at hl <;> try (simp at hl)
          have h1 := ha.out
          have h2 := hb.out
          rw [hf] at h1 h2
          cases h1
          cases h2
          rfl)
        have HE2 := Aside0.mk (show mapB ms f = entryB [a, b] by rw [HE.out, HM.out])
        clear HE
        cases n1 : (a.name.toList == [107, 101, 121])
        · have HF := Aside0.mk (show entryB [a, b] = false by simp [entryB, keyBytes, beq_eq_false_iff_ne.1 n1])
          go_enter Try.func23, Try.ntmps23
          go_wp2
          go_ret
          exact ⟨by rw [HE2.out, HF.out]; rfl, below_alloc (below_alloc (Below.refl _ _) _) _⟩
        · cases n2 : (b.name.toList == [118, 97, 108, 117, 101])
          · have HF := Aside0.mk (show entryB [a, b] = false by simp [entryB, valueBytes, beq_eq_false_iff_ne.1 n2])
            go_enter Try.func23, Try.ntmps23
            go_wp2
            go_ret
            exact ⟨by rw [HE2.out, HF.out]; rfl, below_alloc (below_alloc (Below.refl _ _) _) _⟩
          · cases r1 : a.rep
            · cases r2 : b.rep
              · have HG := Aside0.mk (show entryB [a, b] = keySort a.kind by simp [entryB, keyBytes, valueBytes, beq_iff_eq.1 n1, beq_iff_eq.1 n2, r1, r2])
                obtain ⟨sv, hsv⟩ : ∃ sv, Aside0 (sortOf a.kind = sv) := ⟨_, ⟨rfl⟩⟩
                have HK2 := Aside0.mk (show keySort a.kind = (sv == 1 || sv == 2 || sv == 3 || sv == 5) by rw [keySort, hsv.out])
                by_cases c1 : sv = 1 ∨ sv = 2 ∨ sv = 3 ∨ sv = 5
                · rcases c1 with rfl | rfl | rfl | rfl
                  all_goals
                    go_enter Try.func23, Try.ntmps23
                    go_wp2_with (go_at_call 22; (with_reducible refine (sortOf_c _ _).mono ?_); rw [hsv.out]; rintro e w1 ⟨rfl, rfl⟩)
                    go_ret
                    exact ⟨by rw [HE2.out, HG.out, HK2.out]; rfl, below_alloc (below_alloc (Below.refl _ _) _) _⟩
                · simp only [not_or] at c1
                  obtain ⟨k1, k2, k3, k5⟩ := c1
                  replace k1 := eqF k1
                  replace k2 := eqF k2
                  replace k3 := eqF k3
                  replace k5 := eqF k5
                  have HF := Aside0.mk (show keySort a.kind = false by rw [HK2.out, k1, k2, k3, k5]; rfl)
                  go_enter Try.func23, Try.ntmps23
                  go_wp2_with (go_at_call 22; (with_reducible refine (sortOf_c _ _).mono ?_); rw [hsv.out]; rintro e w1 ⟨rfl, rfl⟩)
                  go_ret
                  exact ⟨by rw [HE2.out, HG.out, HF.out]; rfl, below_alloc (below_alloc (Below.refl _ _) _) _⟩
              · have HF := Aside0.mk (show entryB [a, b] = false by simp [entryB, r2])
                go_enter Try.func23, Try.ntmps23
                go_wp2
                go_ret
                exact ⟨by rw [HE2.out, HF.out]; rfl, below_alloc (below_alloc (Below.refl _ _) _) _⟩
            · have HF := Aside0.mk (show entryB [a, b] = false by simp [entryB, r1])
              go_enter Try.func23, Try.ntmps23
              go_wp2
              go_ret
              exact ⟨by rw [HE2.out, HF.out]; rfl, below_alloc (below_alloc (Below.refl _ _) _) _⟩
      · have hl1 := eqF (show ¬ (m.fields.length : Int) = 2 by omega)
        have hl2 := neT (show ¬ (m.fields.length : Int) = 2 by omega)
        have HF := Aside0.mk (show entryB m.fields = false by
          rcases hf : m.fields with _ | ⟨a, _ | ⟨b, _ | ⟨c, l⟩⟩⟩ <;> first | rfl | (rw [hf] at hl; simp at hl))
        clear hl
        go_enter Try.func23, Try.ntmps23
        go_wp2
        go_ret
        exact ⟨by rw [HE.out, HF.out]; rfl, below_alloc (below_alloc (Below.refl _ _) _) _⟩
    · have hk1 := eqF bk
      have hk2 := neT bk
      have HF := Aside0.mk (show mapB ms f = false by simp [mapB, bk])
      go_enter Try.func23, Try.ntmps23
      go_wp2
      go_ret
      exact ⟨by rw [HF.out]; rfl, below_alloc (below_alloc (Below.refl _ _) _) _⟩
set_option maxHeartbeats 1000000 in
theorem fieldFits_c (ms : List MT) (es : List ET) (f : FT) (A0 : Option Addr) (c0 : Nat) (A1 : Option Addr) (c1 : Nat) (w : World) (hr0 : Kd.C kMT w A0 ms.length ms) (hsz : f.name.size ≤ 2147483647) :
    Calls Try.prog 12 #[.agg #[.slice A0 ms.length c0, .slice A1 es.length c1], .agg #[.string f.name, .int .i64 f.num, .int .i64 f.kind, .bool f.rep, .bool f.map, .int .i64 f.typ]] w fun e w' => e = .returned (.bool (fieldB ms es f)) ∧ Below w.heap.size w w' := by
  have HR0 := Aside0.mk hr0
  clear hr0
  cases bi : identB f.name
  · have HF := Aside0.mk (show fieldB ms es f = false by simp [fieldB, bi])
    go_enter Try.func12, Try.ntmps12
    go_wp2_with (go_at_call 11; (with_reducible refine (ident_c _ _ hsz).mono ?_); rw [bi]; rintro e w1 ⟨rfl, rfl⟩)
    go_ret
    exact ⟨by rw [HF.out]; rfl, below_alloc (below_alloc (Below.refl _ _) _) _⟩
  · cases b1 : decide (f.num < 1)
    · cases b2 : decide (536870911 < f.num)
      · by_cases b3 : f.kind = 10
        · have HF := Aside0.mk (show fieldB ms es f = false by simp [fieldB, b3])
          replace b3 := eqT b3
          go_enter Try.func12, Try.ntmps12
          go_wp2_with (go_at_call 11; (with_reducible refine (ident_c _ _ hsz).mono ?_); rw [bi]; rintro e w1 ⟨rfl, rfl⟩)
          go_ret
          exact ⟨by rw [HF.out]; rfl, below_alloc (below_alloc (Below.refl _ _) _) _⟩
        · obtain ⟨sv, hsv⟩ : ∃ sv, Aside0 (sortOf f.kind = sv) := ⟨_, ⟨rfl⟩⟩
          have HB := Aside0.mk (show fieldB ms es f = (decide (sv ≠ 0) && (decide (sv ≠ 7) || (decide (0 ≤ f.typ) && decide (f.typ < es.length))) && (decide (sv ≠ 8) || (decide (0 ≤ f.typ) && decide (f.typ < ms.length))) && (!f.map || mapB ms f)) by
            have := of_decide_eq_false b1
            have := of_decide_eq_false b2
            simp only [fieldB, bi, hsv.out, b3, show (1 ≤ f.num) = True by simp; omega, show (f.num ≤ 536870911) = True by simp; omega]
            simp [b3])
          have HK11 := Aside0.mk (show f.kind = 11 → sv = 8 by intro h; rw [← hsv.out, h]; rfl)
          replace b3 := eqF b3
          by_cases s0 : sv = 0
          · subst s0
            have HF := Aside0.mk (show fieldB ms es f = false by rw [HB.out]; rfl)
            go_enter Try.func12, Try.ntmps12
            go_wp2_with (first | (go_at_call 11; (with_reducible refine (ident_c _ _ hsz).mono ?_); rw [bi]; rintro e w1 ⟨rfl, rfl⟩) | (go_at_call 22; (with_reducible refine (sortOf_c _ _).mono ?_); rw [hsv.out]; rintro e w1 ⟨rfl, rfl⟩))
            go_ret
            exact ⟨by rw [HF.out]; rfl, below_alloc (below_alloc (Below.refl _ _) _) _⟩
          · by_cases s7 : sv = 7
            · subst s7
              clear s0
              cases t0 : decide (f.typ < 0)
              · cases t1 : decide ((es.length : Int) ≤ f.typ)
                · have HM := Aside0.mk (show fieldB ms es f = (!f.map || mapB ms f) by
                    have := of_decide_eq_false t0
                    have := of_decide_eq_false t1
                    rw [HB.out]
                    simp [show (0 ≤ f.typ) by omega, show (f.typ < es.length) by omega])
                  have HK := Aside0.mk (show f.kind = 11 → 0 ≤ f.typ ∧ f.typ < ms.length by intro h; have := HK11.out h; omega)
                  cases bf : f.map
                  · have HF := Aside0.mk (show fieldB ms es f = true by rw [HM.out, bf]; rfl)
                    go_enter Try.func12, Try.ntmps12
                    go_wp2_with (first | (go_at_call 11; (with_reducible refine (ident_c _ _ hsz).mono ?_); rw [bi]; rintro e w1 ⟨rfl, rfl⟩) | (go_at_call 22; (with_reducible refine (sortOf_c _ _).mono ?_); rw [hsv.out]; rintro e w1 ⟨rfl, rfl⟩))
                    go_ret
                    exact ⟨by rw [HF.out]; rfl, below_alloc (below_alloc (Below.refl _ _) _) _⟩
                  · cases bm : mapB ms f
                    all_goals
                      have HF := Aside0.mk (show fieldB ms es f = _ by rw [HM.out, bf, bm])
                      go_enter Try.func12, Try.ntmps12
                      go_wp2_with (first | (go_at_call 11; (with_reducible refine (ident_c _ _ hsz).mono ?_); rw [bi]; rintro e w1 ⟨rfl, rfl⟩) | (go_at_call 22; (with_reducible refine (sortOf_c _ _).mono ?_); rw [hsv.out]; rintro e w1 ⟨rfl, rfl⟩) | (go_at_call 23; (with_reducible refine (mapFits_c ms f _ A0 c0 _ rfl _ (Kd.C_alloc (Kd.C_alloc HR0.out _) _) HK.out).mono ?_); rw [bm]; rintro e w1 ⟨rfl, hb⟩))
                      go_ret
                      exact ⟨by rw [HF.out]; rfl, below_step (below_alloc (below_alloc (Below.refl _ _) _) _) hb⟩
                · have HF := Aside0.mk (show fieldB ms es f = false by
                    have := of_decide_eq_true t1
                    rw [HB.out]
                    simp [show ¬ (f.typ < es.length) by omega])
                  go_enter Try.func12, Try.ntmps12
                  go_wp2_with (first | (go_at_call 11; (with_reducible refine (ident_c _ _ hsz).mono ?_); rw [bi]; rintro e w1 ⟨rfl, rfl⟩) | (go_at_call 22; (with_reducible refine (sortOf_c _ _).mono ?_); rw [hsv.out]; rintro e w1 ⟨rfl, rfl⟩))
                  go_ret
                  exact ⟨by rw [HF.out]; rfl, below_alloc (below_alloc (Below.refl _ _) _) _⟩
              · have HF := Aside0.mk (show fieldB ms es f = false by
                  have := of_decide_eq_true t0
                  rw [HB.out]
                  simp [show ¬ (0 ≤ f.typ) by omega])
                go_enter Try.func12, Try.ntmps12
                go_wp2_with (first | (go_at_call 11; (with_reducible refine (ident_c _ _ hsz).mono ?_); rw [bi]; rintro e w1 ⟨rfl, rfl⟩) | (go_at_call 22; (with_reducible refine (sortOf_c _ _).mono ?_); rw [hsv.out]; rintro e w1 ⟨rfl, rfl⟩))
                go_ret
                exact ⟨by rw [HF.out]; rfl, below_alloc (below_alloc (Below.refl _ _) _) _⟩
            · by_cases s8 : sv = 8
              · subst s8
                clear s0 s7
                cases t0 : decide (f.typ < 0)
                · cases t1 : decide ((ms.length : Int) ≤ f.typ)
                  · have HM := Aside0.mk (show fieldB ms es f = (!f.map || mapB ms f) by
                      have := of_decide_eq_false t0
                      have := of_decide_eq_false t1
                      rw [HB.out]
                      simp [show (0 ≤ f.typ) by omega, show (f.typ < ms.length) by omega])
                    have HK := Aside0.mk (show f.kind = 11 → 0 ≤ f.typ ∧ f.typ < ms.length by
                      intro h
                      have := of_decide_eq_false t0
                      have := of_decide_eq_false t1
                      omega)
                    cases bf : f.map
                    · have HF := Aside0.mk (show fieldB ms es f = true by rw [HM.out, bf]; rfl)
                      go_enter Try.func12, Try.ntmps12
                      go_wp2_with (first | (go_at_call 11; (with_reducible refine (ident_c _ _ hsz).mono ?_); rw [bi]; rintro e w1 ⟨rfl, rfl⟩) | (go_at_call 22; (with_reducible refine (sortOf_c _ _).mono ?_); rw [hsv.out]; rintro e w1 ⟨rfl, rfl⟩))
                      go_ret
                      exact ⟨by rw [HF.out]; rfl, below_alloc (below_alloc (Below.refl _ _) _) _⟩
                    · cases bm : mapB ms f
                      all_goals
                        have HF := Aside0.mk (show fieldB ms es f = _ by rw [HM.out, bf, bm])
                        go_enter Try.func12, Try.ntmps12
                        go_wp2_with (first | (go_at_call 11; (with_reducible refine (ident_c _ _ hsz).mono ?_); rw [bi]; rintro e w1 ⟨rfl, rfl⟩) | (go_at_call 22; (with_reducible refine (sortOf_c _ _).mono ?_); rw [hsv.out]; rintro e w1 ⟨rfl, rfl⟩) | (go_at_call 23; (with_reducible refine (mapFits_c ms f _ A0 c0 _ rfl _ (Kd.C_alloc (Kd.C_alloc HR0.out _) _) HK.out).mono ?_); rw [bm]; rintro e w1 ⟨rfl, hb⟩))
                        go_ret
                        exact ⟨by rw [HF.out]; rfl, below_step (below_alloc (below_alloc (Below.refl _ _) _) _) hb⟩
                  · have HF := Aside0.mk (show fieldB ms es f = false by
                      have := of_decide_eq_true t1
                      rw [HB.out]
                      simp [show ¬ (f.typ < ms.length) by omega])
                    go_enter Try.func12, Try.ntmps12
                    go_wp2_with (first | (go_at_call 11; (with_reducible refine (ident_c _ _ hsz).mono ?_); rw [bi]; rintro e w1 ⟨rfl, rfl⟩) | (go_at_call 22; (with_reducible refine (sortOf_c _ _).mono ?_); rw [hsv.out]; rintro e w1 ⟨rfl, rfl⟩))
                    go_ret
                    exact ⟨by rw [HF.out]; rfl, below_alloc (below_alloc (Below.refl _ _) _) _⟩
                · have HF := Aside0.mk (show fieldB ms es f = false by
                    have := of_decide_eq_true t0
                    rw [HB.out]
                    simp [show ¬ (0 ≤ f.typ) by omega])
                  go_enter Try.func12, Try.ntmps12
                  go_wp2_with (first | (go_at_call 11; (with_reducible refine (ident_c _ _ hsz).mono ?_); rw [bi]; rintro e w1 ⟨rfl, rfl⟩) | (go_at_call 22; (with_reducible refine (sortOf_c _ _).mono ?_); rw [hsv.out]; rintro e w1 ⟨rfl, rfl⟩))
                  go_ret
                  exact ⟨by rw [HF.out]; rfl, below_alloc (below_alloc (Below.refl _ _) _) _⟩
              · have HM := Aside0.mk (show fieldB ms es f = (!f.map || mapB ms f) by
                  rw [HB.out]
                  simp [s0, s7, s8])
                have HK := Aside0.mk (show f.kind = 11 → 0 ≤ f.typ ∧ f.typ < ms.length by intro h; have := HK11.out h; omega)
                replace s0 := eqF s0
                replace s7 := eqF s7
                replace s8 := eqF s8
                cases bf : f.map
                · have HF := Aside0.mk (show fieldB ms es f = true by rw [HM.out, bf]; rfl)
                  go_enter Try.func12, Try.ntmps12
                  go_wp2_with (first | (go_at_call 11; (with_reducible refine (ident_c _ _ hsz).mono ?_); rw [bi]; rintro e w1 ⟨rfl, rfl⟩) | (go_at_call 22; (with_reducible refine (sortOf_c _ _).mono ?_); rw [hsv.out]; rintro e w1 ⟨rfl, rfl⟩))
                  go_ret
                  exact ⟨by rw [HF.out]; rfl, below_alloc (below_alloc (Below.refl _ _) _) _⟩
                · cases bm : mapB ms f
                  all_goals
                    have HF := Aside0.mk (show fieldB ms es f = _ by rw [HM.out, bf, bm])
                    go_enter Try.func12, Try.ntmps12
                    go_wp2_with (first | (go_at_call 11; (with_reducible refine (ident_c _ _ hsz).mono ?_); rw [bi]; rintro e w1 ⟨rfl, rfl⟩) | (go_at_call 22; (with_reducible refine (sortOf_c _ _).mono ?_); rw [hsv.out]; rintro e w1 ⟨rfl, rfl⟩) | (go_at_call 23; (with_reducible refine (mapFits_c ms f _ A0 c0 _ rfl _ (Kd.C_alloc (Kd.C_alloc HR0.out _) _) HK.out).mono ?_); rw [bm]; rintro e w1 ⟨rfl, hb⟩))
                    go_ret
                    exact ⟨by rw [HF.out]; rfl, below_step (below_alloc (below_alloc (Below.refl _ _) _) _) hb⟩
      · have HF := Aside0.mk (show fieldB ms es f = false by
          have := of_decide_eq_true b2
          simp [fieldB, show ¬ (f.num ≤ 536870911) by omega])
        go_enter Try.func12, Try.ntmps12
        go_wp2_with (go_at_call 11; (with_reducible refine (ident_c _ _ hsz).mono ?_); rw [bi]; rintro e w1 ⟨rfl, rfl⟩)
        go_ret
        exact ⟨by rw [HF.out]; rfl, below_alloc (below_alloc (Below.refl _ _) _) _⟩
    · have HF := Aside0.mk (show fieldB ms es f = false by
        have := of_decide_eq_true b1
        simp [fieldB, show ¬ (1 ≤ f.num) by omega])
      go_enter Try.func12, Try.ntmps12
      go_wp2_with (go_at_call 11; (with_reducible refine (ident_c _ _ hsz).mono ?_); rw [bi]; rintro e w1 ⟨rfl, rfl⟩)
      go_ret
      exact ⟨by rw [HF.out]; rfl, below_alloc (below_alloc (Below.refl _ _) _) _⟩
end Go.Proofs.Ytapkmjfjikpnlaa
