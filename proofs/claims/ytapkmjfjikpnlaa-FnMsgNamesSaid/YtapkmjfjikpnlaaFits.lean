/- What zzFits1 and SchemaFits compute of a schema, and that the program's functions compute just this; no conditions. -/
import Derived.Test.YtapkmjfjikpnlaaBase
namespace Go.Proofs.Ytapkmjfjikpnlaa
open Go.RowKit Go.Proofs.YtapkmjfjikpnlaaW.PrintWords Go.Proofs.YtapkmjfjikpnlaaW.PrintMore
attribute [local go_sem] max2_int min2_int max_two min_two
set_option linter.unusedVariables false
set_option linter.unusedSimpArgs false

def fit5 (x : FT) : Bool := decide (x.name.size ≤ 2147483647)
def fit4 (l : List FT) : Bool := decide (l.length ≤ 2147483647) && l.all fit5
def fit3 (x : MT) : Bool := decide (x.name.size ≤ 2147483647) && fit4 x.fields
def fit2 (l : List MT) : Bool := decide (l.length ≤ 2147483647) && l.all fit3
def fitS (s : ByteArray) : Bool := decide (s.size ≤ 2147483647)
def fit8 (l : List ByteArray) : Bool := decide (l.length ≤ 2147483647) && l.all fitS
def fit7 (x : ET) : Bool := fit8 x.names && decide (x.nums.length ≤ 2147483647)
def fit6 (l : List ET) : Bool := decide (l.length ≤ 2147483647) && l.all fit7
def fit1 (m : List MT) (e : List ET) : Bool := fit2 m && fit6 e
def letterB (c : Int) : Bool := c == 95 || (decide (97 ≤ c) && decide (c ≤ 122)) || (decide (65 ≤ c) && decide (c ≤ 90))
def digitB (c : Int) : Bool := decide (48 ≤ c) && decide (c ≤ 57)
def identAt (s : ByteArray) (i : Nat) : Bool := letterB (bt s i) || (i != 0 && digitB (bt s i))
def identB (s : ByteArray) : Bool := (List.range s.size).all (identAt s) && decide (s.size ≠ 0)

theorem big_ok {n : Nat} (c : n ≤ 2147483647) : decide (2147483647 < (n : Int)) = false := by simp; omega
theorem big_no {n : Nat} (c : ¬ n ≤ 2147483647) : decide (2147483647 < (n : Int)) = true := by simp; omega

theorem fit5_c (x : FT) (w : World) :
    Calls Try.prog 29 #[.agg #[.string x.name, .int .i64 x.num, .int .i64 x.kind, .bool x.rep, .bool x.map, .int .i64 x.typ]] w fun e w' => e = .returned (.bool (fit5 x)) ∧ Below w.heap.size w w' := by
  by_cases c : x.name.size ≤ 2147483647
  · have c1 := big_ok c
    go_enter Try.func29, Try.ntmps29
    go_wp2
    go_ret
    exact ⟨by simp [fit5, c], below_alloc (Below.refl _ _) _⟩
  · have c1 := big_no c
    go_enter Try.func29, Try.ntmps29
    go_wp2
    go_ret
    exact ⟨by simp [fit5, c], below_alloc (Below.refl _ _) _⟩

set_option maxHeartbeats 400000 in
theorem fit4_c (A0 : Option Addr) (c0 : Nat) (l0 : List FT) (w : World) (hr0 : Kd.C kFT w A0 l0.length l0) :
    Calls Try.prog 27 #[.slice A0 l0.length c0] w fun e w' => e = .returned (.bool (fit4 l0)) ∧ Below w.heap.size w w' := by
  have HR0 := Aside0.mk hr0
  clear hr0
  by_cases c : l0.length ≤ 2147483647
  · have c1 := big_ok c
    go_enter Try.func27, Try.ntmps27
    go_wp2
    go_loopg [10] l0.length (fun g v10 w' => ∃ i : Nat, v10 = .int .i64 i ∧ i + g = l0.length ∧ Aside0 ((l0.take i).all fit5 = true) ∧ Aside0 (Below w.heap.size w w'))
    case atStart => exact ⟨0, rfl, by simp, ⟨by simp⟩, ⟨Below.refl _ _⟩⟩
    case round =>
      obtain ⟨i, rfl, hg, HA, HB⟩ := hrel
      by_cases hlt : i < l0.length
      · obtain ⟨x, hx⟩ := get_ex hlt
        obtain ⟨ad, rfl, h0, h1, h2, h3, h4, h5⟩ := atFT (Kd.C_below HR0.out HB.out) hx.out
        cases b : fit5 x
        · have HF := Aside0.mk (show fit4 l0 = false by simp [fit4, all_no hx.out b])
          go_wp2_with (go_at_call 29; (with_reducible refine (fit5_c x _).mono ?_); rw [b]; rintro e w1 ⟨rfl, hb⟩)
          go_ret
          exact ⟨by rw [HF.out]; rfl, below_step (below_alloc HB.out _) hb⟩
        · go_wp2_with (go_at_call 29; (with_reducible refine (fit5_c x _).mono ?_); rw [b]; rintro e w1 ⟨rfl, hb⟩)
          obtain ⟨g', rfl⟩ : ∃ g', gk = g' + 1 := ⟨gk - 1, by omega⟩
          go_roundg g'
          case measure => omega
          case rel => exact ⟨i + 1, by go_num, by omega, ⟨all_succ hx.out HA.out b⟩, ⟨below_step (below_alloc HB.out _) hb⟩⟩
      · have HF := Aside0.mk (show fit4 l0 = true by simp [fit4, c, all_done HA.out (by omega)])
        go_wp2
        go_ret
        exact ⟨by rw [HF.out]; rfl, HB.out⟩
  · have c1 := big_no c
    go_enter Try.func27, Try.ntmps27
    go_wp2
    go_ret
    exact ⟨by simp [fit4, c], Below.refl _ _⟩

theorem fit3_c (x : MT) (A0 : Option Addr) (c0 : Nat) (w : World) (hr0 : Kd.C kFT w A0 x.fields.length x.fields) :
    Calls Try.prog 18 #[.agg #[.string x.name, .slice A0 x.fields.length c0]] w fun e w' => e = .returned (.bool (fit3 x)) ∧ Below w.heap.size w w' := by
  have HR0 := Aside0.mk hr0
  clear hr0
  by_cases c : x.name.size ≤ 2147483647
  · have c1 := big_ok c
    cases b : fit4 x.fields
    all_goals
      go_enter Try.func18, Try.ntmps18
      go_wp2_with (go_at_call 27; (with_reducible refine (fit4_c A0 c0 x.fields _ (Kd.C_alloc HR0.out _)).mono ?_); rw [b]; rintro e w1 ⟨rfl, hb⟩)
      go_ret
      exact ⟨by simp [fit3, b, c], below_step (below_alloc (Below.refl _ _) _) hb⟩
  · have c1 := big_no c
    go_enter Try.func18, Try.ntmps18
    go_wp2
    go_ret
    exact ⟨by simp [fit3, c], below_alloc (Below.refl _ _) _⟩

set_option maxHeartbeats 400000 in
theorem fit2_c (A0 : Option Addr) (c0 : Nat) (l0 : List MT) (w : World) (hr0 : Kd.C kMT w A0 l0.length l0) :
    Calls Try.prog 9 #[.slice A0 l0.length c0] w fun e w' => e = .returned (.bool (fit2 l0)) ∧ Below w.heap.size w w' := by
  have HR0 := Aside0.mk hr0
  clear hr0
  by_cases c : l0.length ≤ 2147483647
  · have c1 := big_ok c
    go_enter Try.func9, Try.ntmps9
    go_wp2
    go_loopg [10] l0.length (fun g v10 w' => ∃ i : Nat, v10 = .int .i64 i ∧ i + g = l0.length ∧ Aside0 ((l0.take i).all fit3 = true) ∧ Aside0 (Below w.heap.size w w'))
    case atStart => exact ⟨0, rfl, by simp, ⟨by simp⟩, ⟨Below.refl _ _⟩⟩
    case round =>
      obtain ⟨i, rfl, hg, HA, HB⟩ := hrel
      by_cases hlt : i < l0.length
      · obtain ⟨x, hx⟩ := get_ex hlt
        obtain ⟨ad, A1, c1', rfl, h0, h1, h2, h3⟩ := atMT (Kd.C_below HR0.out HB.out) hx.out
        have H3 := Aside0.mk h3
        clear h2 h3
        cases b : fit3 x
        · have HF := Aside0.mk (show fit2 l0 = false by simp [fit2, all_no hx.out b])
          go_wp2_with (go_at_call 18; (with_reducible refine (fit3_c x A1 c1' _ (Kd.C_alloc H3.out _)).mono ?_); rw [b]; rintro e w1 ⟨rfl, hb⟩)
          go_ret
          exact ⟨by rw [HF.out]; rfl, below_step (below_alloc HB.out _) hb⟩
        · go_wp2_with (go_at_call 18; (with_reducible refine (fit3_c x A1 c1' _ (Kd.C_alloc H3.out _)).mono ?_); rw [b]; rintro e w1 ⟨rfl, hb⟩)
          obtain ⟨g', rfl⟩ : ∃ g', gk = g' + 1 := ⟨gk - 1, by omega⟩
          go_roundg g'
          case measure => omega
          case rel => exact ⟨i + 1, by go_num, by omega, ⟨all_succ hx.out HA.out b⟩, ⟨below_step (below_alloc HB.out _) hb⟩⟩
      · have HF := Aside0.mk (show fit2 l0 = true by simp [fit2, c, all_done HA.out (by omega)])
        go_wp2
        go_ret
        exact ⟨by rw [HF.out]; rfl, HB.out⟩
  · have c1 := big_no c
    go_enter Try.func9, Try.ntmps9
    go_wp2
    go_ret
    exact ⟨by simp [fit2, c], Below.refl _ _⟩

set_option maxHeartbeats 400000 in
theorem fit8_c (A0 : Option Addr) (c0 : Nat) (l0 : List ByteArray) (w : World) (hr0 : Kd.C Kd.string w A0 l0.length l0) :
    Calls Try.prog 28 #[.slice A0 l0.length c0] w fun e w' => e = .returned (.bool (fit8 l0)) ∧ Below w.heap.size w w' := by
  have HR0 := Aside0.mk hr0
  clear hr0
  by_cases c : l0.length ≤ 2147483647
  · have c1 := big_ok c
    go_enter Try.func28, Try.ntmps28
    go_wp2
    go_loopg [10] l0.length (fun g v10 w' => ∃ i : Nat, v10 = .int .i64 i ∧ i + g = l0.length ∧ Aside0 ((l0.take i).all fitS = true) ∧ Aside0 (Below w.heap.size w w'))
    case atStart => exact ⟨0, rfl, by simp, ⟨by simp⟩, ⟨Below.refl _ _⟩⟩
    case round =>
      obtain ⟨i, rfl, hg, HA, HB⟩ := hrel
      by_cases hlt : i < l0.length
      · obtain ⟨x, hx⟩ := get_ex hlt
        obtain ⟨ad, rfl, h0⟩ := atStr (Kd.C_below HR0.out HB.out) hx.out
        by_cases b : x.size ≤ 2147483647
        · have c2 := big_ok b
          have HA2 := Aside0.mk (all_succ hx.out HA.out (show fitS x = true by simp [fitS, b]))
          go_wp2
          obtain ⟨g', rfl⟩ : ∃ g', gk = g' + 1 := ⟨gk - 1, by omega⟩
          go_roundg g'
          case measure => omega
          case rel => exact ⟨i + 1, by go_num, by omega, HA2, HB⟩
        · have c2 := big_no b
          have HF := Aside0.mk (show fit8 l0 = false by simp [fit8, all_no hx.out (show fitS x = false by simp [fitS, b])])
          go_wp2
          go_ret
          exact ⟨by rw [HF.out]; rfl, HB.out⟩
      · have HF := Aside0.mk (show fit8 l0 = true by simp [fit8, c, all_done HA.out (by omega)])
        go_wp2
        go_ret
        exact ⟨by rw [HF.out]; rfl, HB.out⟩
  · have c1 := big_no c
    go_enter Try.func28, Try.ntmps28
    go_wp2
    go_ret
    exact ⟨by simp [fit8, c], Below.refl _ _⟩

theorem fit7_c (x : ET) (A0 : Option Addr) (c0 : Nat) (A1 : Option Addr) (c1 : Nat) (w : World) (hr0 : Kd.C Kd.string w A0 x.names.length x.names) :
    Calls Try.prog 19 #[.agg #[.slice A0 x.names.length c0, .slice A1 x.nums.length c1]] w fun e w' => e = .returned (.bool (fit7 x)) ∧ Below w.heap.size w w' := by
  have HR0 := Aside0.mk hr0
  clear hr0
  cases b : fit8 x.names
  · go_enter Try.func19, Try.ntmps19
    go_wp2_with (go_at_call 28; (with_reducible refine (fit8_c A0 c0 x.names _ (Kd.C_alloc HR0.out _)).mono ?_); rw [b]; rintro e w1 ⟨rfl, hb⟩)
    go_ret
    exact ⟨by simp [fit7, b], below_step (below_alloc (Below.refl _ _) _) hb⟩
  · by_cases c : x.nums.length ≤ 2147483647
    · have c2 := big_ok c
      go_enter Try.func19, Try.ntmps19
      go_wp2_with (go_at_call 28; (with_reducible refine (fit8_c A0 c0 x.names _ (Kd.C_alloc HR0.out _)).mono ?_); rw [b]; rintro e w1 ⟨rfl, hb⟩; have hq := (hb.cell (p := ⟨w.heap.size, 1, none⟩) (by simp)))
      go_ret
      exact ⟨by simp [fit7, b, c], below_step (below_alloc (Below.refl _ _) _) hb⟩
    · have c2 := big_no c
      go_enter Try.func19, Try.ntmps19
      go_wp2_with (go_at_call 28; (with_reducible refine (fit8_c A0 c0 x.names _ (Kd.C_alloc HR0.out _)).mono ?_); rw [b]; rintro e w1 ⟨rfl, hb⟩; have hq := (hb.cell (p := ⟨w.heap.size, 1, none⟩) (by simp)))
      go_ret
      exact ⟨by simp [fit7, b, c], below_step (below_alloc (Below.refl _ _) _) hb⟩

set_option maxHeartbeats 400000 in
theorem fit6_c (A0 : Option Addr) (c0 : Nat) (l0 : List ET) (w : World) (hr0 : Kd.C kET w A0 l0.length l0) :
    Calls Try.prog 10 #[.slice A0 l0.length c0] w fun e w' => e = .returned (.bool (fit6 l0)) ∧ Below w.heap.size w w' := by
  have HR0 := Aside0.mk hr0
  clear hr0
  by_cases c : l0.length ≤ 2147483647
  · have c1 := big_ok c
    go_enter Try.func10, Try.ntmps10
    go_wp2
    go_loopg [10] l0.length (fun g v10 w' => ∃ i : Nat, v10 = .int .i64 i ∧ i + g = l0.length ∧ Aside0 ((l0.take i).all fit7 = true) ∧ Aside0 (Below w.heap.size w w'))
    case atStart => exact ⟨0, rfl, by simp, ⟨by simp⟩, ⟨Below.refl _ _⟩⟩
    case round =>
      obtain ⟨i, rfl, hg, HA, HB⟩ := hrel
      by_cases hlt : i < l0.length
      · obtain ⟨x, hx⟩ := get_ex hlt
        obtain ⟨ad, A1, c1', A2, c2', rfl, h0, h1, h2, h3, h4, h5⟩ := atET (Kd.C_below HR0.out HB.out) hx.out
        have H3 := Aside0.mk h3
        clear h2 h3 h4 h5
        cases b : fit7 x
        · have HF := Aside0.mk (show fit6 l0 = false by simp [fit6, all_no hx.out b])
          go_wp2_with (go_at_call 19; (with_reducible refine (fit7_c x A1 c1' A2 c2' _ (Kd.C_alloc H3.out _)).mono ?_); rw [b]; rintro e w1 ⟨rfl, hb⟩)
          go_ret
          exact ⟨by rw [HF.out]; rfl, below_step (below_alloc HB.out _) hb⟩
        · go_wp2_with (go_at_call 19; (with_reducible refine (fit7_c x A1 c1' A2 c2' _ (Kd.C_alloc H3.out _)).mono ?_); rw [b]; rintro e w1 ⟨rfl, hb⟩)
          obtain ⟨g', rfl⟩ : ∃ g', gk = g' + 1 := ⟨gk - 1, by omega⟩
          go_roundg g'
          case measure => omega
          case rel => exact ⟨i + 1, by go_num, by omega, ⟨all_succ hx.out HA.out b⟩, ⟨below_step (below_alloc HB.out _) hb⟩⟩
      · have HF := Aside0.mk (show fit6 l0 = true by simp [fit6, c, all_done HA.out (by omega)])
        go_wp2
        go_ret
        exact ⟨by rw [HF.out]; rfl, HB.out⟩
  · have c1 := big_no c
    go_enter Try.func10, Try.ntmps10
    go_wp2
    go_ret
    exact ⟨by simp [fit6, c], Below.refl _ _⟩

theorem fit1_c (ms : List MT) (es : List ET) (A0 : Option Addr) (c0 : Nat) (A1 : Option Addr) (c1 : Nat) (w : World) (hr0 : Kd.C kMT w A0 ms.length ms) (hr1 : Kd.C kET w A1 es.length es) :
    Calls Try.prog 4 #[.agg #[.slice A0 ms.length c0, .slice A1 es.length c1]] w fun e w' => e = .returned (.bool (fit1 ms es)) ∧ Below w.heap.size w w' := by
  have HR0 := Aside0.mk hr0
  have HR1 := Aside0.mk hr1
  clear hr0 hr1
  cases b : fit2 ms
  · go_enter Try.func4, Try.ntmps4
    go_wp2_with (go_at_call 9; (with_reducible refine (fit2_c A0 c0 ms _ (Kd.C_alloc HR0.out _)).mono ?_); rw [b]; rintro e w1 ⟨rfl, hb⟩)
    go_ret
    exact ⟨by simp [fit1, b], below_step (below_alloc (Below.refl _ _) _) hb⟩
  · cases b2 : fit6 es
    all_goals
      go_enter Try.func4, Try.ntmps4
      go_wp2_with (first | (go_at_call 9; (with_reducible refine (fit2_c A0 c0 ms _ (Kd.C_alloc HR0.out _)).mono ?_); rw [b]; rintro e w1 ⟨rfl, hb⟩; have hq := (hb.cell (p := ⟨w.heap.size, 1, none⟩) (by simp)); have Hb := Aside0.mk hb; clear hb) | (go_at_call 10; (with_reducible refine (fit6_c A1 c1 es _ (Kd.C_below (Kd.C_alloc HR1.out _) Hb.out)).mono ?_); rw [b2]; rintro e w2 ⟨rfl, hb2⟩))
      go_ret
      exact ⟨by simp [fit1, b, b2], below_step (below_step (below_alloc (Below.refl _ _) _) Hb.out) hb2⟩
end Go.Proofs.Ytapkmjfjikpnlaa
