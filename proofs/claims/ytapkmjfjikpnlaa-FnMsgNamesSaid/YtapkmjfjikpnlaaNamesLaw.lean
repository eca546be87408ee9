/- The law FnMsgNames returns true at every schema; no conditions. -/
import Derived.Test.YtapkmjfjikpnlaaNamesPure
namespace Go.Proofs.Ytapkmjfjikpnlaa
open Go.RowKit Go.Proofs.YtapkmjfjikpnlaaW.PrintWords Go.Proofs.YtapkmjfjikpnlaaW.PrintMore
set_option linter.unusedVariables false
set_option linter.unusedSimpArgs false

theorem schemaB_len {ms : List MT} {es : List ET} (h : schemaB ms es = true) : ms.length ≤ 50 := by
  simp only [schemaB, Bool.and_eq_true, decide_eq_true_eq] at h
  exact h.1.1.1.2
theorem schemaB_flen {ms : List MT} {es : List ET} (h : schemaB ms es = true) {m : MT} (hm : m ∈ ms) : m.fields.length ≤ 50 := by
  simp only [schemaB, Bool.and_eq_true, List.all_eq_true] at h
  have := h.2 m hm
  simp only [msgB, Bool.and_eq_true, decide_eq_true_eq] at this
  exact this.1
theorem const1 : camel ⟨#[97, 95, 98]⟩ = ⟨#[97, 66]⟩ := by decide +kernel
theorem const2 : snake ⟨#[97, 66]⟩ = ⟨#[97, 95, 98]⟩ := by decide +kernel

set_option maxRecDepth 100000 in
set_option maxHeartbeats 4000000 in
theorem names_c (ms : List MT) (es : List ET) (A0 : Option Addr) (c0 : Nat) (A1 : Option Addr) (c1 : Nat) (w : World) (hr0 : Kd.C kMT w A0 ms.length ms) (hr1 : Kd.C kET w A1 es.length es) :
    Calls Try.prog 3 #[.agg #[.slice A0 ms.length c0, .slice A1 es.length c1]] w fun e w' => e = .returned (.bool true) ∧ Below w.heap.size w w' := by
  have HR0 := Aside0.mk hr0
  have HR1 := Aside0.mk hr1
  clear hr0 hr1
  cases bf : fit1 ms es
  · go_enter Try.func3, Try.ntmps3
    go_wp2_with (go_at_call 4; (with_reducible refine (fit1_c ms es _ c0 _ c1 _ (Kd.C_alloc HR0.out _) (Kd.C_alloc HR1.out _)).mono ?_); rw [bf]; rintro e w1 ⟨rfl, hb⟩; have Hb1 := Aside0.mk hb; have q0 := cell_new hb 0 _ rfl; have q1 := cell_new hb 1 _ rfl; clear hb)
    go_ret
    exact ⟨rfl, below_step (below_alloc (Below.refl _ _) _) Hb1.out⟩
  · cases bs : schemaB ms es
    · go_enter Try.func3, Try.ntmps3
      go_wp2_with (first | (go_at_call 4; (with_reducible refine (fit1_c ms es _ c0 _ c1 _ (Kd.C_alloc HR0.out _) (Kd.C_alloc HR1.out _)).mono ?_); rw [bf]; rintro e w1 ⟨rfl, hb⟩; have Hb1 := Aside0.mk hb; have q0 := cell_new hb 0 _ rfl; have q1 := cell_new hb 1 _ rfl; clear hb) | (go_at_call 5; (with_reducible refine (schemaFits_c ms es _ c0 _ c1 _ (Kd.C_below (Kd.C_alloc HR0.out _) Hb1.out) (Kd.C_below (Kd.C_alloc HR1.out _) Hb1.out) bf).mono ?_); rw [bs]; rintro e w2 ⟨rfl, hb⟩; have Hb2 := Aside0.mk hb; have p0 := cell_new (below_step Hb1.out hb) 0 _ rfl; clear hb))
      go_ret
      exact ⟨rfl, below_step (below_step (below_alloc (Below.refl _ _) _) Hb1.out) Hb2.out⟩
    · go_enter Try.func3, Try.ntmps3
      go_wp2_with (first | (go_at_call 4; (with_reducible refine (fit1_c ms es _ c0 _ c1 _ (Kd.C_alloc HR0.out _) (Kd.C_alloc HR1.out _)).mono ?_); rw [bf]; rintro e w1 ⟨rfl, hb⟩; have Hb1 := Aside0.mk hb; have q0 := cell_new hb 0 _ rfl; have q1 := cell_new hb 1 _ rfl; clear hb) | (go_at_call 5; (with_reducible refine (schemaFits_c ms es _ c0 _ c1 _ (Kd.C_below (Kd.C_alloc HR0.out _) Hb1.out) (Kd.C_below (Kd.C_alloc HR1.out _) Hb1.out) bf).mono ?_); rw [bs]; rintro e w2 ⟨rfl, hb⟩; have Hb2 := Aside0.mk hb; have p0 := cell_new (below_step Hb1.out hb) 0 _ rfl; clear hb))
      have hml := schemaB_len bs
      go_loopg [20] ms.length (fun g v20 w' => ∃ i : Nat, v20 = .int .i64 i ∧ i + g = ms.length ∧ Aside0 (Below w.heap.size w w'))
      case atStart => exact ⟨0, rfl, by simp, ⟨below_step (below_step (below_alloc (Below.refl _ _) _) Hb1.out) Hb2.out⟩⟩
      case round =>
        clear q0 q1 p0 Hb1 Hb2
        obtain ⟨i, rfl, hg, HB⟩ := hrel
        obtain ⟨wq, rfl⟩ : ∃ wq : World, wq = wr := ⟨_, rfl⟩
        obtain ⟨gc, rfl⟩ : ∃ gc : Nat, gc = gk := ⟨_, rfl⟩
        by_cases hlt : i < ms.length
        · obtain ⟨x, hx⟩ := get_ex hlt
          obtain ⟨ad, B1, d1, rfl, h0, h1, h2, h3⟩ := atMT (Kd.C_below HR0.out HB.out) hx.out
          have H3 := Aside0.mk h3
          clear h2 h3
          have hfl := schemaB_flen bs (List.mem_of_getElem? hx.out)
          go_wp2
          go_loopg [27] x.fields.length (fun g v27 w' => ∃ j : Nat, v27 = .int .i64 j ∧ j + g = x.fields.length ∧ Aside0 (Below (wq.alloc (.cells #[.string x.name, .slice B1 x.fields.length d1] 29)).heap.size (wq.alloc (.cells #[.string x.name, .slice B1 x.fields.length d1] 29)) w'))
          case atStart => exact ⟨0, rfl, by simp, ⟨Below.refl _ _⟩⟩
          case round =>
            obtain ⟨j, rfl, hg2, HB2⟩ := hrel
            obtain ⟨wp, rfl⟩ : ∃ wp : World, wp = wr := ⟨_, rfl⟩
            obtain ⟨gb, rfl⟩ : ∃ gb : Nat, gb = gk := ⟨_, rfl⟩
            have HBo := Aside0.mk (show Below wq.heap.size wq wp from (below_alloc (Below.refl _ _) _).trans (HB2.out.mono (by simp)))
            have HBv := Aside0.mk (show Below w.heap.size w wp from below_step HB.out HBo.out)
            by_cases hj : j < x.fields.length
            · obtain ⟨f, hf⟩ := get_ex hj
              obtain ⟨ad2, rfl, q0, q1, q2, q3, q4, q5⟩ := atFT (Kd.C_below H3.out HBo.out) hf.out
              have hsz : f.name.size ≤ 2147483647 := fit1_field bf (List.mem_of_getElem? hx.out) (List.mem_of_getElem? hf.out)
              go_wp2_with (first | (go_at_call 6; (with_reducible refine (implCamel_c _ _ hsz).mono ?_); rintro e w3 ⟨rfl, hb⟩; have Hb3 := Aside0.mk hb; have r0 := cell_new hb 0 _ rfl; clear hb) | (go_at_call 7; (with_reducible refine (specCamel_c _ _ hsz).mono ?_); rintro e w4 ⟨rfl, hb⟩; have Hb4 := Aside0.mk (below_step Hb3.out hb); clear hb))
              clear q0 q1 q2 q3 q4 q5 r0
              go_loopg [8, 9] f.name.size (fun g v8 v9 w' => ∃ k : Nat, v8 = .bool ((List.range k).all (plainAt f.name)) ∧ v9 = .int .i64 k ∧ k + g = f.name.size ∧ Aside0 (Below (wp.alloc (.cells #[.string f.name, .int .i64 f.num, .int .i64 f.kind, .bool f.rep, .bool f.map, .int .i64 f.typ] 31)).heap.size (wp.alloc (.cells #[.string f.name, .int .i64 f.num, .int .i64 f.kind, .bool f.rep, .bool f.map, .int .i64 f.typ] 31)) w'))
              case atStart => exact ⟨0, rfl, rfl, by simp, Hb4⟩
              case round =>
                obtain ⟨k, rfl, rfl, hg3, HB3⟩ := hrel
                have t0 := cell_new HB3.out 0 _ rfl
                have HBp := Aside0.mk (show Below wp.heap.size wp wr from (below_alloc (Below.refl _ _) _).trans (HB3.out.mono (by simp)))
                by_cases hk : k < f.name.size
                · have hxk := bt_at f.name (k : Int)
                  rw [Int.toNat_natCast] at hxk
                  obtain ⟨g', rfl⟩ : ∃ g', gk = g' + 1 := ⟨gk - 1, by omega⟩
                  cases bp : (List.range k).all (plainAt f.name)
                  · have HN := Aside0.mk (show (List.range (k + 1)).all (plainAt f.name) = false by rw [List.range_succ, List.all_append, bp]; rfl)
                    go_wp2
                    go_roundg g'
                    case measure => omega
                    case rel => exact ⟨k + 1, by rw [HN.out], by go_num, by omega, HB3⟩
                  · cases b1 : decide (97 ≤ bt f.name k)
                    · cases b3 : decide (48 ≤ bt f.name k)
                      · cases b5 : (bt f.name k == 95)
                        · have HN := Aside0.mk (show (List.range (k + 1)).all (plainAt f.name) = false by rw [List.range_succ, List.all_append, bp]; simp only [List.all_cons, List.all_nil, Bool.and_true, plainAt, lowB, digitB, b1, b3, b5]; rfl)
                          go_wp2
                          go_roundg g'
                          case measure => omega
                          case rel => exact ⟨k + 1, by rw [HN.out], by go_num, by omega, HB3⟩
                        · by_cases hk1 : (k : Int) + 1 < f.name.size
                          · have hy : ∀ h : k + 1 < f.name.size, ((f.name[k + 1]'h).toNat : Int) = bt f.name ((k : Int) + 1) := bt_at f.name ((k + 1 : Nat) : Int)
                            have b6 : decide ((k : Int) + 1 < f.name.size) = true := decide_eq_true hk1
                            cases b7 : decide (97 ≤ bt f.name ((k : Int) + 1))
                            · have HN := Aside0.mk (show (List.range (k + 1)).all (plainAt f.name) = false by rw [List.range_succ, List.all_append, bp]; simp only [List.all_cons, List.all_nil, Bool.and_true, plainAt, lowB, digitB, b1, b3, b5, b6, b7]; rfl)
                              go_wp2
                              go_roundg g'
                              case measure => omega
                              case rel => exact ⟨k + 1, by rw [HN.out], by go_num, by omega, HB3⟩
                            · cases b8 : decide (bt f.name ((k : Int) + 1) ≤ 122)
                              · have HN := Aside0.mk (show (List.range (k + 1)).all (plainAt f.name) = false by rw [List.range_succ, List.all_append, bp]; simp only [List.all_cons, List.all_nil, Bool.and_true, plainAt, lowB, digitB, b1, b3, b5, b6, b7, b8]; rfl)
                                go_wp2
                                go_roundg g'
                                case measure => omega
                                case rel => exact ⟨k + 1, by rw [HN.out], by go_num, by omega, HB3⟩
                              · have HN := Aside0.mk (show (List.range (k + 1)).all (plainAt f.name) = true by rw [List.range_succ, List.all_append, bp]; simp only [List.all_cons, List.all_nil, Bool.and_true, plainAt, lowB, digitB, b1, b3, b5, b6, b7, b8]; rfl)
                                go_wp2
                                go_roundg g'
                                case measure => omega
                                case rel => exact ⟨k + 1, by rw [HN.out], by go_num, by omega, HB3⟩
                          · have b6 : decide ((k : Int) + 1 < f.name.size) = false := decide_eq_false hk1
                            have HN := Aside0.mk (show (List.range (k + 1)).all (plainAt f.name) = false by rw [List.range_succ, List.all_append, bp]; simp only [List.all_cons, List.all_nil, Bool.and_true, plainAt, lowB, digitB, b1, b3, b5, b6]; rfl)
                            go_wp2
                            go_roundg g'
                            case measure => omega
                            case rel => exact ⟨k + 1, by rw [HN.out], by go_num, by omega, HB3⟩
                      · cases b4 : decide (bt f.name k ≤ 57)
                        · cases b5 : (bt f.name k == 95)
                          · have HN := Aside0.mk (show (List.range (k + 1)).all (plainAt f.name) = false by rw [List.range_succ, List.all_append, bp]; simp only [List.all_cons, List.all_nil, Bool.and_true, plainAt, lowB, digitB, b1, b3, b4, b5]; rfl)
                            go_wp2
                            go_roundg g'
                            case measure => omega
                            case rel => exact ⟨k + 1, by rw [HN.out], by go_num, by omega, HB3⟩
                          · by_cases hk1 : (k : Int) + 1 < f.name.size
                            · have hy : ∀ h : k + 1 < f.name.size, ((f.name[k + 1]'h).toNat : Int) = bt f.name ((k : Int) + 1) := bt_at f.name ((k + 1 : Nat) : Int)
                              have b6 : decide ((k : Int) + 1 < f.name.size) = true := decide_eq_true hk1
                              cases b7 : decide (97 ≤ bt f.name ((k : Int) + 1))
                              · have HN := Aside0.mk (show (List.range (k + 1)).all (plainAt f.name) = false by rw [List.range_succ, List.all_append, bp]; simp only [List.all_cons, List.all_nil, Bool.and_true, plainAt, lowB, digitB, b1, b3, b4, b5, b6, b7]; rfl)
                                go_wp2
                                go_roundg g'
                                case measure => omega
                                case rel => exact ⟨k + 1, by rw [HN.out], by go_num, by omega, HB3⟩
                              · cases b8 : decide (bt f.name ((k : Int) + 1) ≤ 122)
                                · have HN := Aside0.mk (show (List.range (k + 1)).all (plainAt f.name) = false by rw [List.range_succ, List.all_append, bp]; simp only [List.all_cons, List.all_nil, Bool.and_true, plainAt, lowB, digitB, b1, b3, b4, b5, b6, b7, b8]; rfl)
                                  go_wp2
                                  go_roundg g'
                                  case measure => omega
                                  case rel => exact ⟨k + 1, by rw [HN.out], by go_num, by omega, HB3⟩
                                · have HN := Aside0.mk (show (List.range (k + 1)).all (plainAt f.name) = true by rw [List.range_succ, List.all_append, bp]; simp only [List.all_cons, List.all_nil, Bool.and_true, plainAt, lowB, digitB, b1, b3, b4, b5, b6, b7, b8]; rfl)
                                  go_wp2
                                  go_roundg g'
                                  case measure => omega
                                  case rel => exact ⟨k + 1, by rw [HN.out], by go_num, by omega, HB3⟩
                            · have b6 : decide ((k : Int) + 1 < f.name.size) = false := decide_eq_false hk1
                              have HN := Aside0.mk (show (List.range (k + 1)).all (plainAt f.name) = false by rw [List.range_succ, List.all_append, bp]; simp only [List.all_cons, List.all_nil, Bool.and_true, plainAt, lowB, digitB, b1, b3, b4, b5, b6]; rfl)
                              go_wp2
                              go_roundg g'
                              case measure => omega
                              case rel => exact ⟨k + 1, by rw [HN.out], by go_num, by omega, HB3⟩
                        · have HN := Aside0.mk (show (List.range (k + 1)).all (plainAt f.name) = true by rw [List.range_succ, List.all_append, bp]; simp only [List.all_cons, List.all_nil, Bool.and_true, plainAt, lowB, digitB, b1, b3, b4]; rfl)
                          go_wp2
                          go_roundg g'
                          case measure => omega
                          case rel => exact ⟨k + 1, by rw [HN.out], by go_num, by omega, HB3⟩
                    · cases b2 : decide (bt f.name k ≤ 122)
                      · cases b3 : decide (48 ≤ bt f.name k)
                        · cases b5 : (bt f.name k == 95)
                          · have HN := Aside0.mk (show (List.range (k + 1)).all (plainAt f.name) = false by rw [List.range_succ, List.all_append, bp]; simp only [List.all_cons, List.all_nil, Bool.and_true, plainAt, lowB, digitB, b1, b2, b3, b5]; rfl)
                            go_wp2
                            go_roundg g'
                            case measure => omega
                            case rel => exact ⟨k + 1, by rw [HN.out], by go_num, by omega, HB3⟩
                          · by_cases hk1 : (k : Int) + 1 < f.name.size
                            · have hy : ∀ h : k + 1 < f.name.size, ((f.name[k + 1]'h).toNat : Int) = bt f.name ((k : Int) + 1) := bt_at f.name ((k + 1 : Nat) : Int)
                              have b6 : decide ((k : Int) + 1 < f.name.size) = true := decide_eq_true hk1
                              cases b7 : decide (97 ≤ bt f.name ((k : Int) + 1))
                              · have HN := Aside0.mk (show (List.range (k + 1)).all (plainAt f.name) = false by rw [List.range_succ, List.all_append, bp]; simp only [List.all_cons, List.all_nil, Bool.and_true, plainAt, lowB, digitB, b1, b2, b3, b5, b6, b7]; rfl)
                                go_wp2
                                go_roundg g'
                                case measure => omega
                                case rel => exact ⟨k + 1, by rw [HN.out], by go_num, by omega, HB3⟩
                              · cases b8 : decide (bt f.name ((k : Int) + 1) ≤ 122)
                                · have HN := Aside0.mk (show (List.range (k + 1)).all (plainAt f.name) = false by rw [List.range_succ, List.all_append, bp]; simp only [List.all_cons, List.all_nil, Bool.and_true, plainAt, lowB, digitB, b1, b2, b3, b5, b6, b7, b8]; rfl)
                                  go_wp2
                                  go_roundg g'
                                  case measure => omega
                                  case rel => exact ⟨k + 1, by rw [HN.out], by go_num, by omega, HB3⟩
                                · have HN := Aside0.mk (show (List.range (k + 1)).all (plainAt f.name) = true by rw [List.range_succ, List.all_append, bp]; simp only [List.all_cons, List.all_nil, Bool.and_true, plainAt, lowB, digitB, b1, b2, b3, b5, b6, b7, b8]; rfl)
                                  go_wp2
                                  go_roundg g'
                                  case measure => omega
                                  case rel => exact ⟨k + 1, by rw [HN.out], by go_num, by omega, HB3⟩
                            · have b6 : decide ((k : Int) + 1 < f.name.size) = false := decide_eq_false hk1
                              have HN := Aside0.mk (show (List.range (k + 1)).all (plainAt f.name) = false by rw [List.range_succ, List.all_append, bp]; simp only [List.all_cons, List.all_nil, Bool.and_true, plainAt, lowB, digitB, b1, b2, b3, b5, b6]; rfl)
                              go_wp2
                              go_roundg g'
                              case measure => omega
                              case rel => exact ⟨k + 1, by rw [HN.out], by go_num, by omega, HB3⟩
                        · cases b4 : decide (bt f.name k ≤ 57)
                          · cases b5 : (bt f.name k == 95)
                            · have HN := Aside0.mk (show (List.range (k + 1)).all (plainAt f.name) = false by rw [List.range_succ, List.all_append, bp]; simp only [List.all_cons, List.all_nil, Bool.and_true, plainAt, lowB, digitB, b1, b2, b3, b4, b5]; rfl)
                              go_wp2
                              go_roundg g'
                              case measure => omega
                              case rel => exact ⟨k + 1, by rw [HN.out], by go_num, by omega, HB3⟩
                            · by_cases hk1 : (k : Int) + 1 < f.name.size
                              · have hy : ∀ h : k + 1 < f.name.size, ((f.name[k + 1]'h).toNat : Int) = bt f.name ((k : Int) + 1) := bt_at f.name ((k + 1 : Nat) : Int)
                                have b6 : decide ((k : Int) + 1 < f.name.size) = true := decide_eq_true hk1
                                cases b7 : decide (97 ≤ bt f.name ((k : Int) + 1))
                                · have HN := Aside0.mk (show (List.range (k + 1)).all (plainAt f.name) = false by rw [List.range_succ, List.all_append, bp]; simp only [List.all_cons, List.all_nil, Bool.and_true, plainAt, lowB, digitB, b1, b2, b3, b4, b5, b6, b7]; rfl)
                                  go_wp2
                                  go_roundg g'
                                  case measure => omega
                                  case rel => exact ⟨k + 1, by rw [HN.out], by go_num, by omega, HB3⟩
                                · cases b8 : decide (bt f.name ((k : Int) + 1) ≤ 122)
                                  · have HN := Aside0.mk (show (List.range (k + 1)).all (plainAt f.name) = false by rw [List.range_succ, List.all_append, bp]; simp only [List.all_cons, List.all_nil, Bool.and_true, plainAt, lowB, digitB, b1, b2, b3, b4, b5, b6, b7, b8]; rfl)
                                    go_wp2
                                    go_roundg g'
                                    case measure => omega
                                    case rel => exact ⟨k + 1, by rw [HN.out], by go_num, by omega, HB3⟩
                                  · have HN := Aside0.mk (show (List.range (k + 1)).all (plainAt f.name) = true by rw [List.range_succ, List.all_append, bp]; simp only [List.all_cons, List.all_nil, Bool.and_true, plainAt, lowB, digitB, b1, b2, b3, b4, b5, b6, b7, b8]; rfl)
                                    go_wp2
                                    go_roundg g'
                                    case measure => omega
                                    case rel => exact ⟨k + 1, by rw [HN.out], by go_num, by omega, HB3⟩
                              · have b6 : decide ((k : Int) + 1 < f.name.size) = false := decide_eq_false hk1
                                have HN := Aside0.mk (show (List.range (k + 1)).all (plainAt f.name) = false by rw [List.range_succ, List.all_append, bp]; simp only [List.all_cons, List.all_nil, Bool.and_true, plainAt, lowB, digitB, b1, b2, b3, b4, b5, b6]; rfl)
                                go_wp2
                                go_roundg g'
                                case measure => omega
                                case rel => exact ⟨k + 1, by rw [HN.out], by go_num, by omega, HB3⟩
                          · have HN := Aside0.mk (show (List.range (k + 1)).all (plainAt f.name) = true by rw [List.range_succ, List.all_append, bp]; simp only [List.all_cons, List.all_nil, Bool.and_true, plainAt, lowB, digitB, b1, b2, b3, b4]; rfl)
                            go_wp2
                            go_roundg g'
                            case measure => omega
                            case rel => exact ⟨k + 1, by rw [HN.out], by go_num, by omega, HB3⟩
                      · have HN := Aside0.mk (show (List.range (k + 1)).all (plainAt f.name) = true by rw [List.range_succ, List.all_append, bp]; simp only [List.all_cons, List.all_nil, Bool.and_true, plainAt, lowB, digitB, b1, b2]; rfl)
                        go_wp2
                        go_roundg g'
                        case measure => omega
                        case rel => exact ⟨k + 1, by rw [HN.out], by go_num, by omega, HB3⟩
                · obtain rfl : k = f.name.size := by omega
                  have HP := Aside0.mk (show (List.range f.name.size).all (plainAt f.name) = plainB f.name from rfl)
                  obtain ⟨pb, hpb⟩ : ∃ pb, pb = (List.range f.name.size).all (plainAt f.name) := ⟨_, rfl⟩
                  rw [← hpb]
                  have HQ := Aside0.mk hpb
                  clear hpb
                  have HBx := Aside0.mk (HB2.out.trans (HBp.out.mono HB2.out.size))
                  obtain ⟨g', rfl⟩ : ∃ g', gb = g' + 1 := ⟨gb - 1, by omega⟩
                  cases pb
                  · go_wp2
                    go_quiet (fail)
                    go_wp2
                    go_roundg g'
                    case measure => omega
                    case rel => exact ⟨j + 1, by go_num, by omega, ⟨pw_below_drewN HBx.out _⟩⟩
                  · have HS := Aside0.mk (names_back (show plainB f.name = true by rw [← HP.out, ← HQ.out]))
                    have hcs : (camel f.name).size ≤ 2147483647 := Nat.le_trans (camel_size _) hsz
                    go_wp2
                    go_region_held3 (fun w' => w'.cell? ⟨wp.heap.size, 0, none⟩ = some (.string f.name) ∧ Aside0 (Below (wq.alloc (.cells #[.string x.name, .slice (some ad2) x.fields.length d1] 29)).heap.size (wq.alloc (.cells #[.string x.name, .slice (some ad2) x.fields.length d1] 29)) w')) (first | exact ⟨t0, ⟨HBx.out.drew⟩⟩ | exact ⟨pw_cell_below hb t0, ⟨HBx.out.drew.trans (hb.mono HBx.out.drew.size)⟩⟩) (first | (go_at_call 8; (with_reducible refine (implSnake_c _ _ hcs).mono ?_); rw [HS.out]; rintro e w5 ⟨rfl, hb⟩))
                    have HBy := Aside0.mk (HBx.out.drew.trans (hb.mono HBx.out.drew.size))
                    clear hb
                    go_wp2
                    go_roundg g'
                    case measure => omega
                    case rel => exact ⟨j + 1, by go_num, by omega, HBy⟩
            · obtain rfl : j = x.fields.length := by omega
              go_wp2
              obtain ⟨g', rfl⟩ : ∃ g', gc = g' + 1 := ⟨gc - 1, by omega⟩
              go_roundg g'
              case measure => omega
              case rel => exact ⟨i + 1, by go_num, by omega, HBv⟩
        · go_wp2_with (first | (go_at_call 6; (with_reducible refine (implCamel_c _ _ (by decide)).mono ?_); rw [const1]; rintro e w6 ⟨rfl, hb⟩; have Hb6 := Aside0.mk hb; clear hb) | (go_at_call 8; (with_reducible refine (implSnake_c _ _ (by decide)).mono ?_); rw [const2]; rintro e w7 ⟨rfl, hb⟩; have Hb7 := Aside0.mk hb; clear hb))
          go_ret
          exact ⟨rfl, below_step (below_step HB.out Hb6.out) Hb7.out⟩
end Go.Proofs.Ytapkmjfjikpnlaa
