/- What SchemaFits computes of a schema whose lists are not longer than 2^31 - 1, and that the program's function computes just this. -/
import Derived.Test.YtapkmjfjikpnlaaSchema
import Derived.Deep.QuietTactic
import Derived.BigQuiet
namespace Go.Proofs.Ytapkmjfjikpnlaa
open Go.RowKit Go.Proofs.YtapkmjfjikpnlaaW.PrintWords Go.Proofs.YtapkmjfjikpnlaaW.PrintMore
set_option linter.unusedVariables false
set_option linter.unusedSimpArgs false

def enumNe (e : ET) (i k : Nat) : Bool := !((e.names.getD k ByteArray.empty).toList == (e.names.getD i ByteArray.empty).toList) && !(e.nums.getD k 0 == e.nums.getD i 0)
def enumAt (e : ET) (i : Nat) : Bool := identB (e.names.getD i ByteArray.empty) && (List.range i).all (enumNe e i)
def enumB (e : ET) : Bool := decide (e.names.length ≠ 0) && decide (e.names.length = e.nums.length) && decide (e.names.length ≤ 50) && (List.range e.names.length).all (enumAt e)
def zFT : FT := ⟨ByteArray.empty, 0, 0, false, false, 0⟩
def fieldNe (m : MT) (i k : Nat) : Bool := !((m.fields.getD k zFT).name.toList == (m.fields.getD i zFT).name.toList) && !((m.fields.getD k zFT).num == (m.fields.getD i zFT).num)
def fieldAt (ms : List MT) (es : List ET) (m : MT) (i : Nat) : Bool := fieldB ms es (m.fields.getD i zFT) && (List.range i).all (fieldNe m i)
def msgB (ms : List MT) (es : List ET) (m : MT) : Bool := decide (m.fields.length ≤ 50) && (List.range m.fields.length).all (fieldAt ms es m)
def schemaB (ms : List MT) (es : List ET) : Bool := decide (ms.length ≠ 0) && decide (ms.length ≤ 50) && decide (es.length ≤ 50) && es.all enumB && ms.all (msgB ms es)

theorem getD_of {α : Type} {l : List α} {i : Nat} {x d : α} (h : l[i]? = some x) : l.getD i d = x := by simp [List.getD_eq_getElem?_getD, h]
theorem fit1_name {ms : List MT} {es : List ET} (h : fit1 ms es = true) {e : ET} (he : e ∈ es) {n : ByteArray} (hn : n ∈ e.names) : n.size ≤ 2147483647 := by
  simp only [fit1, fit6, Bool.and_eq_true, List.all_eq_true] at h
  have := h.2.2 e he
  simp only [fit7, fit8, Bool.and_eq_true, List.all_eq_true] at this
  simpa [fitS] using this.1.2 n hn
theorem fit1_field {ms : List MT} {es : List ET} (h : fit1 ms es = true) {m : MT} (hm : m ∈ ms) {f : FT} (hf : f ∈ m.fields) : f.name.size ≤ 2147483647 := by
  simp only [fit1, fit2, Bool.and_eq_true, List.all_eq_true] at h
  have := h.1.2 m hm
  simp only [fit3, fit4, Bool.and_eq_true, List.all_eq_true] at this
  simpa [fit5] using this.2.2 f hf

set_option maxRecDepth 100000 in
set_option maxHeartbeats 2000000 in
theorem schemaFits_c (ms : List MT) (es : List ET) (A0 : Option Addr) (c0 : Nat) (A1 : Option Addr) (c1 : Nat) (w : World) (hr0 : Kd.C kMT w A0 ms.length ms) (hr1 : Kd.C kET w A1 es.length es) (hfit : fit1 ms es = true) :
    Calls Try.prog 5 #[.agg #[.slice A0 ms.length c0, .slice A1 es.length c1]] w fun e w' => e = .returned (.bool (schemaB ms es)) ∧ Below w.heap.size w w' := by
  have HR0 := Aside0.mk hr0
  have HR1 := Aside0.mk hr1
  have HFit := Aside0.mk hfit
  clear hr0 hr1 hfit
  by_cases z0 : ms.length = 0
  · have HF := Aside0.mk (show schemaB ms es = false by simp [schemaB, z0])
    have z1 : (((ms.length : Nat) : Int) == 0) = true := eqT (by omega)
    clear z0
    go_enter Try.func5, Try.ntmps5
    go_wp2
    go_ret
    exact ⟨by rw [HF.out]; rfl, below_alloc (Below.refl _ _) _⟩
  · have z1 : (((ms.length : Nat) : Int) == 0) = false := eqF (by omega)
    by_cases y0 : ms.length ≤ 50
    · by_cases x0 : es.length ≤ 50
      · have HS := Aside0.mk (show schemaB ms es = (es.all enumB && ms.all (msgB ms es)) by simp [schemaB, z0, y0, x0])
        have y1 : decide (50 < ((ms.length : Nat) : Int)) = false := by simp; omega
        have x1 : decide (50 < ((es.length : Nat) : Int)) = false := by simp; omega
        clear z0
        go_enter Try.func5, Try.ntmps5
        go_wp2
        go_loopg [32] es.length (fun g v32 w' => ∃ i : Nat, v32 = .int .i64 i ∧ i + g = es.length ∧ Aside0 ((es.take i).all enumB = true) ∧ Aside0 (Below (w.alloc (.cells #[.slice A0 ms.length c0, .slice A1 es.length c1] 25)).heap.size (w.alloc (.cells #[.slice A0 ms.length c0, .slice A1 es.length c1] 25)) w'))
        case atStart => exact ⟨0, rfl, by simp, ⟨by simp⟩, ⟨Below.refl _ _⟩⟩
        case round =>
          obtain ⟨i, rfl, hg, HA, HB⟩ := hrel
          obtain ⟨wo, rfl⟩ : ∃ wo : World, wo = wr := ⟨_, rfl⟩
          obtain ⟨ga, rfl⟩ : ∃ ga : Nat, ga = gk := ⟨_, rfl⟩
          have HBw := Aside0.mk (show Below w.heap.size w wo from (below_alloc (Below.refl _ _) _).trans (HB.out.mono (by simp)))
          by_cases hlt : i < es.length
          · obtain ⟨x, hx⟩ := get_ex hlt
            obtain ⟨ad, B1, d1, B2, d2, rfl, h0, h1, h2, h3, h4, h5⟩ := atET (Kd.C_below HR1.out HBw.out) hx.out
            have H3 := Aside0.mk h3
            have H5 := Aside0.mk h5
            clear h2 h3 h4 h5
            by_cases n0 : x.names.length ≠ 0 ∧ x.names.length = x.nums.length ∧ x.names.length ≤ 50
            · obtain ⟨n0, n1, n2⟩ := n0
              have HX := Aside0.mk (show enumB x = (List.range x.names.length).all (enumAt x) by rw [enumB, decide_eq_true n0, decide_eq_true n1, decide_eq_true n2, Bool.true_and, Bool.true_and, Bool.true_and])
              have a0 : (((x.names.length : Nat) : Int) == 0) = false := eqF (by omega)
              have N1 := Aside0.mk n1
              have a1 : (((x.names.length : Nat) : Int) == ((x.nums.length : Nat) : Int)) = true := eqT (by omega)
              have a2 : (((x.names.length : Nat) : Int) != ((x.nums.length : Nat) : Int)) = false := neF (by omega)
              have a3 : decide (50 < ((x.names.length : Nat) : Int)) = false := by simp; omega
              clear n1 n0
              go_wp2
              obtain ⟨W1, hW1⟩ : ∃ W1 : World, W1 = wo.alloc (.cells #[.slice B1 x.names.length d1, .slice B2 x.nums.length d2] 38) := ⟨_, rfl⟩
              have HW1 := Aside0.mk hW1
              clear hW1
              go_loopg [58] x.names.length (fun g v58 w' => ∃ j : Nat, v58 = .int .i64 j ∧ j + g = x.names.length ∧ Aside0 ((List.range j).all (enumAt x) = true) ∧ Aside0 (Below W1.heap.size W1 w'))
              case atStart => exact ⟨0, rfl, by simp, ⟨by simp⟩, ⟨by rw [HW1.out]; exact Below.refl _ _⟩⟩
              case round =>
                obtain ⟨j, rfl, hg2, HA2, HB2⟩ := hrel
                obtain ⟨wp, rfl⟩ : ∃ wp : World, wp = wr := ⟨_, rfl⟩
                obtain ⟨gb, rfl⟩ : ∃ gb : Nat, gb = gk := ⟨_, rfl⟩
                have HBn := Aside0.mk (show Below (wo.alloc (.cells #[.slice B1 x.names.length d1, .slice B2 x.nums.length d2] 38)).heap.size (wo.alloc (.cells #[.slice B1 x.names.length d1, .slice B2 x.nums.length d2] 38)) wp by rw [← HW1.out]; exact HB2.out)
                have HBo := Aside0.mk (show Below wo.heap.size wo wp from (below_alloc (Below.refl _ _) _).trans (HBn.out.mono (by simp)))
                by_cases hj : j < x.names.length
                · obtain ⟨nm, hnm⟩ := get_ex hj
                  obtain ⟨ad2, rfl, q0⟩ := atStr (Kd.C_below H3.out HBo.out) hnm.out
                  have hsz : nm.size ≤ 2147483647 := fit1_name HFit.out (List.mem_of_getElem? hx.out) (List.mem_of_getElem? hnm.out)
                  cases bi : identB nm
                  · have HF := Aside0.mk (show schemaB ms es = false by
                      rw [HS.out, all_no hx.out (show enumB x = false by rw [HX.out]; exact range_all_no hj (by rw [enumAt, getD_of hnm.out, bi]; rfl))]; rfl)
                    go_wp2_with (go_at_call 11; (with_reducible refine (ident_c _ _ hsz).mono ?_); rw [bi]; rintro e w1 ⟨rfl, rfl⟩)
                    go_ret
                    exact ⟨by rw [HF.out]; rfl, below_step HBw.out HBo.out⟩
                  · go_wp2_with (go_at_call 11; (with_reducible refine (ident_c _ _ hsz).mono ?_); rw [bi]; rintro e w1 ⟨rfl, rfl⟩)
                    go_loopg [67] j (fun g v67 w' => ∃ k : Nat, v67 = .int .i64 k ∧ k + g = j ∧ Aside0 ((List.range k).all (enumNe x j) = true) ∧ Aside0 (Below wp.heap.size wp w'))
                    case atStart => exact ⟨0, rfl, by simp, ⟨by simp⟩, ⟨Below.refl _ _⟩⟩
                    case round =>
                      obtain ⟨k, rfl, hg3, HA3, HB3⟩ := hrel
                      by_cases hk : k < j
                      · have HBr := Aside0.mk (show Below wo.heap.size wo wr from HBo.out.trans (HB3.out.mono HBo.out.size))
                        have HBs := Aside0.mk (HBn.out.trans (HB3.out.mono HBn.out.size))
                        have t0 := cell_new HBs.out 0 _ rfl
                        have t1 := cell_new HBs.out 1 _ rfl
                        obtain ⟨nk, hnk⟩ := get_ex (show k < x.names.length by omega)
                        obtain ⟨u, hu⟩ := get_ex (show k < x.nums.length by have := N1.out; omega)
                        obtain ⟨v, hv⟩ := get_ex (show j < x.nums.length by have := N1.out; omega)
                        obtain ⟨ad3, e3, q1⟩ := atStr (Kd.C_below H3.out HBr.out) hnk.out
                        cases e3
                        obtain ⟨ad4, e4, q2⟩ := atInt (Kd.C_below H5.out HBr.out) hu.out
                        cases e4
                        obtain ⟨ad5, e5, q3⟩ := atInt (Kd.C_below H5.out HBr.out) hv.out
                        cases e5
                        have i1 : (k : Int) < (x.names.length : Int) := by omega
                        have i2 : (k : Int) < (x.nums.length : Int) := by have := N1.out; omega
                        have i3 : (j : Int) < (x.nums.length : Int) := by have := N1.out; omega
                        have i0 : (0 : Int) ≤ (k : Int) := by omega
                        have i4 : (0 : Int) ≤ (j : Int) := by omega
                        cases c1 : (nk.toList == nm.toList)
                        · cases c2 : (u == v)
                          · have HA4 := Aside0.mk (range_all_succ HA3.out (show enumNe x j k = true by rw [enumNe, getD_of hnm.out, getD_of hnk.out, getD_of hu.out, getD_of hv.out, c1, c2]; rfl))
                            go_wp2
                            go_quiet (fail)
                            go_wp2
                            obtain ⟨g', rfl⟩ : ∃ g', gk = g' + 1 := ⟨gk - 1, by omega⟩
                            go_roundg g'
                            case measure => omega
                            case rel => exact ⟨k + 1, by go_num, by omega, HA4, ⟨pw_below_drewN HB3.out _⟩⟩
                          · have HF := Aside0.mk (show schemaB ms es = false by
                              rw [HS.out, all_no hx.out (show enumB x = false by rw [HX.out]; exact range_all_no hj (by rw [enumAt, range_all_no hk (by rw [enumNe, getD_of hnm.out, getD_of hnk.out, getD_of hu.out, getD_of hv.out, c1, c2]; rfl), Bool.and_false]))]; rfl)
                            go_wp2
                            go_quiet (fail)
                            go_wp2
                            go_ret
                            exact ⟨by rw [HF.out]; rfl, below_step HBw.out (pw_below_drewN HBr.out _)⟩
                        · have HF := Aside0.mk (show schemaB ms es = false by
                            rw [HS.out, all_no hx.out (show enumB x = false by rw [HX.out]; exact range_all_no hj (by rw [enumAt, range_all_no hk (by rw [enumNe, getD_of hnm.out, getD_of hnk.out, c1]; rfl), Bool.and_false]))]; rfl)
                          go_wp2
                          go_quiet (fail)
                          go_wp2
                          go_ret
                          exact ⟨by rw [HF.out]; rfl, below_step HBw.out (pw_below_drewN HBr.out _)⟩
                      · obtain rfl : k = j := by omega
                        have HA4 := Aside0.mk (range_all_succ HA2.out (show enumAt x k = true by rw [enumAt, getD_of hnm.out, bi, HA3.out]; rfl))
                        go_wp2
                        obtain ⟨g', rfl⟩ : ∃ g', gb = g' + 1 := ⟨gb - 1, by omega⟩
                        go_roundg g'
                        case measure => omega
                        case rel => exact ⟨k + 1, by go_num, by omega, HA4, ⟨HB2.out.trans (HB3.out.mono HB2.out.size)⟩⟩
                · obtain rfl : j = x.names.length := by omega
                  have HA4 := Aside0.mk (all_succ hx.out HA.out (show enumB x = true by rw [HX.out]; exact HA2.out))
                  go_wp2
                  obtain ⟨g', rfl⟩ : ∃ g', ga = g' + 1 := ⟨ga - 1, by omega⟩
                  go_roundg g'
                  case measure => omega
                  case rel => exact ⟨i + 1, by go_num, by omega, HA4, ⟨HB.out.trans (HBo.out.mono HB.out.size)⟩⟩
            · have HF := Aside0.mk (show schemaB ms es = false by
                rw [HS.out, all_no hx.out (show enumB x = false by
                  simp only [enumB]
                  by_cases q0 : x.names.length = 0
                  · simp [q0]
                  · by_cases q1 : x.names.length = x.nums.length
                    · by_cases q2 : x.names.length ≤ 50
                      · exact absurd ⟨q0, q1, q2⟩ n0
                      · simp [q2]
                    · simp [q1])]; rfl)
              by_cases q0 : x.names.length = 0
              · have a0 : (((x.names.length : Nat) : Int) == 0) = true := eqT (by omega)
                clear n0 q0
                go_wp2
                go_ret
                exact ⟨by rw [HF.out]; rfl, below_alloc HBw.out _⟩
              · have a0 : (((x.names.length : Nat) : Int) == 0) = false := eqF (by omega)
                by_cases q1 : x.names.length = x.nums.length
                · have q2 : ¬ x.names.length ≤ 50 := fun q2 => n0 ⟨q0, q1, q2⟩
                  have a1 : (((x.names.length : Nat) : Int) == ((x.nums.length : Nat) : Int)) = true := eqT (by omega)
                  have a2 : (((x.names.length : Nat) : Int) != ((x.nums.length : Nat) : Int)) = false := neF (by omega)
                  have a3 : decide (50 < ((x.names.length : Nat) : Int)) = true := by simp; omega
                  clear n0 q0 q1 q2
                  go_wp2
                  go_ret
                  exact ⟨by rw [HF.out]; rfl, below_alloc HBw.out _⟩
                · have a1 : (((x.names.length : Nat) : Int) == ((x.nums.length : Nat) : Int)) = false := eqF (by omega)
                  have a2 : (((x.names.length : Nat) : Int) != ((x.nums.length : Nat) : Int)) = true := neT (by omega)
                  clear n0 q0 q1
                  go_wp2
                  go_ret
                  exact ⟨by rw [HF.out]; rfl, below_alloc HBw.out _⟩
          · obtain rfl : i = es.length := by omega
            have s0 := cell_new HB.out 0 _ rfl
            have s1 := cell_new HB.out 1 _ rfl
            have HE := Aside0.mk (show es.all enumB = true from all_done HA.out (Nat.le_refl _))
            go_wp2
            go_loopg [96] ms.length (fun g v96 w' => ∃ i : Nat, v96 = .int .i64 i ∧ i + g = ms.length ∧ Aside0 ((ms.take i).all (msgB ms es) = true) ∧ Aside0 (Below (w.alloc (.cells #[.slice A0 ms.length c0, .slice A1 es.length c1] 25)).heap.size (w.alloc (.cells #[.slice A0 ms.length c0, .slice A1 es.length c1] 25)) w'))
            case atStart => exact ⟨0, rfl, by simp, ⟨by simp⟩, HB⟩
            case round =>
              clear s0 s1 HB HBw HA hg hlt
              obtain ⟨i, rfl, hg, HA, HB⟩ := hrel
              obtain ⟨wq, rfl⟩ : ∃ wq : World, wq = wr := ⟨_, rfl⟩
              obtain ⟨gc, rfl⟩ : ∃ gc : Nat, gc = gk := ⟨_, rfl⟩
              have HBw := Aside0.mk (show Below w.heap.size w wq from (below_alloc (Below.refl _ _) _).trans (HB.out.mono (by simp)))
              by_cases hlt : i < ms.length
              · obtain ⟨x, hx⟩ := get_ex hlt
                obtain ⟨ad, B1, d1, rfl, h0, h1, h2, h3⟩ := atMT (Kd.C_below HR0.out HBw.out) hx.out
                have H3 := Aside0.mk h3
                clear h2 h3
                by_cases n0 : x.fields.length ≤ 50
                · have HX := Aside0.mk (show msgB ms es x = (List.range x.fields.length).all (fieldAt ms es x) by rw [msgB, decide_eq_true n0, Bool.true_and])
                  have a3 : decide (50 < ((x.fields.length : Nat) : Int)) = false := by simp; omega
                  go_wp2
                  go_loopg [107] x.fields.length (fun g v107 w' => ∃ j : Nat, v107 = .int .i64 j ∧ j + g = x.fields.length ∧ Aside0 ((List.range j).all (fieldAt ms es x) = true) ∧ Aside0 (Below (wq.alloc (.cells #[.string x.name, .slice B1 x.fields.length d1] 29)).heap.size (wq.alloc (.cells #[.string x.name, .slice B1 x.fields.length d1] 29)) w'))
                  case atStart => exact ⟨0, rfl, by simp, ⟨by simp⟩, ⟨Below.refl _ _⟩⟩
                  case round =>
                    obtain ⟨j, rfl, hg2, HA2, HB2⟩ := hrel
                    obtain ⟨wp, rfl⟩ : ∃ wp : World, wp = wr := ⟨_, rfl⟩
                    obtain ⟨gb, rfl⟩ : ∃ gb : Nat, gb = gk := ⟨_, rfl⟩
                    have HBo := Aside0.mk (show Below wq.heap.size wq wp from (below_alloc (Below.refl _ _) _).trans (HB2.out.mono (by simp)))
                    have HBz := Aside0.mk (HB.out.trans (HBo.out.mono HB.out.size))
                    have HBv := Aside0.mk (show Below w.heap.size w wp from below_step HBw.out HBo.out)
                    by_cases hj : j < x.fields.length
                    · obtain ⟨f, hf⟩ := get_ex hj
                      obtain ⟨ad2, rfl, q0, q1, q2, q3, q4, q5⟩ := atFT (Kd.C_below H3.out HBo.out) hf.out
                      have hsz : f.name.size ≤ 2147483647 := fit1_field HFit.out (List.mem_of_getElem? hx.out) (List.mem_of_getElem? hf.out)
                      have s0 : (wp.alloc (.cells #[.string f.name, .int .i64 f.num, .int .i64 f.kind, .bool f.rep, .bool f.map, .int .i64 f.typ] 31)).cell? ⟨w.heap.size, 0, none⟩ = some (.slice (some ad) ms.length c0) := cell_new (HBz.out.alloc HBz.out.size _) 0 _ rfl
                      have s1 : (wp.alloc (.cells #[.string f.name, .int .i64 f.num, .int .i64 f.kind, .bool f.rep, .bool f.map, .int .i64 f.typ] 31)).cell? ⟨w.heap.size, 1, none⟩ = some (.slice A1 es.length c1) := cell_new (HBz.out.alloc HBz.out.size _) 1 _ rfl
                      cases bf : fieldB ms es f
                      · have HF := Aside0.mk (show schemaB ms es = false by
                          rw [HS.out, all_no hx.out (show msgB ms es x = false by rw [HX.out]; exact range_all_no hj (by rw [fieldAt, getD_of hf.out, bf]; rfl)), Bool.and_false])
                        go_wp2_with (go_at_call 12; (with_reducible refine (fieldFits_c ms es f _ c0 _ c1 _ (Kd.C_alloc (Kd.C_below HR0.out HBv.out) _) hsz).mono ?_); rw [bf]; rintro e w1 ⟨rfl, hb⟩)
                        go_ret
                        exact ⟨by rw [HF.out]; rfl, below_step (below_alloc HBv.out _) hb⟩
                      · go_wp2_with (go_at_call 12; (with_reducible refine (fieldFits_c ms es f _ c0 _ c1 _ (Kd.C_alloc (Kd.C_below HR0.out HBv.out) _) hsz).mono ?_); rw [bf]; rintro e w1 ⟨rfl, hb⟩; have HBf := Aside0.mk hb; clear hb)
                        clear q0 q1 q2 q3 q4 q5 s0 s1
                        go_loopg [117] j (fun g v117 w' => ∃ k : Nat, v117 = .int .i64 k ∧ k + g = j ∧ Aside0 ((List.range k).all (fieldNe x j) = true) ∧ Aside0 (Below (wp.alloc (.cells #[.string f.name, .int .i64 f.num, .int .i64 f.kind, .bool f.rep, .bool f.map, .int .i64 f.typ] 31)).heap.size (wp.alloc (.cells #[.string f.name, .int .i64 f.num, .int .i64 f.kind, .bool f.rep, .bool f.map, .int .i64 f.typ] 31)) w'))
                        case atStart => exact ⟨0, rfl, by simp, ⟨by simp⟩, HBf⟩
                        case round =>
                          obtain ⟨k, rfl, hg3, HA3, HB3⟩ := hrel
                          have HBp := Aside0.mk (show Below wp.heap.size wp wr from (below_alloc (Below.refl _ _) _).trans (HB3.out.mono (by simp)))
                          have HBr := Aside0.mk (show Below wq.heap.size wq wr from HBo.out.trans (HBp.out.mono HBo.out.size))
                          have HBs := Aside0.mk (HB2.out.trans (HBp.out.mono HB2.out.size))
                          by_cases hk : k < j
                          · have t0 := cell_new HBs.out 0 _ rfl
                            have t1 := cell_new HBs.out 1 _ rfl
                            have t2 := cell_new HB3.out 0 _ rfl
                            have t3 := cell_new HB3.out 1 _ rfl
                            obtain ⟨y, hy⟩ := get_ex (show k < x.fields.length by omega)
                            obtain ⟨ad3, e3, p0, p1, p2, p3, p4, p5⟩ := atFT (Kd.C_below H3.out HBr.out) hy.out
                            cases e3
                            clear p2 p3 p4 p5
                            have i1 : (k : Int) < (x.fields.length : Int) := by omega
                            have i0 : (0 : Int) ≤ (k : Int) := by omega
                            cases c1 : (y.name.toList == f.name.toList)
                            · cases c2 : (y.num == f.num)
                              · have HA4 := Aside0.mk (range_all_succ HA3.out (show fieldNe x j k = true by rw [fieldNe, getD_of hf.out, getD_of hy.out, c1, c2]; rfl))
                                go_wp2
                                go_quiet (fail)
                                go_wp2
                                obtain ⟨g', rfl⟩ : ∃ g', gk = g' + 1 := ⟨gk - 1, by omega⟩
                                go_roundg g'
                                case measure => omega
                                case rel => exact ⟨k + 1, by go_num, by omega, HA4, ⟨pw_below_drewN HB3.out _⟩⟩
                              · have HF := Aside0.mk (show schemaB ms es = false by
                                  rw [HS.out, all_no hx.out (show msgB ms es x = false by rw [HX.out]; exact range_all_no hj (by rw [fieldAt, range_all_no hk (by rw [fieldNe, getD_of hf.out, getD_of hy.out, c1, c2]; rfl), Bool.and_false])), Bool.and_false])
                                go_wp2
                                go_quiet (fail)
                                go_wp2
                                go_ret
                                exact ⟨by rw [HF.out]; rfl, below_step HBw.out (pw_below_drewN HBr.out _)⟩
                            · have HF := Aside0.mk (show schemaB ms es = false by
                                rw [HS.out, all_no hx.out (show msgB ms es x = false by rw [HX.out]; exact range_all_no hj (by rw [fieldAt, range_all_no hk (by rw [fieldNe, getD_of hf.out, getD_of hy.out, c1]; rfl), Bool.and_false])), Bool.and_false])
                              go_wp2
                              go_quiet (fail)
                              go_wp2
                              go_ret
                              exact ⟨by rw [HF.out]; rfl, below_step HBw.out (pw_below_drewN HBr.out _)⟩
                          · obtain rfl : k = j := by omega
                            have HA4 := Aside0.mk (range_all_succ HA2.out (show fieldAt ms es x k = true by rw [fieldAt, getD_of hf.out, bf, HA3.out]; rfl))
                            go_wp2
                            obtain ⟨g', rfl⟩ : ∃ g', gb = g' + 1 := ⟨gb - 1, by omega⟩
                            go_roundg g'
                            case measure => omega
                            case rel => exact ⟨k + 1, by go_num, by omega, HA4, HBs⟩
                    · obtain rfl : j = x.fields.length := by omega
                      have HA4 := Aside0.mk (all_succ hx.out HA.out (show msgB ms es x = true by rw [HX.out]; exact HA2.out))
                      go_wp2
                      obtain ⟨g', rfl⟩ : ∃ g', gc = g' + 1 := ⟨gc - 1, by omega⟩
                      go_roundg g'
                      case measure => omega
                      case rel => exact ⟨i + 1, by go_num, by omega, HA4, HBz⟩
                · have HF := Aside0.mk (show schemaB ms es = false by
                    rw [HS.out, all_no hx.out (show msgB ms es x = false by simp [msgB, n0]), Bool.and_false])
                  have a3 : decide (50 < ((x.fields.length : Nat) : Int)) = true := by simp; omega
                  clear n0
                  go_wp2
                  go_ret
                  exact ⟨by rw [HF.out]; rfl, below_alloc HBw.out _⟩
              · have HF := Aside0.mk (show schemaB ms es = true by rw [HS.out, HE.out, all_done HA.out (by omega)]; rfl)
                go_wp2
                go_ret
                exact ⟨by rw [HF.out]; rfl, HBw.out⟩
      · have HF := Aside0.mk (show schemaB ms es = false by simp [schemaB, x0])
        have y1 : decide (50 < ((ms.length : Nat) : Int)) = false := by simp; omega
        have x1 : decide (50 < ((es.length : Nat) : Int)) = true := by simp; omega
        clear z0 x0
        go_enter Try.func5, Try.ntmps5
        go_wp2
        go_ret
        exact ⟨by rw [HF.out]; rfl, below_alloc (Below.refl _ _) _⟩
    · have HF := Aside0.mk (show schemaB ms es = false by simp [schemaB, y0])
      have y1 : decide (50 < ((ms.length : Nat) : Int)) = true := by simp; omega
      clear z0 y0
      go_enter Try.func5, Try.ntmps5
      go_wp2
      go_ret
      exact ⟨by rw [HF.out]; rfl, below_alloc (Below.refl _ _) _⟩
end Go.Proofs.Ytapkmjfjikpnlaa
