/- What reads as data of a schema's types lies in memory as the walks ask; no conditions. -/
import Derived.Test.YtapkmjfjikpnlaaBase
import Derived.ProofKit
import Derived.Deep.Slices
namespace Go.Proofs.Ytapkmjfjikpnlaa
open Go.RowKit Go.Proofs.YtapkmjfjikpnlaaW.PrintWords Go.Proofs.YtapkmjfjikpnlaaW.PrintMore Go.ChangeShapes Go.WideShapes Go.Deep
set_option linter.unusedVariables false

/-- Whatever reads as data of type t is told by the kind d, and ok. -/
def Tells {H α : Type} (enc : TypeId × Value → H) (W : World) (base : Nat) (spare : Nat → Bool) (held : Bool) (t : TypeId) (d : Kd α) (ok : α → Prop) : Prop :=
  ∀ fuel cs x, DataW.trod enc Try.prog W base spare held fuel t cs = some x → ∃ y, d.K W y cs ∧ ok y
section
variable {H : Type} {enc : TypeId × Value → H} {W : World} {base : Nat} {spare : Nat → Bool} {held : Bool}
theorem tells_int {t : TypeId} {k : IntKind} (ht : Try.prog.underlying t = some (.int k)) : Tells enc W base spare held t (Kd.int k) (fun n => (Lit.int k n).wf = true) := by
  intro fuel cs x h
  obtain ⟨n, rfl, _, hw⟩ := DataW.trod_int ht h
  exact ⟨n, rfl, hw⟩
theorem tells_bool {t : TypeId} (ht : Try.prog.underlying t = some .bool) : Tells enc W base spare held t Kd.bool (fun _ => True) := by
  intro fuel cs x h
  obtain ⟨b, rfl, _⟩ := DataW.trod_bool ht h
  exact ⟨b, rfl, trivial⟩
theorem tells_string {t : TypeId} (ht : Try.prog.underlying t = some .string) : Tells enc W base spare held t Kd.string (fun s => s.size ≤ maxLen) := by
  intro fuel cs x h
  obtain ⟨s, rfl, _, hw⟩ := DataW.trod_string ht h
  exact ⟨s, rfl, hw⟩
theorem choose_list {α : Type} {n : Nat} {P : Nat → α → Prop} (h : ∀ i, i < n → ∃ y, P i y) : ∃ l : List α, l.length = n ∧ ∀ i y, l[i]? = some y → P i y := by
  induction n with
  | zero => exact ⟨[], rfl, fun i y hy => by simp at hy⟩
  | succ n ih =>
    obtain ⟨l, hl, hp⟩ := ih (fun i hi => h i (by omega))
    obtain ⟨y, hy⟩ := h n (by omega)
    refine ⟨l ++ [y], by simp [hl], fun i z hz => ?_⟩
    rcases Nat.lt_or_ge i n with hi | hi
    · rw [List.getElem?_append_left (by omega)] at hz
      exact hp i z hz
    · have hb := (List.getElem?_eq_some_iff.1 hz).1
      rw [List.length_append, List.length_singleton] at hb
      obtain rfl : i = n := by omega
      rw [List.getElem?_append_right (by omega), hl, Nat.sub_self] at hz
      obtain rfl : y = z := by simpa using hz
      exact hy
theorem tells_slice {α : Type} {t e : TypeId} {d : Kd α} {ok : α → Prop} (ht : Try.prog.underlying t = some (.slice e)) (hsz : Try.prog.cellsOf e = d.sz) (h : Tells enc W base spare held e d ok) :
    Tells enc W base spare held t (Kd.slice e d) (fun l => ∀ y ∈ l, ok y) := by
  intro fuel cs x hx
  rcases open_slice ht hx with ⟨rfl, _⟩ | ⟨a, len, cap, m, n, D, Pl, rfl, _, hl, hm, hmm, _, hel⟩
  · exact ⟨[], ⟨none, 0, rfl, Nat.le_refl _, Kd.C_nil _ _⟩, fun y hy => by simp at hy⟩
  · have hlm : len ≤ m := by rw [hmm]; split <;> omega
    obtain ⟨l, hll, hlp⟩ := choose_list (n := len) (P := fun i y => ok y ∧ ∃ c, d.K W y c ∧ c.length = d.sz ∧ ∀ j u, c[j]? = some u → W.cell? (a.add (i * d.sz + j)) = some u) (fun i hi => by
      obtain ⟨cs', hcs, htr⟩ := hel i (by omega)
      obtain ⟨y, hK, hok⟩ := h _ _ _ htr
      obtain ⟨_, hlen, hcell⟩ := World.cells?_some hcs
      refine ⟨y, hok, cs', hK, d.K_len hK, fun j u hu => ?_⟩
      have hj : j < Try.prog.cellsOf e := by rw [← hlen]; exact (List.getElem?_eq_some_iff.1 hu).1
      have := hcell j hj
      rw [hsz] at this
      rw [hu] at this
      rw [← this]
      congr 1
      unfold Addr.add
      by_cases h1 : i * d.sz = 0 <;> by_cases h2 : j = 0
      · simp [h1, h2]
      · simp [h1, h2]
      · simp [h1, h2]
      · rw [if_neg h1, if_neg h2, if_neg (by omega)]
        simp [Nat.add_assoc])
    refine ⟨l, ⟨some a, cap, by rw [hll], by rw [hll]; exact hl, rfl, by rw [hll]; simp only [maxLen] at hm; omega, fun _ => ⟨a, rfl, fun j p hp => ?_⟩⟩, fun y hy => ?_⟩
    · obtain ⟨_, c, hK, hc, hcell⟩ := hlp j p hp
      exact ⟨c, hc, hK, hcell⟩
    · obtain ⟨i, hi, rfl⟩ := List.mem_iff_getElem.1 hy
      exact (hlp i _ (List.getElem?_eq_getElem hi)).1
theorem field_tells {α : Type} {t : TypeId} {d : Kd α} {ok : α → Prop} {n i : Nat} {cs : List Value} {xs : List (DataW H × List MemPlace)} (T : Tells enc W base spare held t d ok)
    (hf : DataW.trod enc Try.prog W base spare held n t cs = xs[i]?) (hi : i < xs.length) : ∃ y, d.K W y cs ∧ ok y := by
  rw [List.getElem?_eq_getElem hi] at hf
  exact T _ _ _ hf
theorem list2 {α : Type} {l : List α} (h : l.length = 2) : ∃ c0 c1, l = [c0, c1] := by
  match l, h with
  | [c0, c1], _ => exact ⟨c0, c1, rfl⟩
theorem list6 {α : Type} {l : List α} (h : l.length = 6) : ∃ c0 c1 c2 c3 c4 c5, l = [c0, c1, c2, c3, c4, c5] := by
  match l, h with
  | [c0, c1, c2, c3, c4, c5], _ => exact ⟨c0, c1, c2, c3, c4, c5, rfl⟩
theorem cells_string : Try.prog.cellsOf 9 = 1 := by kernel_rfl
theorem cells_int : Try.prog.cellsOf 3 = 1 := by kernel_rfl
theorem cells_bool : Try.prog.cellsOf 4 = 1 := by kernel_rfl
theorem cells___spec_FieldType : Try.prog.cellsOf 27 = 1 := by kernel_rfl
theorem cells___string : Try.prog.cellsOf 35 = 1 := by kernel_rfl
theorem cells___int32 : Try.prog.cellsOf 36 = 1 := by kernel_rfl
theorem cells_int32 : Try.prog.cellsOf 21 = 1 := by kernel_rfl
theorem cells_spec_FieldType : Try.prog.cellsOf 31 = 6 := by kernel_rfl
theorem cells_spec_MessageType : Try.prog.cellsOf 29 = 2 := by kernel_rfl
theorem cells_spec_EnumType : Try.prog.cellsOf 38 = 2 := by kernel_rfl
theorem cells_spec_Schema : Try.prog.cellsOf 25 = 2 := by kernel_rfl
theorem cells___spec_MessageType : Try.prog.cellsOf 22 = 1 := by kernel_rfl
theorem cells___spec_EnumType : Try.prog.cellsOf 23 = 1 := by kernel_rfl
theorem tells_FT : Tells enc W base spare held 31 kFT (fun x => (Lit.int .i64 x.num).wf = true ∧ (Lit.int .i64 x.kind).wf = true ∧ (Lit.int .i64 x.typ).wf = true) := by
  intro fuel cs x h
  obtain ⟨xs, m, rfl, _, hl, hlen, hf⟩ := DataW.trod_struct Try.underlying31 h
  have hlen : xs.length = 6 := hlen
  obtain ⟨c0, c1, c2, c3, c4, c5, rfl⟩ := list6 (hl.trans cells_spec_FieldType)
  have h0 : DataW.trod enc Try.prog W base spare held m 9 (([c0, c1, c2, c3, c4, c5].drop 0).take (Try.prog.cellsOf 9)) = xs[0]? := hf 0 _ rfl
  have h1 : DataW.trod enc Try.prog W base spare held m 3 (([c0, c1, c2, c3, c4, c5].drop 1).take (Try.prog.cellsOf 3)) = xs[1]? := hf 1 _ rfl
  have h2 : DataW.trod enc Try.prog W base spare held m 3 (([c0, c1, c2, c3, c4, c5].drop 2).take (Try.prog.cellsOf 3)) = xs[2]? := hf 2 _ rfl
  have h3 : DataW.trod enc Try.prog W base spare held m 4 (([c0, c1, c2, c3, c4, c5].drop 3).take (Try.prog.cellsOf 4)) = xs[3]? := hf 3 _ rfl
  have h4 : DataW.trod enc Try.prog W base spare held m 4 (([c0, c1, c2, c3, c4, c5].drop 4).take (Try.prog.cellsOf 4)) = xs[4]? := hf 4 _ rfl
  have h5 : DataW.trod enc Try.prog W base spare held m 3 (([c0, c1, c2, c3, c4, c5].drop 5).take (Try.prog.cellsOf 3)) = xs[5]? := hf 5 _ rfl
  rw [cells_string] at h0
  obtain ⟨y0, k0, o0⟩ := field_tells (tells_string Try.underlying9) h0 (by omega)
  rw [cells_int] at h1
  obtain ⟨y1, k1, o1⟩ := field_tells (tells_int Try.underlying3) h1 (by omega)
  rw [cells_int] at h2
  obtain ⟨y2, k2, o2⟩ := field_tells (tells_int Try.underlying3) h2 (by omega)
  rw [cells_bool] at h3
  obtain ⟨y3, k3, o3⟩ := field_tells (tells_bool Try.underlying4) h3 (by omega)
  rw [cells_bool] at h4
  obtain ⟨y4, k4, o4⟩ := field_tells (tells_bool Try.underlying4) h4 (by omega)
  rw [cells_int] at h5
  obtain ⟨y5, k5, o5⟩ := field_tells (tells_int Try.underlying3) h5 (by omega)
  exact ⟨⟨y0, y1, y2, y3, y4, y5⟩, ⟨[c0], [c1, c2, c3, c4, c5], rfl, k0, [c1], [c2, c3, c4, c5], rfl, k1, [c2], [c3, c4, c5], rfl, k2, [c3], [c4, c5], rfl, k3, [c4], [c5], rfl, k4, k5⟩, o1, o2, o5⟩
theorem tells_MT : Tells enc W base spare held 29 kMT (fun x => ∀ y ∈ x.fields, (Lit.int .i64 y.num).wf = true ∧ (Lit.int .i64 y.kind).wf = true ∧ (Lit.int .i64 y.typ).wf = true) := by
  intro fuel cs x h
  obtain ⟨xs, m, rfl, _, hl, hlen, hf⟩ := DataW.trod_struct Try.underlying29 h
  have hlen : xs.length = 2 := hlen
  obtain ⟨c0, c1, rfl⟩ := list2 (hl.trans cells_spec_MessageType)
  have h0 : DataW.trod enc Try.prog W base spare held m 9 (([c0, c1].drop 0).take (Try.prog.cellsOf 9)) = xs[0]? := hf 0 _ rfl
  have h1 : DataW.trod enc Try.prog W base spare held m 27 (([c0, c1].drop 1).take (Try.prog.cellsOf 27)) = xs[1]? := hf 1 _ rfl
  rw [cells_string] at h0
  obtain ⟨y0, k0, o0⟩ := field_tells (tells_string Try.underlying9) h0 (by omega)
  rw [cells___spec_FieldType] at h1
  obtain ⟨y1, k1, o1⟩ := field_tells (tells_slice Try.underlying27 cells_spec_FieldType tells_FT) h1 (by omega)
  exact ⟨⟨y0, y1⟩, ⟨[c0], [c1], rfl, k0, k1⟩, o1⟩
theorem tells_ET : Tells enc W base spare held 38 kET (fun x => ∀ y ∈ x.nums, (Lit.int .i32 y).wf = true) := by
  intro fuel cs x h
  obtain ⟨xs, m, rfl, _, hl, hlen, hf⟩ := DataW.trod_struct Try.underlying38 h
  have hlen : xs.length = 2 := hlen
  obtain ⟨c0, c1, rfl⟩ := list2 (hl.trans cells_spec_EnumType)
  have h0 : DataW.trod enc Try.prog W base spare held m 35 (([c0, c1].drop 0).take (Try.prog.cellsOf 35)) = xs[0]? := hf 0 _ rfl
  have h1 : DataW.trod enc Try.prog W base spare held m 36 (([c0, c1].drop 1).take (Try.prog.cellsOf 36)) = xs[1]? := hf 1 _ rfl
  rw [cells___string] at h0
  obtain ⟨y0, k0, o0⟩ := field_tells (tells_slice Try.underlying35 cells_string (tells_string Try.underlying9)) h0 (by omega)
  rw [cells___int32] at h1
  obtain ⟨y1, k1, o1⟩ := field_tells (tells_slice Try.underlying36 cells_int32 (tells_int Try.underlying21)) h1 (by omega)
  exact ⟨⟨y0, y1⟩, ⟨[c0], [c1], rfl, k0, k1⟩, o1⟩
/-- A schema, as it came in. -/
theorem tells_schema {fuel : Nat} {cs : List Value} {x : DataW H × List MemPlace} (h : DataW.trod enc Try.prog W base spare held fuel 25 cs = some x) :
    ∃ (ms : List MT) (es : List ET) (A0 : Option Addr) (c0 : Nat) (A1 : Option Addr) (c1 : Nat), cs = [.slice A0 ms.length c0, .slice A1 es.length c1] ∧ Kd.C kMT W A0 ms.length ms ∧ Kd.C kET W A1 es.length es ∧
      (∀ m ∈ ms, ∀ y ∈ m.fields, (Lit.int .i64 y.num).wf = true ∧ (Lit.int .i64 y.kind).wf = true ∧ (Lit.int .i64 y.typ).wf = true) ∧ ∀ e ∈ es, ∀ y ∈ e.nums, (Lit.int .i32 y).wf = true := by
  obtain ⟨xs, m, rfl, _, hl, hlen, hf⟩ := DataW.trod_struct Try.underlying25 h
  have hlen : xs.length = 2 := hlen
  obtain ⟨c0, c1, rfl⟩ := list2 (hl.trans cells_spec_Schema)
  have h0 : DataW.trod enc Try.prog W base spare held m 22 (([c0, c1].drop 0).take (Try.prog.cellsOf 22)) = xs[0]? := hf 0 _ rfl
  have h1 : DataW.trod enc Try.prog W base spare held m 23 (([c0, c1].drop 1).take (Try.prog.cellsOf 23)) = xs[1]? := hf 1 _ rfl
  rw [cells___spec_MessageType] at h0
  rw [cells___spec_EnumType] at h1
  obtain ⟨y0, k0, o0⟩ := field_tells (tells_slice Try.underlying22 cells_spec_MessageType tells_MT) h0 (by omega)
  obtain ⟨y1, k1, o1⟩ := field_tells (tells_slice Try.underlying23 cells_spec_EnumType tells_ET) h1 (by omega)
  obtain ⟨A0, d0, e0, _, g0⟩ := k0
  obtain ⟨A1, d1, e1, _, g1⟩ := k1
  refine ⟨y0, y1, A0, d0, A1, d1, ?_, g0, g1, o0, o1⟩
  have e0 : [c0] = _ := e0
  have e1 : [c1] = _ := e1
  cases e0
  cases e1
  rfl
end
end Go.Proofs.Ytapkmjfjikpnlaa
