/- The memory's words of this seat's walks: rows of structs that are read, their cells one by one. No conditions. -/
import Derived.Test.YtapkmjfjikpnlaaProg
import Derived.Test.YtapkmjfjikpnlaaWWords
import Derived.Test.YtapkmjfjikpnlaaWMore
namespace Go.Proofs.Ytapkmjfjikpnlaa
open Go.RowKit Go.Proofs.YtapkmjfjikpnlaaW.PrintWords Go.Proofs.YtapkmjfjikpnlaaW.PrintMore
set_option linter.unusedVariables false
set_option linter.unusedSimpArgs false

theorem C_at {α : Type} {d : Kd α} {w : World} {A : Option Addr} {n : Nat} {xs : List α} (h : d.C w A n xs) {i : Nat} {x : α} (hx : xs[i]? = some x) :
    ∃ ad c, A = some ad ∧ d.K w x c ∧ ∀ j u, c[j]? = some u → w.cell? (ad.add (i * d.sz + j)) = some u := by
  obtain ⟨hi, hxi⟩ := List.getElem?_eq_some_iff.1 hx
  have hl : xs.length = n := Kd.C_len h
  obtain ⟨ad, c, e, _, hK, hc⟩ := Kd.C_get h x (i : Int) (by omega) (by omega)
  refine ⟨ad, c, e, ?_, by simpa using hc⟩
  have : xs.getD (i : Int).toNat x = x := by simp [List.getD_eq_getElem?_getD, hx]
  rwa [this] at hK
theorem atStr {w : World} {A : Option Addr} {n : Nat} {xs : List ByteArray} (h : Kd.string.C w A n xs) {i : Nat} {x : ByteArray} (hx : xs[i]? = some x) : ∃ ad, A = some ad ∧ w.cell? (ad.add i) = some (.string x) := by
  obtain ⟨ad, c, e, hK, hc⟩ := C_at h hx
  obtain rfl : c = [.string x] := hK
  exact ⟨ad, e, by simpa [Kd.string, Kd.scalar] using hc 0 _ rfl⟩
theorem atInt {w : World} {k : IntKind} {A : Option Addr} {n : Nat} {xs : List Int} (h : (Kd.int k).C w A n xs) {i : Nat} {x : Int} (hx : xs[i]? = some x) : ∃ ad, A = some ad ∧ w.cell? (ad.add i) = some (.int k x) := by
  obtain ⟨ad, c, e, hK, hc⟩ := C_at h hx
  obtain rfl : c = [.int k x] := hK
  exact ⟨ad, e, by simpa [Kd.int, Kd.scalar] using hc 0 _ rfl⟩
theorem get_ex {α : Type} {l : List α} {i : Nat} (h : i < l.length) : ∃ x, Aside0 (l[i]? = some x) := ⟨l[i], ⟨by simp [h]⟩⟩
theorem all_succ {α : Type} {p : α → Bool} {l : List α} {i : Nat} {x : α} (hx : l[i]? = some x) (h : (l.take i).all p = true) (hp : p x = true) : (l.take (i + 1)).all p = true := by
  obtain ⟨hi, rfl⟩ := List.getElem?_eq_some_iff.1 hx
  rw [List.take_succ_eq_append_getElem hi, List.all_append, h]
  simp [hp]
theorem all_no {α : Type} {p : α → Bool} {l : List α} {i : Nat} {x : α} (hx : l[i]? = some x) (hp : p x = false) : l.all p = false := by
  obtain ⟨hi, rfl⟩ := List.getElem?_eq_some_iff.1 hx
  exact Bool.eq_false_iff.2 fun h => by rw [List.all_eq_true] at h; rw [h _ (List.getElem_mem hi)] at hp; cases hp
theorem all_done {α : Type} {p : α → Bool} {l : List α} {i : Nat} (h : (l.take i).all p = true) (hi : l.length ≤ i) : l.all p = true := by
  rwa [List.take_of_length_le hi] at h
theorem bel {B : Nat} {w W w1 : World} (h : Below B w W) (hB : B ≤ W.heap.size) (k : Below W.heap.size W w1) : Below B w w1 := below_then h hB k
theorem toList_eq (s : ByteArray) : s.toList = s.data.toList := by
  obtain ⟨⟨l⟩⟩ := s
  simp
theorem isEmpty_size (s : ByteArray) : s.toList.isEmpty = decide (s.size = 0) := by
  have h : s.toList.length = s.size := by rw [toList_eq, data_length]
  cases hl : s.toList with
  | nil =>
    have : s.size = 0 := by rw [← h, hl]; rfl
    rw [this]; rfl
  | cons a l =>
    have : s.size ≠ 0 := by rw [← h, hl]; simp
    rw [decide_eq_false this]; rfl
theorem add0 (a : Addr) (n : Nat) : a.add (0 * n) = a := by simp [Addr.add]
theorem add1 (a : Addr) (n : Nat) : a.add (1 * n) = a.add n := by rw [Nat.one_mul]
theorem addp (a : Addr) (n : Nat) (h : 0 < n) : a.add n = ⟨a.block, a.off + n, none⟩ := by unfold Addr.add; rw [if_neg (by omega)]

/-! Rows of bytes of the call's own -/
theorem infoB : (Try.prog.info? 5).map (fun i => (i.zero, i.size, i.bytes)) = some (some (.int .u8 0), 1, 1) := by kernel_rfl
abbrev OwnB (W : World) (base : Nat) (v : Value) (xs : List Int) : Prop := (Kd.int .u8).R 5 W base (fun _ => True) v xs
theorem app_byte {w0 W : World} {ops : Array Oper} {rest : List Oper} {o : Oper} {a : Act} {Q : Exit → Act → World → Prop} (hgd : o.guard = none) (s x : Operand)
    (ho : o.op = .call { callee := .builtin .append, args := #[s, x], argTypes := #[47, 47] }) {v : Value} {xs : List Int} (y : Int) (hs : a.eval s = v) (hx : a.eval x = .slice (some ⟨W.heap.size, 0, none⟩) 1 1)
    (HO : OwnB W w0.heap.size v xs) (HB : Below w0.heap.size w0 W) (hl : xs.length + 1 ≤ 140737488355328)
    (h : ∀ v1 w1, OwnB w1 w0.heap.size v1 (xs ++ [y]) → Below w0.heap.size w0 w1 → W.grownBy w1 v.ownBlock → wpList Try.prog ops Q rest (a.put o.dst v1) w1) :
    wpList Try.prog ops Q (o :: rest) a (W.alloc (.cells #[.int .u8 y] 5)) :=
  Kd.R_append (Kd.int .u8) (w0 := w0) w0.heap.size hgd s x 47 5 (.int .u8 0) 1 ho Try.underlying47 infoB rfl (by decide) (by omega) v xs y [.int .u8 y] (fun _ => True) (fun _ => False) hs hx rfl (fun _ hk => hk.elim) (fun _ _ => trivial) HO HB HB.size (by omega)
    fun v1 w1 ho hb hg hat => h v1 w1 ho hb hg
theorem own_str {W : World} {base : Nat} {v : Value} {xs : List Int} (h : OwnB W base v xs) : (convert 47 9 v).run Try.prog W = .ok (.string (strOfNums xs)) W :=
  own_string (P := Try.prog) Try.underlying47 Try.underlying5 Try.underlying9 (Kd.own_of_R h)
theorem drop_bytes (s : ByteArray) (i : Nat) (h : i < s.size) : (bytesOf s).drop i = bt s i :: (bytesOf s).drop (i + 1) := by
  have hl : i < (bytesOf s).length := by rw [bytesOf_length]; exact h
  rw [List.drop_eq_getElem_cons hl]
  congr 1
  have := rd_bytesOf s i
  rw [← this]
  simp [rd, List.getD_eq_getElem?_getD, List.getElem?_eq_getElem hl]
theorem drop_bytes_end (s : ByteArray) (i : Nat) (h : s.size ≤ i) : (bytesOf s).drop i = [] := List.drop_eq_nil_of_le (by rw [bytesOf_length]; exact h)

structure FT where
  name : ByteArray
  num : Int
  kind : Int
  rep : Bool
  map : Bool
  typ : Int
def kFT : Kd FT := Kd.iso (Kd.pair Kd.string (Kd.pair (Kd.int .i64) (Kd.pair (Kd.int .i64) (Kd.pair Kd.bool (Kd.pair Kd.bool (Kd.int .i64)))))) (fun x : FT => (x.name, x.num, x.kind, x.rep, x.map, x.typ))
theorem kFT_open {w : World} {x : FT} {cs : List Value} (h : kFT.K w x cs) : cs = [.string x.name, .int .i64 x.num, .int .i64 x.kind, .bool x.rep, .bool x.map, .int .i64 x.typ] := by
  obtain ⟨_, _, rfl, rfl, ⟨_, _, rfl, rfl, ⟨_, _, rfl, rfl, ⟨_, _, rfl, rfl, ⟨_, _, rfl, rfl, rfl⟩⟩⟩⟩⟩ := h
  exact rfl
theorem atFT {w : World} {A : Option Addr} {n : Nat} {xs : List FT} (h : Kd.C kFT w A n xs) {i : Nat} {x : FT} (hx : xs[i]? = some x) :
    ∃ ad, A = some ad ∧ w.cell? (ad.add (i * 6)) = some (.string x.name) ∧ w.cell? ⟨(ad.add (i * 6)).block, (ad.add (i * 6)).off + 1, none⟩ = some (.int .i64 x.num) ∧ w.cell? ⟨(ad.add (i * 6)).block, (ad.add (i * 6)).off + 2, none⟩ = some (.int .i64 x.kind) ∧ w.cell? ⟨(ad.add (i * 6)).block, (ad.add (i * 6)).off + 3, none⟩ = some (.bool x.rep) ∧ w.cell? ⟨(ad.add (i * 6)).block, (ad.add (i * 6)).off + 4, none⟩ = some (.bool x.map) ∧ w.cell? ⟨(ad.add (i * 6)).block, (ad.add (i * 6)).off + 5, none⟩ = some (.int .i64 x.typ) := by
  obtain ⟨ad, c, e, hK, hc0⟩ := C_at h hx
  have hc : ∀ j u, c[j]? = some u → w.cell? (ad.add (i * 6 + j)) = some u := hc0
  obtain rfl := kFT_open hK
  exact ⟨ad, e, hc 0 _ rfl, by rw [← add_field _ _ 1 (by omega)]; exact hc 1 _ rfl, by rw [← add_field _ _ 2 (by omega)]; exact hc 2 _ rfl, by rw [← add_field _ _ 3 (by omega)]; exact hc 3 _ rfl, by rw [← add_field _ _ 4 (by omega)]; exact hc 4 _ rfl, by rw [← add_field _ _ 5 (by omega)]; exact hc 5 _ rfl⟩

structure MT where
  name : ByteArray
  fields : (List FT)
def kMT : Kd MT := Kd.iso (Kd.pair Kd.string (Kd.slice 31 kFT)) (fun x : MT => (x.name, x.fields))
theorem kMT_open {w : World} {x : MT} {cs : List Value} (h : kMT.K w x cs) : ∃ A_fields c_fields, cs = [.string x.name, .slice A_fields x.fields.length c_fields] ∧ x.fields.length ≤ c_fields ∧ Kd.C kFT w A_fields x.fields.length x.fields := by
  obtain ⟨_, _, rfl, rfl, ⟨A_fields, c_fields, rfl, l_fields, g_fields⟩⟩ := h
  exact ⟨A_fields, c_fields, rfl, l_fields, g_fields⟩
theorem atMT {w : World} {A : Option Addr} {n : Nat} {xs : List MT} (h : Kd.C kMT w A n xs) {i : Nat} {x : MT} (hx : xs[i]? = some x) :
    ∃ ad A_fields c_fields, A = some ad ∧ w.cell? (ad.add (i * 2)) = some (.string x.name) ∧ w.cell? ⟨(ad.add (i * 2)).block, (ad.add (i * 2)).off + 1, none⟩ = some (.slice A_fields x.fields.length c_fields) ∧ x.fields.length ≤ c_fields ∧ Kd.C kFT w A_fields x.fields.length x.fields := by
  obtain ⟨ad, c, e, hK, hc0⟩ := C_at h hx
  have hc : ∀ j u, c[j]? = some u → w.cell? (ad.add (i * 2 + j)) = some u := hc0
  obtain ⟨A_fields, c_fields, rfl, l_fields, g_fields⟩ := kMT_open hK
  exact ⟨ad, A_fields, c_fields, e, hc 0 _ rfl, by rw [← add_field _ _ 1 (by omega)]; exact hc 1 _ rfl, l_fields, g_fields⟩

structure ET where
  names : (List ByteArray)
  nums : (List Int)
def kET : Kd ET := Kd.iso (Kd.pair (Kd.slice 9 Kd.string) (Kd.slice 21 (Kd.int .i32))) (fun x : ET => (x.names, x.nums))
theorem kET_open {w : World} {x : ET} {cs : List Value} (h : kET.K w x cs) : ∃ A_names c_names A_nums c_nums, cs = [.slice A_names x.names.length c_names, .slice A_nums x.nums.length c_nums] ∧ x.names.length ≤ c_names ∧ Kd.C Kd.string w A_names x.names.length x.names ∧ x.nums.length ≤ c_nums ∧ Kd.C (Kd.int .i32) w A_nums x.nums.length x.nums := by
  obtain ⟨_, _, rfl, ⟨A_names, c_names, rfl, l_names, g_names⟩, ⟨A_nums, c_nums, rfl, l_nums, g_nums⟩⟩ := h
  exact ⟨A_names, c_names, A_nums, c_nums, rfl, l_names, g_names, l_nums, g_nums⟩
theorem atET {w : World} {A : Option Addr} {n : Nat} {xs : List ET} (h : Kd.C kET w A n xs) {i : Nat} {x : ET} (hx : xs[i]? = some x) :
    ∃ ad A_names c_names A_nums c_nums, A = some ad ∧ w.cell? (ad.add (i * 2)) = some (.slice A_names x.names.length c_names) ∧ w.cell? ⟨(ad.add (i * 2)).block, (ad.add (i * 2)).off + 1, none⟩ = some (.slice A_nums x.nums.length c_nums) ∧ x.names.length ≤ c_names ∧ Kd.C Kd.string w A_names x.names.length x.names ∧ x.nums.length ≤ c_nums ∧ Kd.C (Kd.int .i32) w A_nums x.nums.length x.nums := by
  obtain ⟨ad, c, e, hK, hc0⟩ := C_at h hx
  have hc : ∀ j u, c[j]? = some u → w.cell? (ad.add (i * 2 + j)) = some u := hc0
  obtain ⟨A_names, c_names, A_nums, c_nums, rfl, l_names, g_names, l_nums, g_nums⟩ := kET_open hK
  exact ⟨ad, A_names, c_names, A_nums, c_nums, e, hc 0 _ rfl, by rw [← add_field _ _ 1 (by omega)]; exact hc 1 _ rfl, l_names, g_names, l_nums, g_nums⟩

end Go.Proofs.Ytapkmjfjikpnlaa
