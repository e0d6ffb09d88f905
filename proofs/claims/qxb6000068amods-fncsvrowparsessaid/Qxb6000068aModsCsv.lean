/- THE PLAIN FUNCTIONS: CSV fields over lists of numbers; no Go here. -/
import Derived.PlainAid
import Derived.Lib.AppendStr
namespace Go.Proofs.Qxb6000068aMods
open Go.PlainAid

/-- A comma, a quote, CR or LF. -/
def spec (c : Int) : Bool := c == 44 || c == 34 || c == 13 || c == 10
/-- Does a text want quotes? -/
def needs (l : List Int) : Bool := l.any spec
/-- Each quote doubled. -/
def dbl : List Int → List Int
  | [] => []
  | c :: r => if c = 34 then 34 :: 34 :: dbl r else c :: dbl r
/-- A text as a CSV field. -/
def csv (l : List Int) : List Int := if needs l then 34 :: (dbl l ++ [34]) else l

theorem dbl_append (a b : List Int) : dbl (a ++ b) = dbl a ++ dbl b := by
  induction a with
  | nil => rfl
  | cons c r ih => simp only [List.cons_append, dbl]; split <;> simp [ih]
theorem dbl_len (l : List Int) : (dbl l).length ≤ 2 * l.length := by
  induction l with
  | nil => simp [dbl]
  | cons c r ih => simp only [dbl]; split <;> simp <;> omega
theorem csv_len (l : List Int) : (csv l).length ≤ 2 * l.length + 2 := by
  have := dbl_len l
  unfold csv
  split <;> simp <;> omega

/-- A string's bytes as numbers. -/
def sl (s : ByteArray) : List Int := s.data.toList.map fun b => (b.toNat : Int)
theorem sl_length (s : ByteArray) : (sl s).length = s.size := by
  rw [sl, List.length_map, Array.length_toList]; rfl
theorem sl_get (s : ByteArray) {k : Nat} (h : k < s.size) : (sl s)[k]? = some (bt s k) := by
  have hk : k < s.data.toList.length := by rw [Array.length_toList]; exact h
  unfold bt sl
  rw [dif_pos h, List.getElem?_map, List.getElem?_eq_getElem hk]
  rfl
theorem sl_take (s : ByteArray) {k : Nat} (h : k < s.size) : (sl s).take (k + 1) = (sl s).take k ++ [bt s k] := by
  rw [List.take_add_one, sl_get s h]; rfl
theorem sl_all (s : ByteArray) : (sl s).take s.size = sl s := List.take_of_length_le (by rw [sl_length]; exact Nat.le_refl _)
theorem sl_inj {a b : ByteArray} (h : sl a = sl b) : a = b := by
  have h2 : a.data.toList = b.data.toList := by
    have hi : ∀ x y : List UInt8, x.map (fun b => (b.toNat : Int)) = y.map (fun b => (b.toNat : Int)) → x = y := by
      intro x
      induction x with
      | nil => intro y hy; cases y with
        | nil => rfl
        | cons c r => simp at hy
      | cons c r ih => intro y hy; cases y with
        | nil => simp at hy
        | cons d q =>
          simp only [List.map_cons, List.cons.injEq] at hy
          have e1 : c = d := UInt8.toNat_inj.1 (by omega)
          rw [e1, ih q hy.2]
    exact hi _ _ h
  have h3 : a.data = b.data := Array.ext' h2
  cases a; cases b; simp at h3; rw [h3]

/-- Cells of bytes. -/
def B (l : List Int) : List Value := l.map (Value.int .u8)
theorem B_length (l : List Int) : (B l).length = l.length := List.length_map _
theorem B_append (a b : List Int) : B (a ++ b) = B a ++ B b := List.map_append ..
theorem strCells_B (s : ByteArray) : Lib.strCells s = B (sl s) := by
  simp [Lib.strCells, B, sl]
theorem B_one (l : List Int) : ∀ u ∈ B l, u.oneCell' = true := by
  intro u hu
  simp only [B, List.mem_map] at hu
  obtain ⟨n, _, rfl⟩ := hu
  rfl
/-- The number at a place; 0 behind the end. -/
def nth (l : List Int) (i : Nat) : Int := l.getD i 0
theorem nth_sl (s : ByteArray) {k : Nat} (h : k < s.size) : nth (sl s) k = bt s k := by
  simp [nth, sl_get s h]
theorem B_get (l : List Int) {i : Nat} (h : i < l.length) : (B l)[i]? = some (.int .u8 (nth l i)) := by
  simp [B, nth, h]

theorem needs_take {s : ByteArray} {k : Nat} (h : k < s.size) : needs ((sl s).take (k + 1)) = (needs ((sl s).take k) || spec (bt s k)) := by
  rw [sl_take s h]; simp [needs]
theorem dbl_take_q {s : ByteArray} {k : Nat} (h : k < s.size) (hq : bt s k = 34) : dbl ((sl s).take (k + 1)) = dbl ((sl s).take k) ++ [34] ++ [bt s k] := by
  rw [sl_take s h, dbl_append]; simp [dbl, hq]
theorem dbl_take_n {s : ByteArray} {k : Nat} (h : k < s.size) (hq : ¬ bt s k = 34) : dbl ((sl s).take (k + 1)) = dbl ((sl s).take k) ++ [bt s k] := by
  rw [sl_take s h, dbl_append]; simp [dbl, hq]
theorem needs_of_spec {s : ByteArray} {k : Nat} (h : k < s.size) (hs : spec (bt s k) = true) : needs (sl s) = true := by
  unfold needs
  rw [List.any_eq_true]
  exact ⟨bt s k, List.mem_of_getElem? (sl_get s h), hs⟩
end Go.Proofs.Qxb6000068aMods
