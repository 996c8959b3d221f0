import Derived.Test.Qxb6615051aFmtTnZz
namespace Go.Proofs.Qxb6615051aFmt.Tn
open Go.ChangeShapes Go.WideShapes Go.ChangeAt Go.RowKit

/-- The text of a list of codes' entries. -/
def listT (xs : List ByteArray) : ByteArray := ⟨(Lib.join ((xs.map entT).map (·.data.toList)) [59]).toArray⟩
def EntsX (w : World) (bk o : Nat) (xs : List ByteArray) : Prop := ∀ j x, xs[j]? = some x → EntAt w bk (o + j * 4) x

theorem entT_list (x : ByteArray) : (entT x).data.toList = [115, 112, 99, 58] ++ escT x.data.toList := by
  simp [entT, ByteArray.data_append]
theorem entT_len (x : ByteArray) : (entT x).data.toList.length ≤ 4 + 4 * x.size := by
  rw [entT_list, List.length_append]
  have := escT_len x.data.toList
  have e : x.data.toList.length = x.size := by rw [Array.length_toList]; rfl
  simp only [List.length_cons, List.length_nil]
  omega
theorem tail_append (l r : List (List UInt8)) : Lib.joinTail [59] (l ++ r) = Lib.joinTail [59] l ++ Lib.joinTail [59] r := by simp [Lib.joinTail]
theorem tail_cons (x : List UInt8) (r : List (List UInt8)) : Lib.joinTail [59] (x :: r) = 59 :: x ++ Lib.joinTail [59] r := by simp [Lib.joinTail]
theorem tail_len (xs : List ByteArray) : (Lib.joinTail [59] ((xs.map entT).map (·.data.toList))).length ≤ 4 * wt xs := by
  induction xs with
  | nil => simp [Lib.joinTail]
  | cons x r ih =>
    have := entT_len x
    simp only [List.map_cons, tail_cons, wt, List.length_append, List.length_cons] at *
    omega
theorem join_len (xs : List ByteArray) : (Lib.join ((xs.map entT).map (·.data.toList)) [59]).length ≤ 4 * wt xs := by
  cases xs with
  | nil => simp [Lib.join_nil]
  | cons x r =>
    have := entT_len x
    have h2 := tail_len r
    simp only [List.map_cons, Lib.join_cons, wt, List.length_append] at *
    omega
theorem listT_size (xs : List ByteArray) : (listT xs).size ≤ 4 * wt xs := by
  show (Lib.join ((xs.map entT).map (·.data.toList)) [59]).toArray.size ≤ _
  rw [List.size_toArray]
  exact join_len xs
theorem wt_append (a b : List ByteArray) : wt (a ++ b) = wt a + wt b := by
  induction a with
  | nil => simp [wt]
  | cons x r ih => simp only [List.cons_append, wt, ih]; omega
theorem wt_mem (xs : List ByteArray) : ∀ x ∈ xs, x.size ≤ wt xs := by
  induction xs with
  | nil => simp
  | cons y r ih =>
    intro x hx
    simp only [wt]
    rcases List.mem_cons.mp hx with rfl | h
    · omega
    · have := ih x h
      omega
/-- THE PLAIN LAW. -/
theorem listT_append (xl xr : List ByteArray) (hl : xl ≠ []) (hr : xr ≠ []) : listT (xl ++ xr) = listT xl ++ ⟨#[59]⟩ ++ listT xr := by
  cases xl with
  | nil => exact absurd rfl hl
  | cons x l =>
    cases xr with
    | nil => exact absurd rfl hr
    | cons y r =>
      apply ByteArray.ext
      simp only [listT, ByteArray.data_append, List.map_append, List.map_cons, List.cons_append, Lib.join_cons, tail_append, tail_cons]
      simp

theorem claim_x (bk o cap n : Nat) (xs : List ByteArray) (w : World) (hbk : bk < w.heap.size) (hn : n = xs.length) (hE : EntsX w bk o xs) (hwt : wt xs ≤ 1048576) :
    Calls Tryf.prog 9 #[.agg #[.slice (some ⟨bk, o, none⟩) n cap, .slice none 0 0, .nilIface]] w fun e w' => e = .returned (.string (listT xs)) ∧ Below w.heap.size w w' := by
  have hl := wt_len xs
  have h := claim_any bk o cap (xs.map entT) w hbk (by rw [List.length_map]; omega) (fun j t ht => by
    rw [List.getElem?_map] at ht
    cases hx : xs[j]? with
    | none => rw [hx] at ht; cases ht
    | some x =>
      rw [hx] at ht
      cases ht
      exact ⟨x, Nat.le_trans (wt_mem xs x (List.mem_of_getElem? hx)) hwt, rfl, hE j x hx⟩) (by have := join_len xs; omega)
  rw [List.length_map, ← hn] at h
  exact h

theorem EntsX.keep {B : Nat} {w w' : World} {bk o : Nat} {xs : List ByteArray} (h : EntsX w bk o xs) (hb : Below B w w') (hbk : bk < B) : EntsX w' bk o xs := fun j x hj => (h j x hj).keep hb hbk
theorem EntsX.left {w : World} {bk o : Nat} {xl xr : List ByteArray} (h : EntsX w bk o (xl ++ xr)) : EntsX w bk o xl := fun j x hj => h j x (by
  rw [List.getElem?_append_left (List.getElem?_eq_some_iff.mp hj).1]; exact hj)
theorem EntsX.right {w : World} {bk o : Nat} {xl xr : List ByteArray} (h : EntsX w bk o (xl ++ xr)) : EntsX w bk (o + xl.length * 4) xr := fun j x hj => by
  have := h (xl.length + j) x (by rw [List.getElem?_append_right (by omega)]; simpa using hj)
  rw [show o + xl.length * 4 + j * 4 = o + (xl.length + j) * 4 from by omega]
  exact this
theorem flat_at (xs : List ByteArray) : ∀ (j : Nat) (x : ByteArray), xs[j]? = some x → ∀ (i : Nat), i < 4 → (xs.flatMap entC)[j * 4 + i]? = (entC x)[i]? := by
  induction xs with
  | nil => intro j x h; simp at h
  | cons y r ih =>
    intro j x h i hi
    cases j with
    | zero =>
      simp at h
      subst h
      rw [List.flatMap_cons, List.getElem?_append_left (by simp [entC]; omega)]
      simp
    | succ j =>
      simp at h
      rw [List.flatMap_cons, List.getElem?_append_right (by simp [entC]; omega)]
      have := ih j x h i hi
      rw [← this]
      congr 1
      simp [entC]
      omega
theorem ents_of_row {w : World} {base g cap : Nat} {xs : List ByteArray} (h : w.ownsRow base 59 4 (.slice (some ⟨g, 0, none⟩) xs.length cap) xs.length (xs.flatMap entC)) : EntsX w g 0 xs := by
  intro j x hj
  have hlt : j < xs.length := (List.getElem?_eq_some_iff.mp hj).1
  have hc : ∀ i, i < 4 → w.cell? ⟨g, 0 + j * 4 + i, none⟩ = (entC x)[i]? := fun i hi => by
    rw [Nat.zero_add, h.cellAt (j * 4 + i) (by omega), flat_at xs j x hj i hi]
  exact ⟨hc 0 (by omega), hc 1 (by omega), hc 2 (by omega), hc 3 (by omega)⟩
end Go.Proofs.Qxb6615051aFmt.Tn
