import Derived.Test.Qxb6614908aFmtDepDoc
import Derived.Test.Qxb6614908aFmtDepText
namespace Go.Proofs.Qxb6614908aFmt.Dep
open Go.ChangeShapes Go.WideShapes Go.ChangeAt Go.RowKit

/-! ### What 'build' makes of a description: the text, the depth; plain -/
def mx (f : Nat → Nat) : Nat → Nat
  | 0 => 0
  | n + 1 => max (mx f n) (f n)
def cat (f : Nat → List Int) : Nat → List Int
  | 0 => []
  | n + 1 => cat f n ++ f n
/-- The last index below n whose key is c; 0 if there is none. -/
def lastI (K : Nat → ByteArray) (c : ByteArray) : Nat → Nat
  | 0 => 0
  | n + 1 => if K n = c then n else lastI K c n

def dep (W : World) : Nat → Dv → Nat
  | 0, _ => 0
  | n + 1, d =>
    if d.k = 3 then mx (fun i => dep W n (itemD W d.ai i)) d.li + 1
    else if d.k = 4 then mx (fun i => if lastI (keyD W d.af) (keyD W d.af i) d.lf = i then dep W n (valD W d.af i) else 0) d.lf + 1
    else if d.k = 6 ∨ d.k = 7 then 1 else 0
def txt (W : World) : Nat → Dv → List Int
  | 0, _ => []
  | n + 1, d =>
    if d.k = 3 then [91] ++ cat (fun i => txt W n (itemD W d.ai i)) d.li ++ [93]
    else if d.k = 4 then [123] ++ cat (fun i => if lastI (keyD W d.af) (keyD W d.af i) d.lf = i then txt W n (valD W d.af i) else []) d.lf ++ [125]
    else if d.k = 6 then [91, 93] else if d.k = 7 then [123, 125] else [48]

theorem txt_list (W : World) (n : Nat) (s : ByteArray) (f : Bool) (ai : Option Addr) (li ci : Nat) (af : Option Addr) (lf cf : Nat) :
    txt W (n + 1) ⟨3, s, f, ai, li, ci, af, lf, cf⟩ = [91] ++ cat (fun i => txt W n (itemD W ai i)) li ++ [93] := by rw [txt]; exact if_pos rfl
theorem dep_list (W : World) (n : Nat) (s : ByteArray) (f : Bool) (ai : Option Addr) (li ci : Nat) (af : Option Addr) (lf cf : Nat) :
    dep W (n + 1) ⟨3, s, f, ai, li, ci, af, lf, cf⟩ = mx (fun i => dep W n (itemD W ai i)) li + 1 := by rw [dep]; exact if_pos rfl
theorem txt_obj (W : World) (n : Nat) (s : ByteArray) (f : Bool) (ai : Option Addr) (li ci : Nat) (af : Option Addr) (lf cf : Nat) :
    txt W (n + 1) ⟨4, s, f, ai, li, ci, af, lf, cf⟩ = [123] ++ cat (fun i => if lastI (keyD W af) (keyD W af i) lf = i then txt W n (valD W af i) else []) lf ++ [125] := by rw [txt, if_neg (show ¬ (4 : Int) = 3 from by decide)]; exact if_pos rfl
theorem dep_obj (W : World) (n : Nat) (s : ByteArray) (f : Bool) (ai : Option Addr) (li ci : Nat) (af : Option Addr) (lf cf : Nat) :
    dep W (n + 1) ⟨4, s, f, ai, li, ci, af, lf, cf⟩ = mx (fun i => if lastI (keyD W af) (keyD W af i) lf = i then dep W n (valD W af i) else 0) lf + 1 := by rw [dep, if_neg (show ¬ (4 : Int) = 3 from by decide)]; exact if_pos rfl

theorem bal_cat {f : Nat → List Int} {g : Nat → Nat} (h : ∀ i, Bal (f i) (g i)) : ∀ n, Bal (cat f n) (mx g n)
  | 0 => bal_nil
  | n + 1 => bal_append (bal_cat h n) (h n)

/-- THE PLAIN LAW: the text's brackets nest as deep as the value. -/
theorem bal_txt (W : World) : ∀ (n : Nat) (d : Dv), Bal (txt W n d) (dep W n d)
  | 0, _ => bal_nil
  | n + 1, d => by
    unfold txt dep
    by_cases h3 : d.k = 3
    · rw [if_pos h3, if_pos h3]
      exact bal_list (bal_cat (fun i => bal_txt W n _) _)
    rw [if_neg h3, if_neg h3]
    by_cases h4 : d.k = 4
    · rw [if_pos h4, if_pos h4]
      refine bal_obj (bal_cat (fun i => ?_) _)
      split
      · exact bal_txt W n _
      · exact bal_nil
    rw [if_neg h4, if_neg h4]
    by_cases h6 : d.k = 6
    · rw [if_pos h6, if_pos (Or.inl h6)]
      exact bal_list bal_nil
    rw [if_neg h6]
    by_cases h7 : d.k = 7
    · rw [if_pos h7, if_pos (Or.inr h7)]
      exact bal_obj bal_nil
    rw [if_neg h7, if_neg (by simp [h6, h7])]
    exact bal_scalar

theorem le_mx (f : Nat → Nat) : ∀ n i, i < n → f i ≤ mx f n
  | n + 1, i, h => by
    unfold mx
    by_cases e : i = n
    · subst e; omega
    · have := le_mx f n i (by omega); omega
theorem mx_is (f : Nat → Nat) : ∀ n, mx f n = 0 ∨ ∃ i, i < n ∧ f i = mx f n
  | 0 => Or.inl rfl
  | n + 1 => by
    unfold mx
    rcases mx_is f n with h | ⟨i, hi, h⟩
    · by_cases e : f n = 0
      · left; omega
      · right; exact ⟨n, by omega, by omega⟩
    · right
      by_cases e : mx f n ≤ f n
      · exact ⟨n, by omega, by omega⟩
      · exact ⟨i, by omega, by omega⟩
theorem le_sum (f : Nat → Nat) : ∀ n i, i < n → f i ≤ sum f n
  | n + 1, i, h => by
    unfold sum
    by_cases e : i = n
    · subst e; omega
    · have := le_sum f n i (by omega); omega
theorem sum_mono {f g : Nat → Nat} (h : ∀ i, f i ≤ g i) : ∀ n, sum f n ≤ sum g n
  | 0 => Nat.le_refl _
  | n + 1 => Nat.add_le_add (sum_mono h n) (h n)
theorem sum_le {m n : Nat} (f : Nat → Nat) (h : m ≤ n) : sum f m ≤ sum f n := by
  induction n with
  | zero => obtain rfl : m = 0 := by omega
            exact Nat.le_refl _
  | succ n ih =>
    by_cases e : m = n + 1
    · subst e; exact Nat.le_refl _
    · have := ih (by omega)
      simp only [sum]
      omega

theorem length_cat {f : Nat → List Int} {g : Nat → Nat} (h : ∀ i, (f i).length ≤ 2 + 2 * g i) : ∀ n, (cat f n).length ≤ 2 * n + 2 * sum g n
  | 0 => by simp [cat, sum]
  | n + 1 => by
    have := length_cat h n
    have := h n
    simp only [cat, sum, List.length_append]
    omega

theorem length_txt (W : World) : ∀ (n : Nat) (d : Dv), (txt W n d).length ≤ 2 + 2 * siz W n d
  | 0, _ => by simp [txt]
  | n + 1, d => by
    unfold txt
    split
    · have := length_cat (f := fun i => txt W n (itemD W d.ai i)) (g := fun i => siz W n (itemD W d.ai i)) (fun i => length_txt W n _) d.li
      simp only [List.length_append, List.length_cons, List.length_nil, siz]
      omega
    · split
      · have := length_cat (f := fun i => if lastI (keyD W d.af) (keyD W d.af i) d.lf = i then txt W n (valD W d.af i) else []) (g := fun i => (keyD W d.af i).size + siz W n (valD W d.af i)) (fun i => by
          have := length_txt W n (valD W d.af i)
          split
          · omega
          · simp) d.lf
        simp only [List.length_append, List.length_cons, List.length_nil, siz]
        omega
      · split
        · simp
        · split
          · simp
          · simp; omega

theorem dep_le (W : World) : ∀ (n : Nat) (d : Dv), dep W n d ≤ 1 + siz W n d
  | 0, _ => by simp [dep]
  | n + 1, d => by
    unfold dep
    split
    · rcases mx_is (fun i => dep W n (itemD W d.ai i)) d.li with h | ⟨i, hi, h⟩
      · rw [h]; omega
      · rw [← h]
        have h1 := dep_le W n (itemD W d.ai i)
        have h2 := le_sum (fun i => siz W n (itemD W d.ai i)) d.li i hi
        simp only [siz] at h2 ⊢
        omega
    · split
      · rcases mx_is (fun i => if lastI (keyD W d.af) (keyD W d.af i) d.lf = i then dep W n (valD W d.af i) else 0) d.lf with h | ⟨i, hi, h⟩
        · rw [h]; omega
        · rw [← h]
          have h1 := dep_le W n (valD W d.af i)
          have h2 := le_sum (fun i => (keyD W d.af i).size + siz W n (valD W d.af i)) d.lf i hi
          simp only [siz] at h2 ⊢
          split <;> omega
      · split <;> omega

theorem bnd_list (W : World) (n : Nat) (k : Int) (s : ByteArray) (f : Bool) (ai : Option Addr) (li ci : Nat) (af : Option Addr) (lf cf : Nat) (q : Nat) (bs : List Int) (hq : q < li) :
    (bs ++ [91] ++ cat (fun i => txt W n (itemD W ai i)) q).length + 2 * siz W n (itemD W ai q) ≤ bs.length + 2 * siz W (n + 1) ⟨k, s, f, ai, li, ci, af, lf, cf⟩ ∧ siz W n (itemD W ai q) ≤ siz W (n + 1) ⟨k, s, f, ai, li, ci, af, lf, cf⟩ := by
  have h1 := length_cat (f := fun i => txt W n (itemD W ai i)) (g := fun i => siz W n (itemD W ai i)) (fun i => length_txt W n _) q
  have h2 := sum_le (fun i => siz W n (itemD W ai i)) (show q + 1 ≤ li from hq)
  simp only [sum] at h2
  simp only [List.length_append, List.length_cons, List.length_nil, siz]
  omega
theorem bnd_list_end (W : World) (n : Nat) (k : Int) (s : ByteArray) (f : Bool) (ai : Option Addr) (li ci : Nat) (af : Option Addr) (lf cf : Nat) (bs : List Int) :
    (bs ++ [91] ++ cat (fun i => txt W n (itemD W ai i)) li).length ≤ bs.length + 2 * siz W (n + 1) ⟨k, s, f, ai, li, ci, af, lf, cf⟩ + 1 := by
  have h1 := length_cat (f := fun i => txt W n (itemD W ai i)) (g := fun i => siz W n (itemD W ai i)) (fun i => length_txt W n _) li
  simp only [List.length_append, List.length_cons, List.length_nil, siz]
  omega
end Go.Proofs.Qxb6614908aFmt.Dep
