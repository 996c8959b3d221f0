import Derived.Test.Qxb6614908aFmtDepVal
import Derived.Deep.Light
namespace Go.Proofs.Qxb6614908aFmt.Dep
open Go.ChangeShapes Go.WideShapes Go.ChangeAt Go.RowKit

/-! ### The brackets of a text, plain -/
def step (c : Int) (s : Int × Int) : Int × Int :=
  if c == 91 || c == 123 then (s.1 + 1, max s.2 (s.1 + 1)) else if c == 93 || c == 125 then (s.1 - 1, s.2) else s
def scan (s : Int × Int) (l : List Int) : Int × Int := l.foldl (fun s c => step c s) s

theorem scan_append (s : Int × Int) (a b : List Int) : scan s (a ++ b) = scan (scan s a) b := by simp [scan, List.foldl_append]
theorem scan_snoc (s : Int × Int) (a : List Int) (c : Int) : scan s (a ++ [c]) = step c (scan s a) := by simp [scan, List.foldl_append]

/-- A text that opens and shuts as many, and has D open at once at the most. -/
def Bal (l : List Int) (D : Nat) : Prop := ∀ cur best : Int, scan (cur, best) l = (cur, max best (if D = 0 then best else cur + D))

theorem bal_nil : Bal [] 0 := fun cur best => by simp [scan]
theorem bal_scalar : Bal [48] 0 := fun cur best => by simp [scan, step]
theorem bal_append {a b : List Int} {D E : Nat} (ha : Bal a D) (hb : Bal b E) : Bal (a ++ b) (max D E) := fun cur best => by
  rw [scan_append, ha, hb]
  by_cases h1 : D = 0 <;> by_cases h2 : E = 0 <;> simp [h1, h2] <;> omega
theorem bal_list {a : List Int} {D : Nat} (h : Bal a D) : Bal ([91] ++ a ++ [93]) (D + 1) := fun cur best => by
  rw [scan_append, scan_append]
  have e : scan (cur, best) [91] = (cur + 1, max best (cur + 1)) := by simp [scan, step]
  rw [e, h]
  simp [scan, step]
  by_cases h1 : D = 0 <;> simp [h1] <;> omega
theorem bal_obj {a : List Int} {D : Nat} (h : Bal a D) : Bal ([123] ++ a ++ [125]) (D + 1) := fun cur best => by
  rw [scan_append, scan_append]
  have e : scan (cur, best) [123] = (cur + 1, max best (cur + 1)) := by simp [scan, step]
  rw [e, h]
  simp [scan, step]
  by_cases h1 : D = 0 <;> simp [h1] <;> omega
theorem bal_depth {a : List Int} {D : Nat} (h : Bal a D) : (scan (0, 0) a).2 = D := by
  rw [h]
  by_cases h1 : D = 0 <;> simp [h1] <;> omega

theorem scan_bound (l : List Int) : -(l.length : Int) ≤ (scan (0, 0) l).1 ∧ (scan (0, 0) l).1 ≤ l.length ∧ 0 ≤ (scan (0, 0) l).2 ∧ (scan (0, 0) l).2 ≤ l.length := by
  have h : ∀ (l : List Int) (s : Int × Int) (k : Nat), -(k : Int) ≤ s.1 ∧ s.1 ≤ k ∧ 0 ≤ s.2 ∧ s.2 ≤ k → -((k + l.length : Nat) : Int) ≤ (scan s l).1 ∧ (scan s l).1 ≤ ((k + l.length : Nat) : Int) ∧ 0 ≤ (scan s l).2 ∧ (scan s l).2 ≤ ((k + l.length : Nat) : Int) := by
    intro l
    induction l with
    | nil => intro s k h; simpa [scan] using h
    | cons c r ih =>
      intro s k h
      have hs : -((k + 1 : Nat) : Int) ≤ (step c s).1 ∧ (step c s).1 ≤ ((k + 1 : Nat) : Int) ∧ 0 ≤ (step c s).2 ∧ (step c s).2 ≤ ((k + 1 : Nat) : Int) := by
        unfold step
        split
        · simp; omega
        · split
          · simp; omega
          · omega
      have := ih (step c s) (k + 1) hs
      rw [show k + (c :: r).length = k + 1 + r.length from by simp; omega]
      exact this
  simpa using h l (0, 0) 0 (by simp)

theorem val_eq {a b : Int} (h : a = b) : Value.int .i64 a = Value.int .i64 b := by rw [h]
theorem ret_int {k : IntKind} {a b : Int} (h : a = b) : Ending.returned (.int k a) = .returned (.int k b) := by rw [h]

set_option maxHeartbeats 1000000 in
/-- 'bracketDepth' reckons just that. -/
theorem bracket_any (g m cap : Nat) (l : List Int) (w : World) (hm : m ≤ 1099511627776) (hlen : l.length = m) (hc : ∀ j, j < m → w.cell? ⟨g, j, none⟩ = some (.int .u8 (l.getD j 0))) :
    Calls Tryf.prog 13 #[.slice (some ⟨g, 0, none⟩) m cap] w fun e w' => e = .returned (.int .i64 (scan (0, 0) l).2) ∧ w = w' := by
  have HL : Hid (l.length = m) := hlen
  clear hlen
  go_enter Tryf.func13, Tryf.ntmps13
  go_wp2_with fail
  go_loop [3, 4, 5] (fun c b i => ∃ k : Nat, k ≤ m ∧ i = .int .i64 k ∧ c = .int .i64 (scan (0, 0) (l.take k)).1 ∧ b = .int .i64 (scan (0, 0) (l.take k)).2) (fun _ _ i => m - (intOf i).toNat)
  case atStart => exact ⟨0, Nat.zero_le _, rfl, by simp [scan], by simp [scan]⟩
  case round =>
    obtain ⟨k, hk, rfl, rfl, rfl⟩ := hrel
    have hb := scan_bound (l.take k)
    have hll : (l.take k).length ≤ k := List.length_take_le _ _
    by_cases hlt : k < m
    · obtain ⟨x, hx⟩ : ∃ x, x = l.getD k 0 := ⟨_, rfl⟩
      have hck := hc k hlt
      rw [← hx] at hck
      have HS : Hid (scan (0, 0) (l.take (k + 1)) = step x (scan (0, 0) (l.take k))) := by
        have : l.take (k + 1) = l.take k ++ [x] := by
          rw [List.take_succ_eq_append_getElem (by have := HL.out; omega), hx, List.getD_eq_getElem?_getD, List.getElem?_eq_getElem (by have := HL.out; omega)]; rfl
        show _ = _
        rw [this, scan_snoc]
      clear hx
      obtain ⟨cur, hcur⟩ : ∃ cur, cur = (scan (0, 0) (l.take k)).1 := ⟨_, rfl⟩
      obtain ⟨best, hbest⟩ : ∃ best, best = (scan (0, 0) (l.take k)).2 := ⟨_, rfl⟩
      rw [← hcur, ← hbest] at hb ⊢
      have HC : Hid (scan (0, 0) (l.take k) = (cur, best)) := by show _ = _; rw [hcur, hbest]
      clear hcur hbest
      obtain ⟨b1, b2, b3, b4⟩ := hb
      clear hc
      go_wp2_with fail
      all_goals
        go_round
        case rel =>
          go_light
          refine ⟨k + 1, by omega, by go_num, val_eq ?_, val_eq ?_⟩
          · rw [HS.out, HC.out]; simp [step, *]
          · rw [HS.out, HC.out]; simp [step, *]; try omega
        case measure => simp [intOf]; omega
    · have HE : Hid (l.take k = l) := List.take_of_length_le (by have := HL.out; omega)
      go_wp2_with fail
      go_ret
      exact ⟨ret_int (by rw [HE.out]), rfl⟩
end Go.Proofs.Qxb6614908aFmt.Dep
