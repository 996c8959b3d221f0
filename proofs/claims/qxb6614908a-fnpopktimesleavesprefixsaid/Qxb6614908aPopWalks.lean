import Derived.Test.Qxb6614908aRows
import Derived.WalkKit
import Derived.ProofKit
import Derived.OpenShut
import Derived.ShutString
import Derived.RegionTactic
import Derived.ChangeAlike
import Derived.Deep.QuietTactic
import Derived.BigQuiet
import Derived.Deep.OwnRows
import Derived.Laws.CopyOwn
import Derived.Outline
import Derived.WalkSpells
namespace Go.Proofs.Qxb6614908a.Pop
open Go.ChangeShapes Go.WideShapes Go.ChangeAt Go.RowKit

def IsB (e : Ending) : Prop := ∃ r, e = .returned (.bool r)
theorem isB (r : Bool) : IsB (.returned (.bool r)) := ⟨r, rfl⟩

set_option maxHeartbeats 400000 in
theorem bytes_any (b off n c : Nat) (k : Int) (Sx : Nat → ByteArray) (w : World) (hn : n * 16 ≤ 140737488351232)
    (hs : ∀ i, i < n → (Sx i).size ≤ 9223372036854775807) (hc : ∀ i, i < n → w.cell? ⟨b, off + i, none⟩ = some (.string (Sx i))) :
    Calls Try.prog 5 #[.slice (some ⟨b, off, none⟩) n c, .int .i64 k] w fun e w' => IsB e ∧ w = w' := by
  go_enter Try.func5, Try.ntmps5
  go_wp2
  · go_ret
    exact ⟨isB _, rfl⟩
  · go_loop [5, 6] (fun z i => ∃ (k : Nat) (s : Int), k ≤ n ∧ i = .int .i64 k ∧ z = .int .i64 s ∧ 0 ≤ s ∧ s ≤ 1048576) (fun _ i => n - (intOf i).toNat)
    case atStart => exact ⟨0, n, Nat.zero_le _, rfl, rfl, by omega, by omega⟩
    case round =>
      obtain ⟨k, s, hk, rfl, rfl, hs0, hs1⟩ := hrel
      by_cases hlt : k < n
      · have hck := hc k hlt
        have hsk := hs k hlt
        go_wp2
        · go_ret
          exact ⟨isB _, rfl⟩
        · go_ret
          exact ⟨isB _, rfl⟩
        · go_round
          case rel => exact ⟨k + 1, _, by omega, by go_num, rfl, by omega, by omega⟩
          case measure => simp [intOf]; omega
      · go_wp2
        go_ret
        exact ⟨isB _, rfl⟩

set_option maxHeartbeats 400000 in
theorem bytes_none (ao : Option Addr) (c : Nat) (k : Int) (w : World) :
    Calls Try.prog 5 #[.slice ao 0 c, .int .i64 k] w fun e w' => IsB e ∧ w = w' := by
  go_enter Try.func5, Try.ntmps5
  go_wp2
  refine wp_loop_rounds 1 ?_
  rw [rounds_succ]
  go_wp2
  go_ret
  exact ⟨isB _, rfl⟩

set_option maxHeartbeats 400000 in
theorem big_any (b off n c : Nat) (Sx : Nat → ByteArray) (w : World) (hn : n * 16 ≤ 140737488351232)
    (hs : ∀ i, i < n → (Sx i).size ≤ 9223372036854775807) (hc : ∀ i, i < n → w.cell? ⟨b, off + i, none⟩ = some (.string (Sx i))) :
    Calls Try.prog 6 #[.slice (some ⟨b, off, none⟩) n c] w fun e w' => IsB e ∧ w = w' := by
  go_enter Try.func6, Try.ntmps6
  go_wp2
  · go_ret
    exact ⟨isB _, rfl⟩
  · go_loop [3, 4] (fun z i => ∃ (k : Nat) (s : Int), k ≤ n ∧ i = .int .i64 k ∧ z = .int .i64 s ∧ 0 ≤ s ∧ s ≤ 1048576) (fun _ i => n - (intOf i).toNat)
    case atStart => exact ⟨0, _, Nat.zero_le _, rfl, rfl, by omega, by omega⟩
    case round =>
      obtain ⟨k, s, hk, rfl, rfl, hs0, hs1⟩ := hrel
      by_cases hlt : k < n
      · have hck := hc k hlt
        have hsk := hs k hlt
        go_wp2
        · go_ret
          exact ⟨isB _, rfl⟩
        · go_ret
          exact ⟨isB _, rfl⟩
        · go_round
          case rel => exact ⟨k + 1, _, by omega, by go_num, rfl, by omega, by omega⟩
          case measure => simp [intOf]; omega
      · go_wp2
        go_ret
        exact ⟨isB _, rfl⟩

set_option maxHeartbeats 400000 in
theorem big_none (ao : Option Addr) (c : Nat) (w : World) :
    Calls Try.prog 6 #[.slice ao 0 c] w fun e w' => IsB e ∧ w = w' := by
  go_enter Try.func6, Try.ntmps6
  go_wp2
  refine wp_loop_rounds 1 ?_
  rw [rounds_succ]
  go_wp2
  go_ret
  exact ⟨isB _, rfl⟩

/-- 'pop' on a path that lies in block B, alone in its cell. -/
theorem pop_any (B g m c : Nat) (hm : m + 1 ≤ c) (hmm : m + 1 ≤ 9223372036854775807) (w : World) (hcell : w.cell? ⟨B, 0, none⟩ = some (.slice (some ⟨g, 0, none⟩) (m + 1) c)) (hf : w.frozen? ⟨B, 0, none⟩ = false) :
    Calls Try.prog 13 #[.pointer (some ⟨B, 0, none⟩)] w fun e w' => e = .returned (.tuple #[]) ∧ w' = (w.setCell ⟨B, 0, none⟩ (.slice (some ⟨g, 0, none⟩) m c)).drew := by
  go_enter Try.func13, Try.ntmps13
  go_wp2
  go_region
  all_goals (go_end0; exact ⟨rfl, rfl⟩)

theorem zzpop_any (B g m c : Nat) (hm : m + 1 ≤ c) (hmm : m + 1 ≤ 9223372036854775807) (w : World) (hcell : w.cell? ⟨B, 0, none⟩ = some (.slice (some ⟨g, 0, none⟩) (m + 1) c)) (hf : w.frozen? ⟨B, 0, none⟩ = false) :
    Calls Try.prog 8 #[.pointer (some ⟨B, 0, none⟩)] w fun e w' => e = .returned (.tuple #[]) ∧ w' = (w.setCell ⟨B, 0, none⟩ (.slice (some ⟨g, 0, none⟩) m c)).drew := by
  go_enter Try.func8, Try.ntmps8
  go_wp2_with (go_at_call 13; refine (pop_any B g m c hm hmm _ hcell hf).mono ?_; rintro e w' ⟨rfl, rfl⟩)
  go_end0
  exact ⟨rfl, rfl⟩

theorem Try.info9 : (Try.prog.info? 9).map (fun i => (i.zero, i.size, i.bytes)) = some (some (.string ByteArray.empty), 1, 16) := by kernel_rfl
theorem Try.size9 : (Try.prog.info? 9).map (·.size) = some 1 := by kernel_rfl

theorem clone_nil (w : World) : Calls Try.prog 7 #[.slice none 0 0] w fun e w' => e = .returned (.slice none 0 0) ∧ w' = w := by
  have heq := fun wx => Lib.run_eql_slice_nil (P := Try.prog) wx 22 9 none 0 0 0 0 Try.underlying22
  go_enter Try.func7, Try.ntmps7
  go_wp2
  go_ret
  exact ⟨rfl, rfl⟩

def cells (Sx : Nat → ByteArray) (n : Nat) : List Value := (List.range n).map fun i => .string (Sx i)
def zeros (n : Nat) : List Value := List.replicate n (.string ByteArray.empty)
theorem made_zeros (n : Nat) : madeCells #[Value.string ByteArray.empty] n = (zeros n).toArray := by
  rw [zeros, ← toList_madeCells_one]

theorem splice_all (Sx : Nat → ByteArray) (n : Nat) : splice (zeros n) 0 (cells Sx n) = cells Sx n := by
  have h : (zeros n).drop (cells Sx n).length = [] := List.drop_eq_nil_of_le (by simp [zeros, cells])
  simp [splice, h]
theorem cells_get (Sx : Nat → ByteArray) (n j : Nat) (v : Value) (h : (cells Sx n)[j]? = some v) : j < n ∧ v = .string (Sx j) := by
  unfold cells at h
  rw [List.getElem?_map] at h
  by_cases hj : j < n
  · rw [List.getElem?_range hj] at h; simp at h; exact ⟨hj, h.symm⟩
  · rw [List.getElem?_eq_none (by simp; omega)] at h; simp at h
theorem heap_new (w : World) (o : Obj) : (w.alloc o).heap[w.heap.size]? = some o := by
  show (w.heap.push o)[w.heap.size]? = _
  simp

theorem addBlock (a : Addr) (n : Nat) : (a.add n).block = a.block := by unfold Addr.add; split <;> rfl

theorem clone_any (ad : Addr) (n c : Nat) (Sx : Nat → ByteArray) (w : World) (hn : n * 16 ≤ 140737488351232)
    (hc : ∀ i, i < n → w.cell? (ad.add i) = some (.string (Sx i))) (hlt : 0 < n → ad.block < w.heap.size) :
    Calls Try.prog 7 #[.slice (some ad) n c] w fun e w' => e = .returned (.slice (some ⟨w.heap.size, 0, none⟩) n n) ∧ w'.heap[w.heap.size]? = some (.cells (cells Sx n).toArray 9 (0, 0)) ∧ Below w.heap.size w w' := by
  have hmk := run_make_row' (P := Try.prog) 25 9 (.string ByteArray.empty) 16 Try.underlying25 Try.info9 rfl .i64 .i64 n (by omega) (by omega)
  have heq := fun wx => Lib.run_eql_slice_nil (P := Try.prog) wx 22 9 (some ad) n c 0 0 Try.underlying22
  have hz : (zeros n).length = n := by simp [zeros]
  have hcl : (cells Sx n).length = n := by simp [cells]
  have hB : Below w.heap.size w (w.alloc (.cells (madeCells #[.string ByteArray.empty] n) 9)) := (Below.refl _ _).alloc (Nat.le_refl _) _
  go_enter Try.func7, Try.ntmps7
  go_wp2_with ((refine wpList_copy_splice rfl (.tmp 9) (.tmp 10) 25 22 rfl 9 Try.underlying25 Try.size9 _ _ _ _ _ _ rfl rfl w.heap.size 0 (zeros n) 9 ?hg (cells Sx n) ?hn ?hpos ?hfit ?h1 w.heap.size w hB (Nat.le_refl _) ?_; rotate_right; intro w2 HG2 hB2))
  · go_ret
    refine ⟨rfl, ?_, hB2⟩
    rw [← splice_all Sx n]
    exact HG2.out
  case hg => rw [made_zeros]; exact heap_new _ _
  case hn => simp [hcl]
  case hpos =>
    intro hp j v hv
    obtain ⟨hj, rfl⟩ := cells_get Sx n j v hv
    rw [hB.cell (p := ad.add j) (by rw [addBlock]; exact hlt hp)]
    exact hc j hj
  case hfit => omega
  case h1 =>
    intro v hv
    obtain ⟨j, hj⟩ := List.getElem?_of_mem hv
    obtain ⟨_, rfl⟩ := cells_get Sx n j v hj
    rfl
end Go.Proofs.Qxb6614908a.Pop
