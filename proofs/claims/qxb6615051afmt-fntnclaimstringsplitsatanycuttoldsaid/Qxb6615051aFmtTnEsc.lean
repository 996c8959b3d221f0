import Derived.Test.Qxb6615051aFmtTnSpc
namespace Go.Proofs.Qxb6615051aFmt.Tn
open Go.ChangeShapes Go.WideShapes Go.ChangeAt Go.RowKit

def must (c : Int) : Bool := decide (c < 32 ∨ c = 127 ∨ c = 59 ∨ c = 92)

theorem ret_bool {a b : Bool} (h : a = b) : Ending.returned (.bool a) = Ending.returned (.bool b) := by rw [h]
theorem must_any (c : Int) (w : World) : Calls Tryf.prog 69 #[.int .u8 c] w fun e w' => e = .returned (.bool (must c)) ∧ w' = w := by
  go_enter Tryf.func69, Tryf.ntmps69
  go_wp2_with fail
  all_goals
    go_ret
    exact ⟨ret_bool (by rw [Bool.eq_iff_iff]; simp [must] <;> omega), rfl⟩

def digs : ByteArray := ⟨#[48, 49, 50, 51, 52, 53, 54, 55, 56, 57, 97, 98, 99, 100, 101, 102]⟩
/-- What one byte of a code is written as. -/
def escB (b : UInt8) : List UInt8 := if must b.toNat then [92, 120, digs.data[b.toNat / 16]!, digs.data[b.toNat % 16]!] else [b]
def escT (l : List UInt8) : List UInt8 := l.flatMap escB
theorem escB_len (b : UInt8) : (escB b).length ≤ 4 := by unfold escB; split <;> simp
theorem escT_len : ∀ l : List UInt8, (escT l).length ≤ 4 * l.length
  | [] => by simp [escT]
  | b :: r => by
    have h1 := escT_len r
    have h2 := escB_len b
    have e : escT (b :: r) = escB b ++ escT r := rfl
    rw [e, List.length_append, List.length_cons]
    omega
theorem take_step (s : ByteArray) (q : Nat) (h : q < s.size) : escT (s.data.toList.take (q + 1)) = escT (s.data.toList.take q) ++ escB s[q] := by
  have hl : q < s.data.toList.length := by rw [Array.length_toList]; exact h
  rw [List.take_succ_eq_append_getElem hl]
  simp [escT]
  rfl
theorem cells_step (l r : List UInt8) : Lib.byteCells (l ++ r) = Lib.byteCells l ++ Lib.byteCells r := by simp [Lib.byteCells]
theorem cells_len (s : ByteArray) (q : Nat) (hq : q ≤ s.size) : (Lib.byteCells (escT (s.data.toList.take q))).length ≤ 4 * s.size := by
  have h := escT_len (s.data.toList.take q)
  rw [Lib.byteCells_length]
  have h2 : (s.data.toList.take q).length ≤ q := by rw [List.length_take]; omega
  omega

theorem and_low_all : ∀ k : Fin 256, bits .and .u8 (k.val : Int) 15 = ((k.val % 16 : Nat) : Int) := by decide +kernel
theorem and_low (c : Nat) (h : c ≤ 255) : bits .and .u8 (c : Int) 15 = ((c % 16 : Nat) : Int) := and_low_all ⟨c, by omega⟩

theorem dig_at (k : Nat) (h : k < digs.size) : digs.data[k]! = digs[k] := getElem!_pos digs.data k h
theorem must_cells (s : ByteArray) (q c : Nat) (hm : must c = true)
    (hstep : escT (s.data.toList.take (q + 1)) = escT (s.data.toList.take q) ++ if must c = true then [92, 120, digs.data[c / 16]!, digs.data[c % 16]!] else [s[q]!]) (h1 : c / 16 < digs.size) (h2 : c % 16 < digs.size) :
    Lib.byteCells (escT (s.data.toList.take q)) ++ Lib.strCells ⟨#[92, 120]⟩ ++ [Value.int .u8 digs[c / 16].toNat] ++ [Value.int .u8 digs[c % 16].toNat] = Lib.byteCells (escT (s.data.toList.take (q + 1))) := by
  rw [hstep, if_pos hm, cells_step, dig_at _ h1, dig_at _ h2]
  simp [Lib.byteCells, Lib.strCells]

set_option maxHeartbeats 1000000 in
theorem esc_any (s : ByteArray) (w : World) (hs : s.size ≤ 1048576) :
    Calls Tryf.prog 51 #[.string s] w fun e w' => e = .returned (.string ⟨(escT s.data.toList).toArray⟩) ∧ Below w.heap.size w w' := by
  go_enter Tryf.func51, Tryf.ntmps51
  go_wp2_with fail
  refine (Tryf.Builder_Grow_fresh w.heap.size w.heap.size s.size _ (Nat.le_refl _) (heap_alloc_new _ _) (by simp) (by omega)).mono ?_
  rintro e w1 ⟨rfl, hB1, hb1⟩
  replace hb1 := hide (((Below.refl w.heap.size w).alloc (Nat.le_refl _) _).trans hb1)
  replace hB1 := hide hB1
  go_wp2_with fail
  go_loopw [4] (fun i wr => ∃ q : Nat, q ≤ s.size ∧ i = .int .i64 q ∧ Hid (Below w.heap.size w wr) ∧ Hid (Lib.IsBuilder 84 5 w.heap.size w.heap.size (Lib.byteCells (escT (s.data.toList.take q))) wr)) (fun i _ => s.size - (intOf i).toNat)
  case atStart => exact ⟨0, Nat.zero_le _, rfl, hb1, Or.inr hB1.out⟩
  case round =>
    obtain ⟨q, hq, rfl, hb, hI⟩ := hrel
    by_cases hlt : q < s.size
    · have hc : (s[q].toNat : Int) ≤ 255 := by have := s[q].toNat_lt; omega
      have hlen := hide (cells_len s q hq)
      have hstep := take_step s q hlt
      have hesc : escB s[q] = escB s[q] := rfl
      conv at hesc => rhs; unfold escB
      rw [hesc] at hstep
      clear hesc
      generalize hx : s[q].toNat = c at *
      have hx' := hide hx
      cases hm : must c
      · have hst : Lib.byteCells (escT (s.data.toList.take (q + 1))) = Lib.byteCells (escT (s.data.toList.take q)) ++ [.int .u8 c] := by
          rw [hstep, hm, cells_step, ← hx]
          rfl
        replace hst := hide hst
        clear hstep
        go_wp2_with (go_at_call 69; refine (must_any _ _).mono ?_; rintro e w' ⟨rfl, rfl⟩)
        refine (Tryf.Builder_WriteByte w.heap.size w.heap.size _ c w' hI.out (by have := hlen.out; omega) hb.out.size).mono ?_
        rintro e w3 ⟨rfl, hB3, hb3⟩
        rw [← hst.out] at hB3
        replace hB3 := hide hB3
        replace hb3 := hide (hb.out.trans hb3)
        go_wp2_with fail
        go_roundw
        case rel => exact ⟨q + 1, by omega, by go_num, hb3, Or.inr hB3.out⟩
        case measure => simp [intOf]; omega
      · go_wp2_with (go_at_call 69; refine (must_any _ _).mono ?_; rintro e w' ⟨rfl, rfl⟩)
        refine (Tryf.Builder_WriteString w.heap.size w.heap.size _ ⟨#[92, 120]⟩ w' hI.out (by have := hlen.out; show _ + 2 ≤ _; omega) hb.out.size).mono ?_
        rintro e w3 ⟨rfl, hB3, hb3⟩
        replace hB3 := hide hB3
        replace hb3 := hide (hb.out.trans hb3)
        have hand := and_low c (by omega)
        go_wp2_with fail
        refine (Tryf.Builder_WriteByte w.heap.size w.heap.size _ _ w3 (Or.inr hB3.out) (by have := hlen.out; rw [List.length_append]; show _ + 2 + 1 ≤ _; omega) hb3.out.size).mono ?_
        rintro e w4 ⟨rfl, hB4, hb4⟩
        replace hB4 := hide hB4
        replace hb4 := hide (hb3.out.trans hb4)
        go_wp2_with fail
        refine (Tryf.Builder_WriteByte w.heap.size w.heap.size _ _ w4 (Or.inr hB4.out) (by have := hlen.out; rw [List.length_append, List.length_append]; show _ + 2 + 1 + 1 ≤ _; omega) hb4.out.size).mono ?_
        rintro e w5 ⟨rfl, hB5, hb5⟩
        replace hB5 : Lib.BuilderAt 84 5 w.heap.size w.heap.size (.pointer (some ⟨w.heap.size, 0, none⟩)) (Lib.byteCells (escT (s.data.toList.take (q + 1)))) w5 := by
          rw [← must_cells s q c hm (by rw [hstep, if_pos hm, if_pos hm]) (by show c / 16 < 16; omega) (by show c % 16 < 16; omega)]
          exact hB5
        replace hB5 := hide hB5
        replace hb5 := hide (hb4.out.trans hb5)
        go_wp2_with fail
        go_roundw
        case rel => exact ⟨q + 1, by omega, by go_num, hb5, Or.inr hB5.out⟩
        case measure => simp [intOf]; omega
    · obtain rfl : q = s.size := by omega
      have ht : s.data.toList.take s.size = s.data.toList := List.take_of_length_le (by rw [Array.length_toList]; exact Nat.le_refl _)
      rw [ht] at hI
      go_wp2_with fail
      refine (Tryf.Builder_String_any w.heap.size w.heap.size _ _ hI.out hb.out.size).mono ?_
      rintro e w3 ⟨rfl, hb3⟩
      go_wp2_with fail
      go_ret
      exact ⟨rfl, hb.out.trans hb3⟩
end Go.Proofs.Qxb6615051aFmt.Tn
