import Derived.Test.Qxb6614908aPopWalks
import Derived.WalkSmall
namespace Go.Proofs.Qxb6614908a.Pop
open Go.ChangeShapes Go.WideShapes Go.ChangeAt Go.RowKit

/-- What the main function's own memory holds: the box (block B) of the path, its row (block g). -/
structure Inv (w wr : World) (B g n m : Nat) (Sx : Nat → ByteArray) : Prop where
  box : wr.cell? ⟨B, 0, none⟩ = some (.slice (some ⟨g, 0, none⟩) m n)
  free : wr.frozen? ⟨B, 0, none⟩ = false
  row : ∀ j, j < n → wr.cell? ⟨g, j, none⟩ = some (.string (Sx j))
  below : Below w.heap.size w wr

theorem Inv.pop {w wr : World} {B g n m m' : Nat} {Sx : Nat → ByteArray} (h : Inv w wr B g n m Sx) (hB : w.heap.size ≤ B) (hg : g ≠ B) : Inv w (wr.setCell ⟨B, 0, none⟩ (.slice (some ⟨g, 0, none⟩) m' n)).drew B g n m' Sx := by
  obtain ⟨h1, h2, h3, h4⟩ := h
  refine ⟨?_, ?_, ?_, (h4.setCell hB _).drew⟩
  · exact World.cell?_setCell_same wr _ _ h1
  · simpa [World.frozen?_setCell] using h2
  · intro j hj
    have hne : (⟨B, 0, none⟩ : Addr) ≠ ⟨g, j, none⟩ := fun e => hg (by injection e with e1; exact e1.symm)
    exact (World.cell?_setCell_other wr _ _ _ hne).trans (h3 j hj)

theorem Inv.drew {w wr : World} {B g n m : Nat} {Sx : Nat → ByteArray} (h : Inv w wr B g n m Sx) (q : Nat) : Inv w (wr.drewN q) B g n m Sx :=
  ⟨h.box, h.free, h.row, below_drewN h.below q⟩

set_option maxHeartbeats 1000000 in
theorem main_any (b off n c : Nat) (k : Int) (Sx : Nat → ByteArray) (w : World) (hn : n * 16 ≤ 140737488351232)
    (hs : ∀ i, i < n → (Sx i).size ≤ 9223372036854775807) (hc : ∀ i, i < n → w.cell? ⟨b, off + i, none⟩ = some (.string (Sx i))) (hb : b < w.heap.size) :
    Calls Try.prog 3 #[.slice (some ⟨b, off, none⟩) n c, .int .i64 k] w fun e w' => e = .returned (.bool true) ∧ Below w.heap.size w w' := by
  by_cases hk : 0 ≤ k ∧ k ≤ n
  · obtain ⟨hk0, hk1⟩ := hk
    obtain ⟨kk, rfl⟩ := Int.eq_ofNat_of_zero_le hk0
    go_enter Try.func3, Try.ntmps3
    go_wp2_with fail
    refine (bytes_any b off n c _ Sx _ hn hs hc).mono ?_
    rintro e w' ⟨⟨r, rfl⟩, rfl⟩
    cases r
    · go_wp2
      go_ret
      exact ⟨rfl, Below.refl _ _⟩
    go_wp2_with fail
    refine (big_any b off n c Sx _ hn hs hc).mono ?_
    rintro e w' ⟨⟨r, rfl⟩, rfl⟩
    cases r
    rotate_left
    · go_wp2
      go_ret
      exact ⟨rfl, Below.refl _ _⟩
    go_wp2_with fail
    refine (clone_any ⟨b, off, none⟩ n c Sx _ hn (fun i hi => by rw [add_plain]; exact hc i hi) (fun _ => hb)).mono ?_
    rintro e w1 ⟨rfl, hrow, hbel⟩
    have hsz : w.heap.size < w1.heap.size := lt_of_block hrow
    have hcl1 : ∀ j, j < n → w1.cell? ⟨w.heap.size, j, none⟩ = some (.string (Sx j)) := fun j hj => by
      simp [World.cell?, hrow, cells, hj]
    have hI : Inv w (w1.alloc (.cells #[.slice (some ⟨w.heap.size, 0, none⟩) n n] 25)) w1.heap.size w.heap.size n n Sx :=
      ⟨by simp, by simp, fun j hj => by rw [World.cell?_alloc_lt _ _ _ hsz]; exact hcl1 j hj, hbel.alloc (by omega) _⟩
    clear hcl1 hrow hbel
    go_wp2_with fail
    go_loopw [7] (fun i wr => ∃ m : Nat, m ≤ kk ∧ i = .int .i64 m ∧ Inv w wr w1.heap.size w.heap.size n (n - m) Sx) (fun i _ => kk - (intOf i).toNat)
    case atStart => exact ⟨0, Nat.zero_le _, rfl, hI⟩
    case round =>
      clear hI
      obtain ⟨m, hm, rfl, hI⟩ := hrel
      by_cases hlt : m < kk
      · obtain ⟨q, hq⟩ : ∃ q, n - m = q + 1 := ⟨n - m - 1, by omega⟩
        rw [hq] at hI
        have HQ : Hid (n - m = q + 1) := hq
        clear hq
        have hq1 : q + 1 ≤ n := by have := HQ.out; omega
        go_wp2_with (go_at_call 8; refine (zzpop_any _ _ q n hq1 (by omega) _ hI.box hI.free).mono ?_; rintro e w2 ⟨rfl, rfl⟩)
        go_roundw
        case rel => exact ⟨m + 1, by omega, by go_num, by rw [show n - (m + 1) = q from by have := HQ.out; omega]; exact hI.pop (by omega) (by omega)⟩
        case measure => simp [intOf]; omega
      · obtain rfl : m = kk := by omega
        obtain ⟨q, hq⟩ : ∃ q, n - m = q := ⟨_, rfl⟩
        rw [hq] at hI
        have hq1 : q + m = n := by omega
        clear hq
        have hbx := hI.box
        have hne : ((q : Int) != (n : Int) - (m : Int)) = false := by simp; omega
        go_wp2_with fail
        go_loopw [8] (fun i wr => ∃ m : Nat, m ≤ q ∧ i = .int .i64 m ∧ Inv w wr w1.heap.size w.heap.size n q Sx) (fun i _ => q - (intOf i).toNat)
        case atStart => exact ⟨0, Nat.zero_le _, rfl, hI⟩
        case round =>
          clear hI hbx
          obtain ⟨j, hj, rfl, hI⟩ := hrel
          have hbx := hI.box
          by_cases hlt : j < q
          · have hr := hI.row j (by omega)
            have hp := (hI.below.cell (p := ⟨b, off + j, none⟩) hb).trans (hc j (by omega))
            have hi1 : (j : Int) < (q : Int) := by omega
            have hi2 : (j : Int) < (n : Int) := by omega
            go_wp2_with fail
            go_quiet (fail)
            go_wp2_with fail
            go_roundw
            case rel => exact ⟨j + 1, by omega, by go_num, hI.drew _⟩
            case measure => simp [intOf]; omega
          · go_wp2_with fail
            go_loopw [9] (fun i wr => ∃ m : Nat, m ≤ n ∧ i = .int .i64 m ∧ Inv w wr w1.heap.size w.heap.size n q Sx) (fun i _ => n - (intOf i).toNat)
            case atStart => exact ⟨0, Nat.zero_le _, rfl, hI⟩
            case round =>
              clear hI hbx
              obtain ⟨l, hl, rfl, hI⟩ := hrel
              by_cases hln : l < n
              · have hr := hI.row l (by omega)
                have hp := (hI.below.cell (p := ⟨b, off + l, none⟩) hb).trans (hc l (by omega))
                have hi2 : (l : Int) < (n : Int) := by omega
                go_wp2_with fail
                go_quiet (fail)
                go_wp2_with fail
                go_roundw
                case rel => exact ⟨l + 1, by omega, by go_num, hI.drew _⟩
                case measure => simp [intOf]; omega
              · have hbel := hI.below
                go_wp2_with fail
                go_ret
                exact ⟨rfl, hbel⟩
  · go_enter Try.func3, Try.ntmps3
    go_wp2_with fail
    refine (bytes_any b off n c _ Sx _ hn hs hc).mono ?_
    rintro e w' ⟨⟨r, rfl⟩, rfl⟩
    cases r
    · go_wp2
      go_ret
      exact ⟨rfl, Below.refl _ _⟩
    go_wp2_with fail
    refine (big_any b off n c Sx _ hn hs hc).mono ?_
    rintro e w' ⟨⟨r, rfl⟩, rfl⟩
    cases r
    rotate_left
    · go_wp2
      go_ret
      exact ⟨rfl, Below.refl _ _⟩
    by_cases hk0 : k < 0
    · go_wp2_with fail
      go_ret
      exact ⟨rfl, Below.refl _ _⟩
    · have hk1 : (n : Int) < k := by omega
      go_wp2_with fail
      go_ret
      exact ⟨rfl, Below.refl _ _⟩

set_option maxHeartbeats 1000000 in
/-- The empty path: k is 0, or out of range. 'ao': whatever address, or none. -/
theorem main_none (ao : Option Addr) (c : Nat) (k : Int) (w : World) (hao : ao = none → c = 0) :
    Calls Try.prog 3 #[.slice ao 0 c, .int .i64 k] w fun e w' => e = .returned (.bool true) ∧ Below w.heap.size w w' := by
  go_enter Try.func3, Try.ntmps3
  go_wp2_with fail
  refine (bytes_none ao c _ _).mono ?_
  rintro e w' ⟨⟨r, rfl⟩, rfl⟩
  cases r
  · go_wp2
    go_ret
    exact ⟨rfl, Below.refl _ _⟩
  go_wp2_with fail
  refine (big_none ao c _).mono ?_
  rintro e w' ⟨⟨r, rfl⟩, rfl⟩
  cases r
  rotate_left
  · go_wp2
    go_ret
    exact ⟨rfl, Below.refl _ _⟩
  by_cases hk0 : k < 0
  · go_wp2_with fail
    go_ret
    exact ⟨rfl, Below.refl _ _⟩
  by_cases hk1 : 0 < k
  · go_wp2_with fail
    go_ret
    exact ⟨rfl, Below.refl _ _⟩
  obtain rfl : k = 0 := by omega
  cases ao with
  | none =>
    obtain rfl := hao rfl
    go_wp2_with fail
    refine (clone_nil _).mono ?_
    rintro e w1 ⟨rfl, rfl⟩
    go_wp2_with fail
    refine wp_loop_rounds 1 ?_
    rw [rounds_succ]
    go_wp2_with fail
    refine wp_loop_rounds 1 ?_
    rw [rounds_succ]
    go_wp2_with fail
    refine wp_loop_rounds 1 ?_
    rw [rounds_succ]
    go_wp2_with fail
    go_ret
    exact ⟨rfl, (Below.refl _ _).alloc (Nat.le_refl _) _⟩
  | some ad =>
    go_wp2_with fail
    refine (clone_any ad 0 c (fun _ => ByteArray.empty) _ (by omega) (fun i hi => by omega) (fun h => by omega)).mono ?_
    rintro e w1 ⟨rfl, hrow, hbel⟩
    clear hrow
    have hb2 : Below w.heap.size w (w1.alloc (.cells #[.slice (some ⟨w.heap.size, 0, none⟩) 0 0] 25)) := hbel.alloc hbel.size _
    go_wp2_with fail
    refine wp_loop_rounds 1 ?_
    rw [rounds_succ]
    go_wp2_with fail
    refine wp_loop_rounds 1 ?_
    rw [rounds_succ]
    go_wp2_with fail
    refine wp_loop_rounds 1 ?_
    rw [rounds_succ]
    go_wp2_with fail
    go_ret
    exact ⟨rfl, hb2⟩
end Go.Proofs.Qxb6614908a.Pop
