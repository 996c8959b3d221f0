import Derived.Test.Qxb6615051aRows
import Derived.WalkKit
import Derived.ProofKit
import Derived.OpenShut
import Derived.ShutString
import Derived.Outline
namespace Go.Proofs.Qxb6615051a.Hex
open Go.ChangeShapes Go.WideShapes Go.ChangeAt Go.RowKit

theorem hide {p : Prop} (h : p) : Hid p := h
def dig (c : Int) : Bool := decide (48 ≤ c ∧ c ≤ 57)
def ltr (c : Int) : Bool := decide ((97 ≤ c ∧ c ≤ 122) ∨ (65 ≤ c ∧ c ≤ 90))
def hex (c : Int) : Bool := decide ((48 ≤ c ∧ c ≤ 57) ∨ (97 ≤ c ∧ c ≤ 102) ∨ (65 ≤ c ∧ c ≤ 70))
theorem ret_bool {a b : Bool} (h : a = b) : Ending.returned (.bool a) = .returned (.bool b) := by rw [h]

theorem digit_any (c : Int) (w : World) : Calls Try.prog 13 #[.int .u8 c] w fun e w' => e = .returned (.bool (dig c)) ∧ w = w' := by
  have HD := hide (show dig c = decide (48 ≤ c ∧ c ≤ 57) from rfl)
  by_cases h1 : 48 ≤ c
  · by_cases h2 : c ≤ 57
    · go_enter Try.func13, Try.ntmps13
      go_wp2_with fail
      go_ret
      exact ⟨ret_bool (by rw [HD.out, Bool.eq_iff_iff]; simp <;> omega), rfl⟩
    · go_enter Try.func13, Try.ntmps13
      go_wp2_with fail
      go_ret
      exact ⟨ret_bool (by rw [HD.out, Bool.eq_iff_iff]; simp <;> omega), rfl⟩
  · go_enter Try.func13, Try.ntmps13
    go_wp2_with fail
    go_ret
    refine ⟨ret_bool ?_, rfl⟩
    rw [HD.out, Bool.eq_iff_iff]
    simp <;> omega

theorem letter_any (c : Int) (w : World) : Calls Try.prog 14 #[.int .u8 c] w fun e w' => e = .returned (.bool (ltr c)) ∧ w = w' := by
  have HD := hide (show ltr c = decide ((97 ≤ c ∧ c ≤ 122) ∨ (65 ≤ c ∧ c ≤ 90)) from rfl)
  rcases (show c < 65 ∨ (65 ≤ c ∧ c ≤ 90) ∨ (90 < c ∧ c < 97) ∨ (97 ≤ c ∧ c ≤ 122) ∨ 122 < c from by omega) with h | ⟨h, h'⟩ | ⟨h, h'⟩ | ⟨h, h'⟩ | h
  all_goals
    go_enter Try.func14, Try.ntmps14
    go_wp2_with fail
    go_ret
    refine ⟨ret_bool ?_, rfl⟩
    rw [HD.out, Bool.eq_iff_iff]
    simp <;> omega

theorem zzletter_any (c : Int) (w : World) : Calls Try.prog 6 #[.int .u8 c] w fun e w' => e = .returned (.bool (ltr c)) ∧ w = w' := by
  have HD := hide (show ltr c = decide ((97 ≤ c ∧ c ≤ 122) ∨ (65 ≤ c ∧ c ≤ 90)) from rfl)
  rcases (show c < 65 ∨ (65 ≤ c ∧ c ≤ 90) ∨ (90 < c ∧ c < 97) ∨ (97 ≤ c ∧ c ≤ 122) ∨ 122 < c from by omega) with h | ⟨h, h'⟩ | ⟨h, h'⟩ | ⟨h, h'⟩ | h
  all_goals
    go_enter Try.func6, Try.ntmps6
    go_wp2_with fail
    go_ret
    refine ⟨ret_bool ?_, rfl⟩
    rw [HD.out, Bool.eq_iff_iff]
    simp <;> omega

theorem hex_any (c : Int) (w : World) : Calls Try.prog 12 #[.int .u8 c] w fun e w' => e = .returned (.bool (hex c)) ∧ w = w' := by
  have HD := hide (show hex c = decide ((48 ≤ c ∧ c ≤ 57) ∨ (97 ≤ c ∧ c ≤ 102) ∨ (65 ≤ c ∧ c ≤ 70)) from rfl)
  rcases (show c < 48 ∨ (48 ≤ c ∧ c ≤ 57) ∨ (57 < c ∧ c < 65) ∨ (65 ≤ c ∧ c ≤ 70) ∨ (70 < c ∧ c < 97) ∨ (97 ≤ c ∧ c ≤ 102) ∨ 102 < c from by omega) with h | ⟨h, h'⟩ | ⟨h, h'⟩ | ⟨h, h'⟩ | ⟨h, h'⟩ | ⟨h, h'⟩ | h
  all_goals
    first
    | have hd : dig c = true := (by simp [dig]; omega)
      go_enter Try.func12, Try.ntmps12
      go_wp2_with (go_at_call 13; refine (digit_any c _).mono ?_; rintro e w' ⟨rfl, rfl⟩)
      go_ret
      exact ⟨ret_bool (by rw [HD.out, Bool.eq_iff_iff]; simp <;> omega), rfl⟩
    | have hd : dig c = false := (by simp [dig]; omega)
      go_enter Try.func12, Try.ntmps12
      go_wp2_with (go_at_call 13; refine (digit_any c _).mono ?_; rintro e w' ⟨rfl, rfl⟩)
      go_ret
      exact ⟨ret_bool (by rw [HD.out, Bool.eq_iff_iff]; simp <;> omega), rfl⟩
theorem zzhex_any (c : Int) (w : World) : Calls Try.prog 5 #[.int .u8 c] w fun e w' => e = .returned (.bool (hex c)) ∧ w = w' := by
  go_enter Try.func5, Try.ntmps5
  go_wp2_with (go_at_call 12; refine (hex_any c _).mono ?_; rintro e w' ⟨rfl, rfl⟩)
  go_ret
  exact ⟨rfl, rfl⟩
theorem zzisdigit_any (c : Int) (w : World) : Calls Try.prog 7 #[.int .u8 c] w fun e w' => e = .returned (.bool (dig c)) ∧ w = w' := by
  go_enter Try.func7, Try.ntmps7
  go_wp2_with (go_at_call 13; refine (digit_any c _).mono ?_; rintro e w' ⟨rfl, rfl⟩)
  go_ret
  exact ⟨rfl, rfl⟩
theorem zzisletter_any (c : Int) (w : World) : Calls Try.prog 8 #[.int .u8 c] w fun e w' => e = .returned (.bool (ltr c)) ∧ w = w' := by
  go_enter Try.func8, Try.ntmps8
  go_wp2_with (go_at_call 14; refine (letter_any c _).mono ?_; rintro e w' ⟨rfl, rfl⟩)
  go_ret
  exact ⟨rfl, rfl⟩

/-- How many of the bytes below n are hex digits. -/
def cnt : Nat → Nat
  | 0 => 0
  | n + 1 => cnt n + (if hex n then 1 else 0)
theorem cnt_le : ∀ n, cnt n ≤ n
  | 0 => Nat.le_refl _
  | n + 1 => by
    have := cnt_le n
    unfold cnt
    split <;> omega
theorem cnt_all : cnt 256 = 22 := by decide +kernel

theorem hex_xor_all : ∀ k : Fin 256, ltr k.val = true → hex (bits .xor .u8 (k.val : Int) 32) = hex (k.val : Int) := by decide +kernel
theorem hex_xor (c : Int) (h0 : 0 ≤ c) (h1 : c ≤ 255) (h : ltr c = true) : hex (bits .xor .u8 c 32) = hex c := by
  obtain ⟨k, rfl⟩ := Int.eq_ofNat_of_zero_le h0
  exact hex_xor_all ⟨k, by omega⟩ h
theorem dig_hex (c : Int) (h : dig c = true) : hex c = true := by
  simp only [dig, hex, decide_eq_true_eq] at *
  omega
theorem hex_dig (c : Int) (h : hex c = true) (hl : ltr c = false) : dig c = true := by
  simp only [dig, hex, ltr, decide_eq_true_eq, decide_eq_false_iff_not] at *
  omega

set_option maxHeartbeats 1000000 in
set_option maxRecDepth 100000 in
theorem main_any (c : Int) (h0 : 0 ≤ c) (h1 : c ≤ 255) (w : World) : Calls Try.prog 3 #[.int .u8 c] w fun e w' => e = .returned (.bool true) ∧ w = w' := by
  go_enter Try.func3, Try.ntmps3
  go_wp2_with fail
  go_loop [3, 4] (fun n i => ∃ q : Nat, q ≤ 256 ∧ i = .int .i64 q ∧ n = .int .i64 (cnt q)) (fun _ i => 256 - (intOf i).toNat)
  case atStart => exact ⟨0, Nat.zero_le _, rfl, rfl⟩
  case round =>
    obtain ⟨q, hq, rfl, rfl⟩ := hrel
    have hle := cnt_le q
    by_cases hlt : q < 256
    · cases hx : hex q
      · have HC : Hid (cnt (q + 1) = cnt q) := by show _ = _; rw [cnt, hx]; rfl
        go_wp2_with (go_at_call 5; refine (zzhex_any q _).mono ?_; rintro e w' ⟨rfl, rfl⟩)
        go_round
        case rel => exact ⟨q + 1, by omega, by go_num, by rw [HC.out]⟩
        case measure => simp [intOf]; omega
      · have HC : Hid (cnt (q + 1) = cnt q + 1) := by show _ = _; rw [cnt, hx]; rfl
        go_wp2_with (go_at_call 5; refine (zzhex_any q _).mono ?_; rintro e w' ⟨rfl, rfl⟩)
        go_round
        case rel => exact ⟨q + 1, by omega, by go_num, by rw [HC.out]; go_num⟩
        case measure => simp [intOf]; omega
    · obtain rfl : q = 256 := by omega
      rw [cnt_all]
      go_wp2_with fail
      refine (zzletter_any c _).mono ?_
      rintro e w' ⟨rfl, rfl⟩
      have h1' := hide (dig_hex c)
      have h2' := hide (hex_dig c)
      have h3' := hide (hex_xor c h0 h1)
      cases hl : ltr c
      · have hx : hex c = dig c := by
          cases hd : dig c
          · cases hh : hex c
            · rfl
            · have := h2'.out hh hl; rw [hd] at this; cases this
          · exact h1'.out hd
        clear h1' h2' h3'
        have HX := hide hx
        clear hx
        cases hd : dig c
        · have hh : hex c = false := by rw [HX.out]; exact hd
          go_wp2_with (first | (go_at_call 5; refine (zzhex_any c _).mono ?_; rintro e w' ⟨rfl, rfl⟩) | (go_at_call 7; refine (zzisdigit_any c _).mono ?_; rintro e w' ⟨rfl, rfl⟩) | (go_at_call 8; refine (zzisletter_any c _).mono ?_; rintro e w' ⟨rfl, rfl⟩))
          go_ret
          exact ⟨rfl, rfl⟩
        · have hh : hex c = true := by rw [HX.out]; exact hd
          go_wp2_with (first | (go_at_call 5; refine (zzhex_any c _).mono ?_; rintro e w' ⟨rfl, rfl⟩) | (go_at_call 7; refine (zzisdigit_any c _).mono ?_; rintro e w' ⟨rfl, rfl⟩) | (go_at_call 8; refine (zzisletter_any c _).mono ?_; rintro e w' ⟨rfl, rfl⟩))
          go_ret
          exact ⟨rfl, rfl⟩
      · have hx := h3'.out hl
        go_wp2_with fail
        generalize bits .xor .u8 c 32 = x at *
        clear h2' h3'
        cases hd : dig c
        · cases hh : hex c
          · rw [hh] at hx
            refine (zzhex_any c _).mono ?_
            rintro e w' ⟨rfl, rfl⟩
            go_wp2_with (first | (go_at_call 5; refine (zzhex_any x _).mono ?_; rintro e w' ⟨rfl, rfl⟩) | (go_at_call 7; refine (zzisdigit_any c _).mono ?_; rintro e w' ⟨rfl, rfl⟩) | (go_at_call 8; refine (zzisletter_any c _).mono ?_; rintro e w' ⟨rfl, rfl⟩))
            go_ret
            exact ⟨rfl, rfl⟩
          · rw [hh] at hx
            refine (zzhex_any c _).mono ?_
            rintro e w' ⟨rfl, rfl⟩
            go_wp2_with (first | (go_at_call 5; refine (zzhex_any x _).mono ?_; rintro e w' ⟨rfl, rfl⟩) | (go_at_call 7; refine (zzisdigit_any c _).mono ?_; rintro e w' ⟨rfl, rfl⟩) | (go_at_call 8; refine (zzisletter_any c _).mono ?_; rintro e w' ⟨rfl, rfl⟩))
            go_ret
            exact ⟨rfl, rfl⟩
        · have hh := h1'.out hd
          rw [hh] at hx
          clear h1'
          refine (zzhex_any c _).mono ?_
          rintro e w' ⟨rfl, rfl⟩
          go_wp2_with (first | (go_at_call 5; refine (zzhex_any x _).mono ?_; rintro e w' ⟨rfl, rfl⟩) | (go_at_call 7; refine (zzisdigit_any c _).mono ?_; rintro e w' ⟨rfl, rfl⟩) | (go_at_call 8; refine (zzisletter_any c _).mono ?_; rintro e w' ⟨rfl, rfl⟩))
          go_ret
          exact ⟨rfl, rfl⟩
end Go.Proofs.Qxb6615051a.Hex
