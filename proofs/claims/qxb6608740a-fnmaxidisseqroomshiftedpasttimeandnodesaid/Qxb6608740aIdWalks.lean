import Derived.Test.Qxb6608740aRows
import Derived.WalkKit
import Derived.ProofKit
import Derived.OpenShut
import Derived.ShutString
import Derived.Outline
import Derived.WalkSpells
import Derived.WalkSmall
namespace Go.Proofs.Qxb6608740a.Id
open Go.ChangeShapes Go.WideShapes Go.ChangeAt Go.RowKit

theorem hide {p : Prop} (h : p) : Hid p := h

/-- '1<<n - 1' on int64, 'n' capped at the word. -/
def mid (n : Nat) : Int := wrap64 (wrap64 (2 ^ min n 64) - 1)

theorem shl_any (x y : Int) (h : 0 ≤ y) :
    Op.shift .shl .i64 x .u64 y = pure (.int .i64 (IntKind.i64.wrap (x * 2 ^ min y.toNat 64))) := by
  have hn : ¬ y < 0 := by omega
  simp only [Op.shift, if_neg hn]
  rfl

/-- the block of a boxed layout -/
def cellsOf (a0 a1 a2 a3 a4 : Int) : Obj := .cells #[.int .i64 a0, .int .i64 a1, .int .u64 a2, .int .u64 a3, .int .u64 a4] 24

theorem grown_lay {W w' : World} {a0 a1 a2 a3 a4 : Int} (h : Grown W w') : Grown W (w'.alloc (cellsOf a0 a1 a2 a3 a4)) := h.alloc _ _
theorem grown_alloc {W w' : World} {c : Array Value} {t : TypeId} (h : Grown W w') : Grown W (w'.alloc (.cells c t)) := h.alloc _ _
theorem grown_drew {W w' : World} (h : Grown W w') : Grown W w'.drew := h

theorem bits_any (a0 a1 a2 a3 a4 : Int) (l2 : 0 ≤ a2) (h2 : a2 ≤ 70000) (l3 : 0 ≤ a3) (h3 : a3 ≤ 70000) (l4 : 0 ≤ a4) (h4 : a4 ≤ 70000) (w : World) :
    Calls Try.prog 9 #[.agg #[.int .i64 a0, .int .i64 a1, .int .u64 a2, .int .u64 a3, .int .u64 a4]] w fun e w' => e = .returned (.int .u64 (a2 + a3 + a4)) ∧ w' = (w.alloc (cellsOf a0 a1 a2 a3 a4)) := by
  go_enter Try.func9, Try.ntmps9
  go_wp2_with fail
  go_ret
  exact ⟨rfl, rfl⟩

theorem maxSeq_any (a0 a1 a2 a3 a4 : Int) (l4 : 0 ≤ a4) (w : World) :
    Calls Try.prog 8 #[.agg #[.int .i64 a0, .int .i64 a1, .int .u64 a2, .int .u64 a3, .int .u64 a4]] w fun e w' => e = .returned (.int .i64 (mid a4.toNat)) ∧ w' = (w.alloc (cellsOf a0 a1 a2 a3 a4)) := by
  have hs := shl_any 1 a4 l4
  go_enter Try.func8, Try.ntmps8
  go_wp2_with fail
  go_ret
  exact ⟨rfl, rfl⟩

theorem maxID_any (a0 a1 a2 a3 a4 : Int) (l2 : 0 ≤ a2) (h2 : a2 ≤ 70000) (l3 : 0 ≤ a3) (h3 : a3 ≤ 70000) (l4 : 0 ≤ a4) (h4 : a4 ≤ 70000) (w : World) :
    Calls Try.prog 7 #[.agg #[.int .i64 a0, .int .i64 a1, .int .u64 a2, .int .u64 a3, .int .u64 a4]] w fun e w' => e = .returned (.int .i64 (mid (a2 + a3 + a4).toNat)) ∧ w' = ((w.alloc (cellsOf a0 a1 a2 a3 a4)).alloc (cellsOf a0 a1 a2 a3 a4)) := by
  have hs := shl_any 1 (a2 + a3 + a4) (by omega)
  go_enter Try.func7, Try.ntmps7
  go_wp2_with fail
  refine (bits_any a0 a1 a2 a3 a4 l2 h2 l3 h3 l4 h4 _).mono ?_
  rintro e w' ⟨rfl, rfl⟩
  go_wp2_with fail
  go_ret
  exact ⟨rfl, rfl⟩

theorem zzMaxID_any (a0 a1 a2 a3 a4 : Int) (l2 : 0 ≤ a2) (h2 : a2 ≤ 70000) (l3 : 0 ≤ a3) (h3 : a3 ≤ 70000) (l4 : 0 ≤ a4) (h4 : a4 ≤ 70000) (w : World) :
    Calls Try.prog 5 #[.agg #[.int .i64 a0, .int .i64 a1, .int .u64 a2, .int .u64 a3, .int .u64 a4]] w fun e w' => e = .returned (.int .i64 (mid (a2 + a3 + a4).toNat)) ∧ w' = (((w.alloc (cellsOf a0 a1 a2 a3 a4)).alloc (cellsOf a0 a1 a2 a3 a4)).alloc (cellsOf a0 a1 a2 a3 a4)) := by
  go_enter Try.func5, Try.ntmps5
  go_wp2_with fail
  refine (maxID_any a0 a1 a2 a3 a4 l2 h2 l3 h3 l4 h4 _).mono ?_
  rintro e w' ⟨rfl, rfl⟩
  go_wp2_with fail
  go_ret
  exact ⟨rfl, rfl⟩

theorem zzMaxSeq_any (a0 a1 a2 a3 a4 : Int) (l4 : 0 ≤ a4) (w : World) :
    Calls Try.prog 6 #[.agg #[.int .i64 a0, .int .i64 a1, .int .u64 a2, .int .u64 a3, .int .u64 a4]] w fun e w' => e = .returned (.int .i64 (mid a4.toNat)) ∧ w' = ((w.alloc (cellsOf a0 a1 a2 a3 a4)).alloc (cellsOf a0 a1 a2 a3 a4)) := by
  go_enter Try.func6, Try.ntmps6
  go_wp2_with fail
  refine (maxSeq_any a0 a1 a2 a3 a4 l4 _).mono ?_
  rintro e w' ⟨rfl, rfl⟩
  go_wp2_with fail
  go_ret
  exact ⟨rfl, rfl⟩

/-! ### The plain law -/
theorem double_small : ∀ n : Fin 65, mid (n.val + 1) = wrap64 (wrap64 (2 * mid n.val) + 1) := by decide +kernel
theorem mid_cap (n : Nat) (h : 64 ≤ n) : mid n = -1 := by
  unfold mid
  rw [Nat.min_eq_right h]
  decide +kernel
theorem double (n : Nat) : mid (n + 1) = wrap64 (wrap64 (2 * mid n) + 1) := by
  by_cases h : n < 65
  · exact double_small ⟨n, h⟩
  · rw [mid_cap n (by omega), mid_cap (n + 1) (by omega)]
    decide +kernel
theorem nonneg_small : ∀ n : Fin 64, 0 ≤ mid n.val := by decide +kernel
theorem nonneg (n : Nat) (h : n ≤ 63) : 0 ≤ mid n := nonneg_small ⟨n, by omega⟩
theorem mono_small : ∀ n m : Fin 64, n ≤ m → mid n.val ≤ mid m.val := by decide +kernel
theorem mono (n m : Nat) (h : n ≤ m) (hm : m ≤ 63) : mid n ≤ mid m := mono_small ⟨n, by omega⟩ ⟨m, by omega⟩ h
theorem room_small : ∀ n m : Fin 65, wrap64 (mid (n.val + m.val) + 1) = wrap64 (wrap64 (mid m.val + 1) * 2 ^ n.val) := by decide +kernel
theorem mid_min (n : Nat) : mid (min n 64) = mid n := by unfold mid; rw [Nat.min_assoc, Nat.min_self]
theorem room (n m : Nat) : wrap64 (mid (n + m) + 1) = wrap64 (wrap64 (mid m + 1) * 2 ^ min n 64) := by
  have h := room_small ⟨min n 64, by omega⟩ ⟨min m 64, by omega⟩
  simp only [mid_min] at h
  rw [← h]
  congr 2
  unfold mid
  congr 4
  omega


set_option maxHeartbeats 1000000 in
theorem main_ok (a0 a1 a2 a3 a4 : Int) (l2 : 0 ≤ a2) (h2 : a2 ≤ 65536) (l3 : 0 ≤ a3) (h3 : a3 ≤ 65536) (l4 : 0 ≤ a4) (h4 : a4 ≤ 65536) (w : World) :
    Calls Try.prog 3 #[.int .i64 a0, .int .i64 a1, .int .u64 a2, .int .u64 a3, .int .u64 a4] w fun e w' => e = .returned (.bool true) ∧ Grown w w' := by
  have e0 := double (a2 + a3 + a4).toNat
  have e1 : mid (a2 + 1 + a3 + a4).toNat = wrap64 (wrap64 (2 * mid (a2 + a3 + a4).toNat) + 1) := by
    rw [← e0]; congr 1; omega
  have e2 : mid (a2 + (a3 + 1) + a4).toNat = wrap64 (wrap64 (2 * mid (a2 + a3 + a4).toNat) + 1) := by
    rw [← e0]; congr 1; omega
  have e3 : mid (a2 + a3 + (a4 + 1)).toNat = wrap64 (wrap64 (2 * mid (a2 + a3 + a4).toNat) + 1) := by
    rw [← e0]; congr 1; omega
  have hn : (decide ((63:Int) < a2 + a3 + a4) || decide ((0:Int) ≤ mid (a2 + a3 + a4).toNat)) = true := by
    by_cases h : (63:Int) < a2 + a3 + a4
    · simp [h]
    · simp [nonneg (a2 + a3 + a4).toNat (by omega)]
  clear e0
  replace e1 := hide e1
  replace e2 := hide e2
  replace e3 := hide e3
  replace hn := hide hn
  go_enter Try.func3, Try.ntmps3
  go_wp2_with fail
  refine (zzMaxID_any a0 a1 a2 a3 a4 l2 (by omega) l3 (by omega) l4 (by omega) _).mono ?_
  rintro e w' ⟨rfl, rfl⟩
  generalize mid (a2 + a3 + a4).toNat = r at *
  go_wp2_with fail
  refine (zzMaxID_any a0 a1 (a2 + 1) a3 a4 (by omega) (by omega) l3 (by omega) l4 (by omega) _).mono ?_
  rintro e w' ⟨rfl, rfl⟩
  rw [e1.out]
  go_wp2_with fail
  refine (zzMaxID_any a0 a1 a2 (a3 + 1) a4 (by omega) (by omega) (by omega) (by omega) l4 (by omega) _).mono ?_
  rintro e w' ⟨rfl, rfl⟩
  rw [e2.out]
  go_wp2_with fail
  refine (zzMaxID_any a0 a1 a2 a3 (a4 + 1) (by omega) (by omega) (by omega) (by omega) (by omega) (by omega) _).mono ?_
  rintro e w' ⟨rfl, rfl⟩
  rw [e3.out]
  have hp : (63 < a2 + a3 + a4) ∨ (¬ 63 < a2 + a3 + a4 ∧ 0 ≤ r) := by
    have h := hn.out
    simp only [Bool.or_eq_true, decide_eq_true_eq] at h
    omega
  rcases hp with hp | ⟨hp, hq⟩
  · go_wp2_with fail
    go_ret
    exact ⟨rfl, by repeat (with_reducible first | exact Grown.refl _ | apply grown_lay | apply grown_alloc | apply grown_drew)⟩
  · go_wp2_with fail
    go_ret
    exact ⟨rfl, by repeat (with_reducible first | exact Grown.refl _ | apply grown_lay | apply grown_alloc | apply grown_drew)⟩

theorem wf_u64 {a : Int} (h : (Lit.int .u64 a).wf = true) : 0 ≤ a ∧ a ≤ 18446744073709551615 := by
  have h1 : IntKind.u64.min = 0 := rfl
  have h2 : IntKind.u64.max = 18446744073709551615 := rfl
  simp only [Lit.wf, Bool.and_eq_true, decide_eq_true_eq] at h
  omega

theorem main_any (a0 a1 a2 a3 a4 : Int) (l2 : 0 ≤ a2) (l3 : 0 ≤ a3) (l4 : 0 ≤ a4) (w : World) :
    Calls Try.prog 3 #[.int .i64 a0, .int .i64 a1, .int .u64 a2, .int .u64 a3, .int .u64 a4] w fun e w' => e = .returned (.bool true) ∧ Grown w w' := by
  by_cases h2 : 65536 < a2
  · go_enter Try.func3, Try.ntmps3
    go_wp2_with fail
    go_ret
    exact ⟨rfl, Grown.refl _⟩
  by_cases h3 : 65536 < a3
  · go_enter Try.func3, Try.ntmps3
    go_wp2_with fail
    go_ret
    exact ⟨rfl, Grown.refl _⟩
  by_cases h4 : 65536 < a4
  · go_enter Try.func3, Try.ntmps3
    go_wp2_with fail
    go_ret
    exact ⟨rfl, Grown.refl _⟩
  exact main_ok a0 a1 a2 a3 a4 l2 (by omega) l3 (by omega) l4 (by omega) w

set_option maxHeartbeats 1000000 in
theorem room_ok (a0 a1 a2 a3 a4 : Int) (l2 : 0 ≤ a2) (h2 : a2 ≤ 65536) (l3 : 0 ≤ a3) (h3 : a3 ≤ 65536) (l4 : 0 ≤ a4) (h4 : a4 ≤ 65536) (w : World) :
    Calls Try.prog 4 #[.int .i64 a0, .int .i64 a1, .int .u64 a2, .int .u64 a3, .int .u64 a4] w fun e w' => e = .returned (.bool true) ∧ Grown w w' := by
  have e0 : wrap64 (mid (a2 + a3 + a4).toNat + 1) = wrap64 (wrap64 (mid a4.toNat + 1) * 2 ^ min (a2 + a3).toNat 64) := by
    rw [← room]; congr 3; omega
  have hn : (63 < a2 + a3 + a4) ∨ (¬ 63 < a2 + a3 + a4 ∧ mid a4.toNat ≤ mid (a2 + a3 + a4).toNat ∧ 0 ≤ mid a4.toNat) := by
    by_cases h : (63:Int) < a2 + a3 + a4
    · exact .inl h
    · exact .inr ⟨h, mono _ _ (by omega) (by omega), nonneg _ (by omega)⟩
  have hs := shl_any (wrap64 (mid a4.toNat + 1)) (a2 + a3) (by omega)
  replace e0 := hide e0
  replace hn := hide hn
  replace hs := hide hs
  go_enter Try.func4, Try.ntmps4
  go_wp2_with fail
  refine (zzMaxID_any a0 a1 a2 a3 a4 l2 (by omega) l3 (by omega) l4 (by omega) _).mono ?_
  rintro e w' ⟨rfl, rfl⟩
  generalize mid (a2 + a3 + a4).toNat = r at *
  go_wp2_with fail
  refine (zzMaxSeq_any a0 a1 a2 a3 a4 (by omega) _).mono ?_
  rintro e w' ⟨rfl, rfl⟩
  generalize mid a4.toNat = q at *
  have hs' := hs.out
  have e0' := e0.out
  rcases hn.out with hp | ⟨hp, hq, hr⟩
  · go_wp2_with fail
    go_ret
    exact ⟨rfl, by repeat (with_reducible first | exact Grown.refl _ | apply grown_lay | apply grown_alloc | apply grown_drew)⟩
  · rw [show min (a2 + a3).toNat 64 = (a2 + a3).toNat from by omega] at e0'
    go_wp2_with fail
    go_ret
    exact ⟨rfl, by repeat (with_reducible first | exact Grown.refl _ | apply grown_lay | apply grown_alloc | apply grown_drew)⟩

theorem room_any (a0 a1 a2 a3 a4 : Int) (l2 : 0 ≤ a2) (l3 : 0 ≤ a3) (l4 : 0 ≤ a4) (w : World) :
    Calls Try.prog 4 #[.int .i64 a0, .int .i64 a1, .int .u64 a2, .int .u64 a3, .int .u64 a4] w fun e w' => e = .returned (.bool true) ∧ Grown w w' := by
  by_cases h2 : 65536 < a2
  · go_enter Try.func4, Try.ntmps4
    go_wp2_with fail
    go_ret
    exact ⟨rfl, Grown.refl _⟩
  by_cases h3 : 65536 < a3
  · go_enter Try.func4, Try.ntmps4
    go_wp2_with fail
    go_ret
    exact ⟨rfl, Grown.refl _⟩
  by_cases h4 : 65536 < a4
  · go_enter Try.func4, Try.ntmps4
    go_wp2_with fail
    go_ret
    exact ⟨rfl, Grown.refl _⟩
  exact room_ok a0 a1 a2 a3 a4 l2 (by omega) l3 (by omega) l4 (by omega) w

end Go.Proofs.Qxb6608740a.Id
