import Derived.Test.Qxb6614908aFmtDepBuild
namespace Go.Proofs.Qxb6614908aFmt.Dep
open Go.ChangeShapes Go.WideShapes Go.ChangeAt Go.RowKit

/-! ### 'KindOf' at the values that 'build' makes (fmt is never asked) -/
def sList : ByteArray := ⟨#[97, 32, 108, 105, 115, 116]⟩
def sObj : ByteArray := ⟨#[97, 110, 32, 111, 98, 106, 101, 99, 116]⟩
/-- A text that is neither. -/
def Other (s : ByteArray) : Prop := (s.toList == sList.toList) = false ∧ (s.toList == sObj.toList) = false
theorem list_obj : (sList.toList == sObj.toList) = false := by decide +kernel
theorem obj_list : (sObj.toList == sList.toList) = false := by decide +kernel

theorem ks_nil9 (w : World) : (Instr.typeAssert .nilIface 20 9 true).run Tryf.prog w = .ok (.tuple #[.string ByteArray.empty, .bool false]) w := by kernel_rfl
theorem ks_nil4 (w : World) : (Instr.typeAssert .nilIface 20 4 true).run Tryf.prog w = .ok (.tuple #[.bool false, .bool false]) w := by kernel_rfl
theorem ks_nil58 (w : World) : (Instr.typeAssert .nilIface 20 58 true).run Tryf.prog w = .ok (.tuple #[.string ByteArray.empty, .bool false]) w := by kernel_rfl
theorem ks9_9 (v : Value) (w : World) : (Instr.typeAssert (.iface 9 v) 20 9 true).run Tryf.prog w = .ok (.tuple #[v, .bool true]) w := by kernel_rfl
theorem ks4_9 (v : Value) (w : World) : (Instr.typeAssert (.iface 4 v) 20 9 true).run Tryf.prog w = .ok (.tuple #[.string ByteArray.empty, .bool false]) w := by kernel_rfl
theorem ks4_4 (v : Value) (w : World) : (Instr.typeAssert (.iface 4 v) 20 4 true).run Tryf.prog w = .ok (.tuple #[v, .bool true]) w := by kernel_rfl
theorem ks58_9 (v : Value) (w : World) : (Instr.typeAssert (.iface 58 v) 20 9 true).run Tryf.prog w = .ok (.tuple #[.string ByteArray.empty, .bool false]) w := by kernel_rfl
theorem ks58_4 (v : Value) (w : World) : (Instr.typeAssert (.iface 58 v) 20 4 true).run Tryf.prog w = .ok (.tuple #[.bool false, .bool false]) w := by kernel_rfl
theorem ks58_58 (v : Value) (w : World) : (Instr.typeAssert (.iface 58 v) 20 58 true).run Tryf.prog w = .ok (.tuple #[v, .bool true]) w := by kernel_rfl
theorem ks36_9 (v : Value) (w : World) : (Instr.typeAssert (.iface 36 v) 20 9 true).run Tryf.prog w = .ok (.tuple #[.string ByteArray.empty, .bool false]) w := by kernel_rfl
theorem ks36_4 (v : Value) (w : World) : (Instr.typeAssert (.iface 36 v) 20 4 true).run Tryf.prog w = .ok (.tuple #[.bool false, .bool false]) w := by kernel_rfl
theorem ks36_58 (v : Value) (w : World) : (Instr.typeAssert (.iface 36 v) 20 58 true).run Tryf.prog w = .ok (.tuple #[.string ByteArray.empty, .bool false]) w := by kernel_rfl
theorem ks41_9 (v : Value) (w : World) : (Instr.typeAssert (.iface 41 v) 20 9 true).run Tryf.prog w = .ok (.tuple #[.string ByteArray.empty, .bool false]) w := by kernel_rfl
theorem ks41_4 (v : Value) (w : World) : (Instr.typeAssert (.iface 41 v) 20 4 true).run Tryf.prog w = .ok (.tuple #[.bool false, .bool false]) w := by kernel_rfl
theorem ks41_58 (v : Value) (w : World) : (Instr.typeAssert (.iface 41 v) 20 58 true).run Tryf.prog w = .ok (.tuple #[.string ByteArray.empty, .bool false]) w := by kernel_rfl
theorem ks41_36 (v : Value) (w : World) : (Instr.typeAssert (.iface 41 v) 20 36 true).run Tryf.prog w = .ok (.tuple #[.slice none 0 0, .bool false]) w := by kernel_rfl
theorem ks_eqnil (w : World) : (binOp .eql 20 .nilIface .nilIface).run Tryf.prog w = .ok (.bool true) w := by kernel_rfl

theorem kind_list (y : Value) (w : World) : Calls Tryf.prog 22 #[.iface 36 y] w fun e w' => e = .returned (.string sList) ∧ w = w' := by
  have a1 := ks36_9; have a2 := ks36_4; have a3 := ks36_58; have a4 := as47_47
  go_enter Tryf.func22, Tryf.ntmps22
  go_wp2_with fail
  go_ret
  exact ⟨rfl, rfl⟩
theorem kind_obj (y : Value) (w : World) : Calls Tryf.prog 22 #[.iface 41 y] w fun e w' => e = .returned (.string sObj) ∧ w = w' := by
  have a1 := ks41_9; have a2 := ks41_4; have a3 := ks41_58; have a4 := ks41_36; have a5 := as53_53
  go_enter Tryf.func22, Tryf.ntmps22
  go_wp2_with fail
  go_ret
  exact ⟨rfl, rfl⟩
theorem kind_scal (v : Value) (h : Scal v) (w : World) : Calls Tryf.prog 22 #[v] w fun e w' => ∃ s, e = .returned (.string s) ∧ Other s ∧ w = w' := by
  rcases h with rfl | ⟨s, rfl⟩ | ⟨b, rfl⟩ | ⟨s, rfl⟩
  · have a1 := ks_nil9; have a2 := ks_nil4; have a3 := ks_nil58; have a4 := as_nil47; have a5 := as_nil53; have a6 := ks_eqnil
    go_enter Tryf.func22, Tryf.ntmps22
    go_wp2_with fail
    go_ret
    exact ⟨_, rfl, ⟨by decide +kernel, by decide +kernel⟩, rfl⟩
  · have a1 := ks9_9
    go_enter Tryf.func22, Tryf.ntmps22
    go_wp2_with fail
    go_ret
    exact ⟨_, rfl, ⟨by decide +kernel, by decide +kernel⟩, rfl⟩
  · have a1 := ks4_9; have a2 := ks4_4
    go_enter Tryf.func22, Tryf.ntmps22
    go_wp2_with fail
    go_ret
    exact ⟨_, rfl, ⟨by decide +kernel, by decide +kernel⟩, rfl⟩
  · have a1 := ks58_9; have a2 := ks58_4; have a3 := ks58_58
    go_enter Tryf.func22, Tryf.ntmps22
    go_wp2_with fail
    go_ret
    exact ⟨_, rfl, ⟨by decide +kernel, by decide +kernel⟩, rfl⟩

/-- 'ZZKindOf'. -/
theorem zzkind_list (y : Value) (w : World) : Calls Tryf.prog 6 #[.agg #[.iface 36 y]] w fun e w' => e = .returned (.string sList) ∧ w.grownBy w' none := by
  go_enter Tryf.func6, Tryf.ntmps6
  go_wp2_with (go_at_call 22; refine (kind_list y _).mono ?_; rintro e w1 ⟨rfl, rfl⟩)
  go_ret
  exact ⟨rfl, World.grownBy_alloc _ _ _⟩
theorem zzkind_obj (y : Value) (w : World) : Calls Tryf.prog 6 #[.agg #[.iface 41 y]] w fun e w' => e = .returned (.string sObj) ∧ w.grownBy w' none := by
  go_enter Tryf.func6, Tryf.ntmps6
  go_wp2_with (go_at_call 22; refine (kind_obj y _).mono ?_; rintro e w1 ⟨rfl, rfl⟩)
  go_ret
  exact ⟨rfl, World.grownBy_alloc _ _ _⟩
theorem zzkind_scal (v : Value) (h : Scal v) (w : World) : Calls Tryf.prog 6 #[.agg #[v]] w fun e w' => ∃ s, e = .returned (.string s) ∧ Other s ∧ w.grownBy w' none := by
  have H := hide h
  clear h
  go_enter Tryf.func6, Tryf.ntmps6
  go_wp2_with fail
  refine (kind_scal v H.out _).mono ?_
  rintro e w1 ⟨s, rfl, ho, rfl⟩
  have HO := hide ho
  clear ho
  go_wp2_with fail
  go_ret
  exact ⟨s, rfl, HO.out, World.grownBy_alloc _ _ _⟩

/-- 'docClass'. -/
def ClsOk (k c : Int) : Prop := ((k = 3 ∨ k = 6) ∧ c = 3) ∨ ((k = 4 ∨ k = 7) ∧ c = 4) ∨ ((k ≠ 3 ∧ k ≠ 6 ∧ k ≠ 4 ∧ k ≠ 7) ∧ c ≠ 3 ∧ c ≠ 4)
def ClsRet (k : Int) (e : Ending) : Prop := ∃ c, e = .returned (.int .i64 c) ∧ ClsOk k c
set_option maxHeartbeats 1000000 in
theorem class_any (k : Int) (s : ByteArray) (f : Bool) (ai : Option Addr) (li ci : Nat) (af : Option Addr) (lf cf : Nat) (w : World) :
    Calls Tryf.prog 12 #[.agg #[.int .i8 k, .string s, .bool f, .slice ai li ci, .slice af lf cf]] w fun e w' => ClsRet k e ∧ w.grownBy w' none := by
  have hr : ∀ c, ClsOk k c → ClsRet k (.returned (.int .i64 c)) := fun c h => ⟨c, rfl, h⟩
  by_cases k0 : k = 0
  · subst k0
    go_enter Tryf.func12, Tryf.ntmps12
    go_wp2_with fail
    go_ret
    exact ⟨hr _ (Or.inr (Or.inr (by decide))), World.grownBy_alloc _ _ _⟩
  by_cases k1 : k = 1
  · subst k1
    go_enter Tryf.func12, Tryf.ntmps12
    go_wp2_with fail
    go_ret
    exact ⟨hr _ (Or.inr (Or.inr (by decide))), World.grownBy_alloc _ _ _⟩
  by_cases k2 : k = 2
  · subst k2
    go_enter Tryf.func12, Tryf.ntmps12
    go_wp2_with fail
    go_ret
    exact ⟨hr _ (Or.inr (Or.inr (by decide))), World.grownBy_alloc _ _ _⟩
  by_cases k3 : k = 3
  · subst k3
    go_enter Tryf.func12, Tryf.ntmps12
    go_wp2_with fail
    go_ret
    exact ⟨hr _ (Or.inl (by decide)), World.grownBy_alloc _ _ _⟩
  by_cases k6 : k = 6
  · subst k6
    go_enter Tryf.func12, Tryf.ntmps12
    go_wp2_with fail
    go_ret
    exact ⟨hr _ (Or.inl (by decide)), World.grownBy_alloc _ _ _⟩
  by_cases k4 : k = 4
  · subst k4
    go_enter Tryf.func12, Tryf.ntmps12
    go_wp2_with fail
    go_ret
    exact ⟨hr _ (Or.inr (Or.inl (by decide))), World.grownBy_alloc _ _ _⟩
  by_cases k7 : k = 7
  · subst k7
    go_enter Tryf.func12, Tryf.ntmps12
    go_wp2_with fail
    go_ret
    exact ⟨hr _ (Or.inr (Or.inl (by decide))), World.grownBy_alloc _ _ _⟩
  have HR := hide (hr 5 (Or.inr (Or.inr ⟨⟨k3, k6, k4, k7⟩, by decide⟩)))
  have b0 : (k == 0) = false := by simpa using k0
  have b1 : (k == 1) = false := by simpa using k1
  have b2 : (k == 2) = false := by simpa using k2
  have b3 : (k == 3) = false := by simpa using k3
  have b4 : (k == 4) = false := by simpa using k4
  have b6 : (k == 6) = false := by simpa using k6
  have b7 : (k == 7) = false := by simpa using k7
  clear hr k0 k1 k2 k3 k4 k6 k7
  go_enter Tryf.func12, Tryf.ntmps12
  go_wp2_with fail
  go_ret
  exact ⟨HR.out, World.grownBy_alloc _ _ _⟩

theorem dep_cls (W : World) (n : Nat) (d : Dv) : (d.k = 3 ∨ d.k = 6 ∨ d.k = 4 ∨ d.k = 7) → 0 < dep W (n + 1) d := by
  intro h
  unfold dep
  split
  · omega
  · split
    · omega
    · rw [if_pos (by omega)]; omega
theorem dep_scal (W : World) (n : Nat) (d : Dv) (h : d.k ≠ 3 ∧ d.k ≠ 6 ∧ d.k ≠ 4 ∧ d.k ≠ 7) : dep W (n + 1) d = 0 := by
  unfold dep
  rw [if_neg h.1, if_neg h.2.2.1, if_neg (by omega)]
end Go.Proofs.Qxb6614908aFmt.Dep
