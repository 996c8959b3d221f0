import Derived.Test.Qxb6615051aRows
import Derived.WalkKit
import Derived.ProofKit
import Derived.OpenShut
import Derived.ShutString
import Derived.Conc.LoneSelect
import Derived.KernelRfl
import Derived.Laws.Rows
import Derived.Outline
namespace Go.Proofs.Qxb6615051a.Chain
open Go.Conc Go.RowKit

set_option maxRecDepth 100000 in
/-- 'done' on a check that is not closed: the default. -/
theorem done_open (b c : Nat) (w : World) (hb : w.cell? ⟨b, 0, none⟩ = some (.chan (some c))) (hc : w.heap[c]? = some (.chan 0 #[] false 0 0 false)) :
    Calls Try.prog 15 #[.pointer (some ⟨b, 0, none⟩)] w fun e w' => e = .returned (.bool false) ∧ w = w' := by
  refine calls_of_loneTo fun cs => ?_
  have e : Frame.enter Try.prog 15 #[.pointer (some ⟨b, 0, none⟩)] .normal = (base 15).at ⟨#[.pointer (some ⟨b, 0, none⟩), undef, undef, undef, undef, undef, undef, undef, undef, undef], []⟩ [.code (Try.f15.body.getD .skip)] := by
    simp [Frame.enter, Frame.at, Try.func15, base, Try.f15]
  rw [e]
  refine LoneTo.goes (n := 13) ?_
  simp only [Try.f15, Option.getD_some]
  s_c stepG_seq
  s_reg
  s_op
  s_c stepG_region_end
  s_c stepG_seq
  s_reg
  s_op
  s_op
  s_op
  s_op
  s_c stepG_region_end
  s_c stepG_seq
  s_reg
  s_stop
  refine LoneTo.step (step_lone_select_default (c := c) (z := .agg #[]) (cap := 0) (s := 0) (r := 0) (tm := false) (stepG_comm (cases := #[rcase c (.agg #[])]) (blocking := false) (shape := .select) (w' := w) rfl rfl (by decide) (by simp [go_sem, execOp, rcase, Act.eval])) hc) ?_
  rw [Frame.finish_at]
  walk_nrm
  refine LoneTo.goes (n := 10) ?_
  s_op
  s_op
  s_c stepG_region_end
  s_c stepG_block
  s_cond false
  s_c stepG_seq
  s_reg
  s_op
  s_c stepG_region_end
  s_c stepG_ret'
  s_stop
  exact LoneTo.done ⟨.returned (.bool false), _, rfl, ⟨rfl, rfl⟩, rfl, rfl, rfl, rfl, _, Try.func15, by simp [results, Try.f15, Frame.at]⟩

set_option maxRecDepth 100000 in
/-- 'done' on a check that is closed: the receive is ready. -/
theorem done_shut (b c : Nat) (w : World) (hb : w.cell? ⟨b, 0, none⟩ = some (.chan (some c))) (hc : w.heap[c]? = some (.chan 0 #[] true 0 0 false)) :
    Calls Try.prog 15 #[.pointer (some ⟨b, 0, none⟩)] w fun e w' => e = .returned (.bool true) ∧ w = w' := by
  refine calls_of_loneTo fun cs => ?_
  have e : Frame.enter Try.prog 15 #[.pointer (some ⟨b, 0, none⟩)] .normal = (base 15).at ⟨#[.pointer (some ⟨b, 0, none⟩), undef, undef, undef, undef, undef, undef, undef, undef, undef], []⟩ [.code (Try.f15.body.getD .skip)] := by
    simp [Frame.enter, Frame.at, Try.func15, base, Try.f15]
  rw [e]
  refine LoneTo.goes (n := 13) ?_
  simp only [Try.f15, Option.getD_some]
  s_c stepG_seq
  s_reg
  s_op
  s_c stepG_region_end
  s_c stepG_seq
  s_reg
  s_op
  s_op
  s_op
  s_op
  s_c stepG_region_end
  s_c stepG_seq
  s_reg
  s_stop
  refine LoneTo.step (step_lone_select_recv_shut (c := c) (z := .agg #[]) (cap := 0) (s := 0) (r := 0) (tm := false) (stepG_comm (cases := #[rcase c (.agg #[])]) (blocking := false) (shape := .select) (w' := w) rfl rfl (by decide) (by simp [go_sem, execOp, rcase, Act.eval])) hc) ?_
  rw [Frame.finish_at]
  walk_nrm
  refine LoneTo.goes (n := 10) ?_
  s_op
  s_op
  s_c stepG_region_end
  s_c stepG_block
  s_cond true
  s_c stepG_seq
  s_reg
  s_op
  s_c stepG_region_end
  s_c stepG_ret'
  s_stop
  exact LoneTo.done ⟨.returned (.bool true), _, rfl, ⟨rfl, rfl⟩, rfl, rfl, rfl, rfl, _, Try.func15, by simp [results, Try.f15, Frame.at]⟩


theorem hide {p : Prop} (h : p) : Hid p := h
theorem bytes47 : ∃ i, Try.prog.info? 47 = some i ∧ i.bytes = 0 := by
  have h : (Try.prog.info? 47).map (·.bytes) = some 0 := by kernel_rfl
  obtain ⟨i, hi, hb⟩ := Option.map_eq_some_iff.1 h
  exact ⟨i, hi, hb⟩
theorem mk0 (w : World) : (Instr.makeChan 28 (.int .i64 0)).run Try.prog w = .ok (.chan (some w.heap.size)) (w.alloc (.chan 0 #[] false 0 0 false)) := by
  obtain ⟨i, hi, hb⟩ := bytes47
  simpa using run_makeChan (P := Try.prog) (w := w) Try.underlying28 hi .i64 0 (by omega) (by rw [hb]; omega)

theorem new_any (cut : Bool) (w : World) : Calls Try.prog 9 #[.bool cut] w fun e w' => ∃ b c, e = .returned (.pointer (some ⟨b, 0, none⟩)) ∧ w'.cell? ⟨b, 0, none⟩ = some (.chan (some c)) ∧ w'.heap[c]? = some (.chan 0 #[] false 0 0 false) ∧ w.heap.size ≤ b ∧ w.heap.size ≤ c ∧ Below w.heap.size w w' := by
  have hmc := mk0
  go_enter Try.func9, Try.ntmps9
  go_wp2_with fail
  go_ret
  refine ⟨_, _, rfl, by simp, ?_, by omega, Nat.le_refl _, ((Below.refl _ _).alloc (Nat.le_refl _) _).alloc (by simp) _⟩
  rw [Below.heap_alloc _ _ _ (by simp)]
  exact heap_alloc_new _ _

theorem zzdone_open (b c : Nat) (w : World) (hb : w.cell? ⟨b, 0, none⟩ = some (.chan (some c))) (hc : w.heap[c]? = some (.chan 0 #[] false 0 0 false)) :
    Calls Try.prog 10 #[.pointer (some ⟨b, 0, none⟩)] w fun e w' => e = .returned (.bool false) ∧ w = w' := by
  go_enter Try.func10, Try.ntmps10
  go_wp2_with (go_at_call 15; refine (done_open b c _ hb hc).mono ?_; rintro e w' ⟨rfl, rfl⟩)
  go_ret
  exact ⟨rfl, rfl⟩
theorem zzdone_shut (b c : Nat) (w : World) (hb : w.cell? ⟨b, 0, none⟩ = some (.chan (some c))) (hc : w.heap[c]? = some (.chan 0 #[] true 0 0 false)) :
    Calls Try.prog 10 #[.pointer (some ⟨b, 0, none⟩)] w fun e w' => e = .returned (.bool true) ∧ w = w' := by
  go_enter Try.func10, Try.ntmps10
  go_wp2_with (go_at_call 15; refine (done_shut b c _ hb hc).mono ?_; rintro e w' ⟨rfl, rfl⟩)
  go_ret
  exact ⟨rfl, rfl⟩
theorem close_any (b c : Nat) (w : World) (hb : w.cell? ⟨b, 0, none⟩ = some (.chan (some c))) (hc : w.heap[c]? = some (.chan 0 #[] false 0 0 false)) :
    Calls Try.prog 11 #[.pointer (some ⟨b, 0, none⟩)] w fun e w' => e = .returned (.tuple #[]) ∧ w' = w.setChan c 0 #[] true 0 0 false := by
  have hcl : ∀ ats ty, (Builtin.close_ ats ty #[.chan (some c)]).run Try.prog w = .ok (.tuple #[]) (w.setChan c 0 #[] true 0 0 false) := fun ats ty => run_close_open ats ty hc
  go_enter Try.func11, Try.ntmps11
  go_wp2_with fail
  go_end0
  exact ⟨rfl, rfl⟩

set_option maxHeartbeats 1000000 in
theorem main_any (cut : Bool) (m k : Int) (w : World) : Calls Try.prog 4 #[.bool cut, .int .i64 m, .int .i64 k] w fun e w' => e = .returned (.bool true) ∧ Below w.heap.size w w' := by
  by_cases h1 : m < 0
  · go_enter Try.func4, Try.ntmps4
    go_wp2_with fail
    go_ret
    exact ⟨rfl, Below.refl _ _⟩
  by_cases h2 : 65536 < m
  · go_enter Try.func4, Try.ntmps4
    go_wp2_with fail
    go_ret
    exact ⟨rfl, Below.refl _ _⟩
  by_cases h3 : k < 0
  · go_enter Try.func4, Try.ntmps4
    go_wp2_with fail
    go_ret
    exact ⟨rfl, Below.refl _ _⟩
  by_cases h4 : 65536 < k
  · go_enter Try.func4, Try.ntmps4
    go_wp2_with fail
    go_ret
    exact ⟨rfl, Below.refl _ _⟩
  obtain ⟨m, rfl⟩ := Int.eq_ofNat_of_zero_le (show 0 ≤ m from by omega)
  obtain ⟨k, rfl⟩ := Int.eq_ofNat_of_zero_le (show 0 ≤ k from by omega)
  go_enter Try.func4, Try.ntmps4
  go_wp2_with fail
  refine (new_any cut w).mono ?_
  rintro e w1 ⟨b, c, rfl, hb, hc, hbw, hcw, hbel⟩
  have HC := hide hc
  clear hc
  go_wp2_with fail
  go_loop [8] (fun i => ∃ q : Nat, q ≤ m + 1 ∧ i = .int .i64 q) (fun i => m + 1 - (intOf i).toNat)
  case atStart => exact ⟨0, Nat.zero_le _, rfl⟩
  case round =>
    obtain ⟨q, hq, rfl⟩ := hrel
    by_cases hlt : q ≤ m
    · go_wp2_with (go_at_call 10; refine (zzdone_open b c _ hb HC.out).mono ?_; rintro e w' ⟨rfl, rfl⟩)
      go_round
      case rel => exact ⟨q + 1, by omega, by go_num⟩
      case measure => simp [intOf]; omega
    · go_wp2_with fail
      refine (close_any b c w1 hb HC.out).mono ?_
      rintro e w2 ⟨rfl, hw2⟩
      have hne : b ≠ c := fun e => by subst e; simp [World.cell?, HC.out] at hb
      have hb2 : w2.cell? ⟨b, 0, none⟩ = some (.chan (some c)) := by
        rw [hw2, ← hb]
        refine World.cell?_of_block (w := w1) (a := ⟨b, 0, none⟩) ?_
        simp only [World.setChan]
        rw [Array.getElem?_setIfInBounds_ne (Ne.symm hne)]
      have hc2 : w2.heap[c]? = some (.chan 0 #[] true 0 0 false) := by rw [hw2]; exact heap_setChan w1 c 0 #[] true 0 0 false (lt_of_block HC.out)
      have hbel2 : Below w.heap.size w w2 := by rw [hw2]; exact below_setChan hbel hcw _ _ _ _ _ _
      have HC2 := hide hc2
      clear hw2 hc2 hb hbel HC
      go_wp2_with fail
      go_loop [9] (fun i => ∃ q : Nat, q ≤ k + 1 ∧ i = .int .i64 q) (fun i => k + 1 - (intOf i).toNat)
      case atStart => exact ⟨0, Nat.zero_le _, rfl⟩
      case round =>
        obtain ⟨p, hp, rfl⟩ := hrel
        by_cases hlt2 : p ≤ k
        · go_wp2_with (go_at_call 10; refine (zzdone_shut b c _ hb2 HC2.out).mono ?_; rintro e w' ⟨rfl, rfl⟩)
          go_round
          case rel => exact ⟨p + 1, by omega, by go_num⟩
          case measure => simp [intOf]; omega
        · go_wp2_with fail
          go_ret
          exact ⟨rfl, hbel2⟩
end Go.Proofs.Qxb6615051a.Chain
