import Derived.Test.Qxb6615051aFmtTnLst
namespace Go.Proofs.Qxb6615051aFmt.Tn
open Go.ChangeShapes Go.WideShapes Go.ChangeAt Go.RowKit

set_option maxHeartbeats 1000000 in
theorem claim_any (bk o cap : Nat) (ts : List ByteArray) (w : World) (hbk : bk < w.heap.size) (hn : ts.length ≤ 1048576) (hE : EntsAt w bk o ts)
    (hJ : (Lib.join (ts.map (·.data.toList)) [59]).length ≤ 140737488355328) :
    Calls Tryf.prog 9 #[.agg #[.slice (some ⟨bk, o, none⟩) ts.length cap, .slice none 0 0, .nilIface]] w fun e w' => e = .returned (.string ⟨(Lib.join (ts.map (·.data.toList)) [59]).toArray⟩) ∧ Below w.heap.size w w' := by
  have hE1 : ∀ ob, EntsAt (w.alloc ob) bk o ts := fun ob => hE.keep ((Below.refl w.heap.size w).alloc (Nat.le_refl _) ob) hbk
  replace hE1 := hide hE1
  replace hJ := hide hJ
  clear hE
  have q25 : ∀ (w : World) (a : Addr) (n c : Nat), (binOp .neq 25 (.slice (some a) n c) (.slice none 0 0)).run Tryf.prog w = .ok (.bool true) w := fun w a n c => run_neq_slice_nil_any w 25 59 (some a) n c 0 0 Tryf.underlying25
  go_enter Tryf.func9, Tryf.ntmps9
  go_wp2_with fail
  refine (list_any bk o cap ts _ (by simp; omega) hn (hE1.out _) hJ.out).mono ?_
  rintro e w1 ⟨rfl, hb1⟩
  go_wp2_with fail
  go_ret
  exact ⟨rfl, below_step ((Below.refl w.heap.size w).alloc (Nat.le_refl _) _) (by simp) hb1⟩
end Go.Proofs.Qxb6615051aFmt.Tn
