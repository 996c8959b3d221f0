import Derived.Test.Qxb6615051aFmtTnEsc
import Derived.Deep.RegionWith
namespace Go.Proofs.Qxb6615051aFmt.Tn
open Go.ChangeShapes Go.WideShapes Go.ChangeAt Go.RowKit

theorem kind_any (w : World) : Calls Tryf.prog 50 #[.int .u8 1] w fun e w' => e = .returned (.string ⟨#[115, 112, 99]⟩) ∧ w' = w := by
  go_enter Tryf.func50, Tryf.ntmps50
  go_wp2_with fail
  go_ret
  exact ⟨rfl, rfl⟩

/-- The text of an entry. -/
def entT (s : ByteArray) : ByteArray := ⟨#[115, 112, 99]⟩ ++ ⟨#[58]⟩ ++ ⟨(escT s.data.toList).toArray⟩

set_option maxHeartbeats 1000000 in
theorem ent_any (s : ByteArray) (w : World) (hs : s.size ≤ 1048576) :
    Calls Tryf.prog 32 #[.agg #[.int .u8 1, .string s, .int .u64 0, .string ⟨#[]⟩]] w fun e w' => e = .returned (.string (entT s)) ∧ Below w.heap.size w w' := by
  have hl := escT_len s.data.toList
  have hsd : s.data.toList.length = s.size := by rw [Array.length_toList]; rfl
  unfold entT
  generalize hT : (⟨(escT s.data.toList).toArray⟩ : ByteArray) = T
  have hl2 : (T.size : Int) ≤ 4194304 := by
    have : T.size = (escT s.data.toList).length := by rw [← hT]; show (escT s.data.toList).toArray.size = _; rw [List.size_toArray]
    omega
  replace hT := hide hT
  clear hl hsd
  go_enter Tryf.func32, Tryf.ntmps32
  go_wp2_with fail
  go_region_with (first | (go_at_call 50; refine (kind_any _).mono ?_; rintro e w' ⟨rfl, rfl⟩) | (go_at_call 51; refine (esc_any s _ hs).mono ?_; rintro e w1 ⟨rfl, hb1⟩; rw [hT.out]))
  all_goals
    go_wp2_with fail
    go_ret
    exact ⟨rfl, below_step (((Below.refl w.heap.size w).alloc (Nat.le_refl _) _).drew) (by simp [World.drew]) hb1⟩
end Go.Proofs.Qxb6615051aFmt.Tn
