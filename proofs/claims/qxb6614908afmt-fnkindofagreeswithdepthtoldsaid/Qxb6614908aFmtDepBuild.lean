import Derived.Test.Qxb6614908aFmtDepBuild4
import Derived.Test.Qxb6614908aFmtDepScal
namespace Go.Proofs.Qxb6614908aFmt.Dep
open Go.ChangeShapes Go.WideShapes Go.ChangeAt Go.RowKit

/-- 'build'. -/
theorem build_any (W : World) : ∀ (n : Nat) (d : Dv) (t : Value) (bs : List Int) (w : World), DocOk W n d → Below W.heap.size W w → OwnT W w t bs → bs.length + 2 * siz W n d ≤ 1099511627776 → siz W n d ≤ 1048576 →
    Calls Tryf.prog 5 #[.agg d.vals, t] w fun e w' => BuildOk W w n d t bs e w'
  | 0, _, _, _, _, h, _, _, _, _ => h.elim
  | n + 1, ⟨k, s, f, ai, li, ci, af, lf, cf⟩, t, bs, w, hok, hW, hT, hbs, hsz => by
    have hb : bs.length ≤ 1099511627776 := by omega
    by_cases k3 : k = 3
    · subst k3; exact build3 W n (build_any W n) s f ai li ci af lf cf t bs w hok hW hT hbs hsz
    by_cases k4 : k = 4
    · subst k4; exact build4 W n (build_any W n) s f ai li ci af lf cf t bs w hok hW hT hbs hsz
    by_cases k0 : k = 0
    · subst k0; exact build0 W n s f ai li ci af lf cf t bs w hW.size hT hb
    by_cases k1 : k = 1
    · subst k1; exact build1 W n s f ai li ci af lf cf t bs w hW.size hT hb
    by_cases k2 : k = 2
    · subst k2; exact build2 W n s f ai li ci af lf cf t bs w hW.size hT hb
    by_cases k6 : k = 6
    · subst k6; exact build6 W n s f ai li ci af lf cf t bs w hW.size hT hb
    by_cases k7 : k = 7
    · subst k7; exact build7 W n s f ai li ci af lf cf t bs w hW.size hT hb
    exact buildO W n k (by simpa using k0) (by simpa using k1) (by simpa using k2) (by simpa using k3) (by simpa using k4) (by simpa using k6) (by simpa using k7) s f ai li ci af lf cf t bs w hW.size hT hb

theorem own_nil (W w : World) : OwnT W w (.slice none 0 0) [] := World.ownsRow_nil _ _ _ _

end Go.Proofs.Qxb6614908aFmt.Dep
