import Derived.Test.Qxb6614908aDepBuild4
import Derived.Test.Qxb6614908aDepScal
namespace Go.Proofs.Qxb6614908a.Dep
open Go.ChangeShapes Go.WideShapes Go.ChangeAt Go.RowKit

/-- 'build'. -/
theorem build_any (W : World) : ∀ (n : Nat) (d : Dv) (t : Value) (bs : List Int) (w : World), DocOk W n d → Below W.heap.size W w → OwnT W w t bs → bs.length + 2 * siz W n d ≤ 1099511627776 → siz W n d ≤ 1048576 →
    Calls Try.prog 10 #[.agg d.vals, t] w fun e w' => BuildOk W w n d t bs e w'
  | 0, _, _, _, _, h, _, _, _, _ => h.elim
  | n + 1, ⟨k, s, f, ai, li, ci, af, lf, cf⟩, t, bs, w, hok, hW, hT, hbs, hsz => by
    have hb : bs.length ≤ 1099511627776 := by omega
    by_cases k3 : k = 3
    · subst k3; exact build3 W n (build_any W n) s f ai li ci af lf cf t bs w hok hW hT hbs hsz
    by_cases k4 : k = 4
    · subst k4; exact build4 W n (build_any W n) s f ai li ci af lf cf t bs w hok hW hT hbs hsz
    by_cases k0 : k = 0
    · subst k0; exact build0 W n s f ai li ci af lf cf t bs w hW.size hT hb
    by_cases k1 : k = 1
    · subst k1; exact build1 W n s f ai li ci af lf cf t bs w hW.size hT hb
    by_cases k2 : k = 2
    · subst k2; exact build2 W n s f ai li ci af lf cf t bs w hW.size hT hb
    by_cases k6 : k = 6
    · subst k6; exact build6 W n s f ai li ci af lf cf t bs w hW.size hT hb
    by_cases k7 : k = 7
    · subst k7; exact build7 W n s f ai li ci af lf cf t bs w hW.size hT hb
    exact buildO W n k (by simpa using k0) (by simpa using k1) (by simpa using k2) (by simpa using k3) (by simpa using k4) (by simpa using k6) (by simpa using k7) s f ai li ci af lf cf t bs w hW.size hT hb

theorem own_nil (W w : World) : OwnT W w (.slice none 0 0) [] := World.ownsRow_nil _ _ _ _

set_option maxHeartbeats 1000000 in
theorem main_any (W : World) (n : Nat) (d : Dv) (hok : DocOk W n d) : Calls Try.prog 4 #[.agg d.vals] W fun e w' => e = .returned (.bool true) ∧ Below W.heap.size W w' := by
  have hB0 : Below W.heap.size W (W.alloc (.cells d.vals 33)) := (Below.refl _ _).alloc (Nat.le_refl _) _
  have H1 := hide (size_any W n d 0 (W.alloc (.cells d.vals 33)) hok hB0 (by omega) (by omega))
  have H2 := hide (fun w1 hb hs => build_any W n d (.slice none 0 0) [] w1 hok hb (own_nil W w1) (by simp; omega) hs)
  have HOK := hide hok
  have HB := hide (bal_depth (bal_txt W n d))
  have HL := hide (length_txt W n d)
  have HD := hide (dep_le W n d)
  clear hok
  obtain ⟨k, s, f, ai, li, ci, af, lf, cf⟩ := d
  unfold Dv.vals at *
  dsimp only at *
  go_enter Try.func4, Try.ntmps4
  go_wp2_with fail
  refine H1.out.mono ?_
  rintro e w1 ⟨⟨r, rfl, hr0, hr1⟩, hb1⟩
  have hbx : w1.heap[W.heap.size]? = some (.cells #[.int .i8 k, .string s, .bool f, .slice ai li ci, .slice af lf cf] 33 (0, 0)) := (hb1.block W.heap.size (by simp)).trans (heap_alloc_new W _)
  have hB1 : Below W.heap.size W w1 := hB0.trans (hb1.mono (by simp))
  have HR := hide hr1
  clear hr1 hb1
  by_cases hov : r ≤ 1048576
  rotate_left
  · go_wp2_with fail
    go_ret
    exact ⟨rfl, hB1⟩
  have x0 : w1.cell? ⟨W.heap.size, 0, none⟩ = some (.int .i8 k) := by simp [World.cell?, hbx]
  have x1 : w1.cell? ⟨W.heap.size, 1, none⟩ = some (.string s) := by simp [World.cell?, hbx]
  have x2 : w1.cell? ⟨W.heap.size, 2, none⟩ = some (.bool f) := by simp [World.cell?, hbx]
  have x3 : w1.cell? ⟨W.heap.size, 3, none⟩ = some (.slice ai li ci) := by simp [World.cell?, hbx]
  have x4 : w1.cell? ⟨W.heap.size, 4, none⟩ = some (.slice af lf cf) := by simp [World.cell?, hbx]
  have hsz : siz W n ⟨k, s, f, ai, li, ci, af, lf, cf⟩ ≤ 1048576 := by have := HR.out hov; omega
  have HSZ := hide hsz
  clear hbx hsz
  go_wp2_with fail
  refine (H2.out w1 hB1 HSZ.out).mono ?_
  rintro e w2 ⟨v, t2, rfl, hM⟩
  clear x0 x1 x2 x3 x4
  obtain ⟨g, cap, ht2⟩ := row_shape hM.own hM.nn
  have hval := hM.val
  have hown := hM.own
  have hgr := hM.grown
  have hvi := hM.ifv
  have hB2 : Below W.heap.size W w2 := hB1.grown hgr hB1.size (fun k hk => by cases hk)
  clear hM
  simp only [List.nil_append] at ht2 hown
  generalize hd : (⟨k, s, f, ai, li, ci, af, lf, cf⟩ : Dv) = d at *
  clear hd
  have hx0 := heap_alloc_new w2 (.cells #[.nilIface] 36)
  have hst := store_one Try.prog (w2.alloc (.cells #[.nilIface] 36)) ⟨w2.heap.size, 0, none⟩ v hvi.one (cell_of_one hx0) (free_of_one hx0)
  have ha : w2.grownBy (w2.alloc (.cells #[v] 36)) none := World.grownBy_alloc _ _ _
  have hval3 := hval.grown ha
  have hown3 := hown.keep0 ha
  have hB3 : Below W.heap.size W (w2.alloc (.cells #[v] 36)) := hB2.alloc hB2.size _
  have hD1 : dep W n d ≤ 1073741824 := by have := HD.out; have := HSZ.out; omega
  have hm1 : (txt W n d).length ≤ 1099511627776 := by have := HL.out; have := HSZ.out; omega
  clear hval hown hgr ha hx0 hB2
  subst ht2
  go_wp2_with fail
  clear hst
  generalize w2.alloc (.cells #[v] 36) = w3 at *
  refine (zzdepth_any n v (dep W n d) w3 _ hval3 hD1).mono ?_
  rintro e w4 ⟨rfl, hg4⟩
  have hown4 := hown3.keep0 hg4
  have hB4 : Below W.heap.size W w4 := hB3.grown hg4 hB3.size (fun k hk => by cases hk)
  have hcells : ∀ j, j < (txt W n d).length → w4.cell? ⟨g, j, none⟩ = some (.int .u8 ((txt W n d).getD j 0)) := fun j hj => by
    have := World.ownsRow.cells hown4 (g := g) rfl j (.int .u8 ((txt W n d).getD j 0)) (by simp [hj])
    rw [add_plain] at this
    simpa using this
  have HCE := hide hcells
  clear hcells hown3 hown4 hval3 hB3
  generalize hle : (txt W n d).length = m at *
  go_wp2_with fail
  refine (bracket_any g m cap (txt W n d) w4 hm1 hle HCE.out).mono ?_
  rintro e w5 ⟨rfl, rfl⟩
  rw [HB.out]
  clear hle
  go_wp2_with fail
  go_ret
  exact ⟨by simp, hB4⟩
end Go.Proofs.Qxb6614908a.Dep
