import Derived.Test.Qxb6614908aFmtDepKind
namespace Go.Proofs.Qxb6614908aFmt.Dep
open Go.ChangeShapes Go.WideShapes Go.ChangeAt Go.RowKit

def KOk (k : Int) (s : ByteArray) : Prop := ((k = 3 ∨ k = 6) ∧ s = sList) ∨ ((k = 4 ∨ k = 7) ∧ s = sObj) ∨ ((k ≠ 3 ∧ k ≠ 6 ∧ k ≠ 4 ∧ k ≠ 7) ∧ Other s)
theorem zzkind_any (k : Int) (v : Value) (h : Cls k v) (w : World) : Calls Tryf.prog 6 #[.agg #[v]] w fun e w' => ∃ s, e = .returned (.string s) ∧ KOk k s ∧ w.grownBy w' none := by
  rcases h with ⟨hk, y, rfl⟩ | ⟨hk, y, rfl⟩ | ⟨hk, hs⟩
  · exact (zzkind_list y w).mono fun e w' ⟨he, hg⟩ => ⟨_, he, Or.inl ⟨hk, rfl⟩, hg⟩
  · exact (zzkind_obj y w).mono fun e w' ⟨he, hg⟩ => ⟨_, he, Or.inr (Or.inl ⟨hk, rfl⟩), hg⟩
  · exact (zzkind_scal v hs w).mono fun e w' ⟨s, he, ho, hg⟩ => ⟨s, he, Or.inr (Or.inr ⟨hk, ho⟩), hg⟩

/-- What the last expression is reckoned from. -/
theorem last_facts (W : World) (n : Nat) (d : Dv) (s : ByteArray) (c : Int) (hk : KOk d.k s) (hc : ClsOk d.k c) :
    (s = sList ∧ c = 3 ∧ 0 < dep W (n + 1) d) ∨ (s = sObj ∧ c = 4 ∧ 0 < dep W (n + 1) d) ∨ (Other s ∧ c ≠ 3 ∧ c ≠ 4 ∧ dep W (n + 1) d = 0) := by
  rcases hk with ⟨hk, rfl⟩ | ⟨hk, rfl⟩ | ⟨hk, hs⟩
  · left
    refine ⟨rfl, ?_, dep_cls W n d (by omega)⟩
    rcases hc with ⟨_, h⟩ | ⟨h, _⟩ | ⟨h, _⟩
    · exact h
    · omega
    · omega
  · right; left
    refine ⟨rfl, ?_, dep_cls W n d (by omega)⟩
    rcases hc with ⟨h, _⟩ | ⟨_, h⟩ | ⟨h, _⟩
    · omega
    · exact h
    · omega
  · right; right
    refine ⟨hs, ?_, ?_, dep_scal W n d hk⟩
    all_goals
      rcases hc with ⟨h, _⟩ | ⟨h, _⟩ | ⟨_, h⟩
      · omega
      · omega
      · omega

set_option maxHeartbeats 2000000 in
set_option maxRecDepth 100000 in
theorem main_any (W : World) (n : Nat) (d : Dv) (hok : DocOk W (n + 1) d) : Calls Tryf.prog 3 #[.agg d.vals] W fun e w' => e = .returned (.bool true) ∧ Below W.heap.size W w' := by
  have hB0 : Below W.heap.size W (W.alloc (.cells d.vals 26)) := (Below.refl _ _).alloc (Nat.le_refl _) _
  have H1 := hide (size_any W (n + 1) d 0 (W.alloc (.cells d.vals 26)) hok hB0 (by omega) (by omega))
  have H2 := hide (fun w1 hb hs => build_any W (n + 1) d (.slice none 0 0) [] w1 hok hb (own_nil W w1) (by simp; omega) hs)
  have HB := hide (bal_depth (bal_txt W (n + 1) d))
  have HL := hide (length_txt W (n + 1) d)
  have HD := hide (dep_le W (n + 1) d)
  have HF := hide (last_facts W n d)
  clear hok
  obtain ⟨k, s, f, ai, li, ci, af, lf, cf⟩ := d
  unfold Dv.vals at *
  dsimp only at *
  go_enter Tryf.func3, Tryf.ntmps3
  go_wp2_with fail
  refine H1.out.mono ?_
  rintro e w1 ⟨⟨r, rfl, hr0, hr1⟩, hb1⟩
  have hbx : w1.heap[W.heap.size]? = some (.cells #[.int .i8 k, .string s, .bool f, .slice ai li ci, .slice af lf cf] 26 (0, 0)) := (hb1.block W.heap.size (by simp)).trans (heap_alloc_new W _)
  have hB1 : Below W.heap.size W w1 := hB0.trans (hb1.mono (by simp))
  have HR := hide hr1
  clear hr1 hb1
  by_cases hov : r ≤ 1048576
  rotate_left
  · go_wp2_with fail
    go_ret
    exact ⟨rfl, hB1⟩
  have x0 : w1.cell? ⟨W.heap.size, 0, none⟩ = some (.int .i8 k) := by simp [World.cell?, hbx]
  have x1 : w1.cell? ⟨W.heap.size, 1, none⟩ = some (.string s) := by simp [World.cell?, hbx]
  have x2 : w1.cell? ⟨W.heap.size, 2, none⟩ = some (.bool f) := by simp [World.cell?, hbx]
  have x3 : w1.cell? ⟨W.heap.size, 3, none⟩ = some (.slice ai li ci) := by simp [World.cell?, hbx]
  have x4 : w1.cell? ⟨W.heap.size, 4, none⟩ = some (.slice af lf cf) := by simp [World.cell?, hbx]
  have hsz : siz W (n + 1) ⟨k, s, f, ai, li, ci, af, lf, cf⟩ ≤ 1048576 := by have := HR.out hov; omega
  have HSZ := hide hsz
  have HBX := hide hbx
  clear hbx hsz
  go_wp2_with fail
  refine (H2.out w1 hB1 HSZ.out).mono ?_
  rintro e w2 ⟨v, t2, rfl, hM⟩
  clear x0 x1 x2 x3 x4
  obtain ⟨g, cap, ht2⟩ := row_shape hM.own hM.nn
  have hval := hM.val
  have hown := hM.own
  have hgr := hM.grown
  have hvi := hM.ifv
  have hcls := hM.cls
  have hB2 : Below W.heap.size W w2 := hB1.grown hgr hB1.size (fun k hk => by cases hk)
  have hbx2 : w2.heap[W.heap.size]? = some (.cells #[.int .i8 k, .string s, .bool f, .slice ai li ci, .slice af lf cf] 26 (0, 0)) := (hgr.block _ (lt_of_block HBX.out) (by simp [Value.ownBlock])).trans HBX.out
  clear hM HBX
  dsimp only at hcls
  simp only [List.nil_append] at ht2 hown
  generalize hd : (⟨k, s, f, ai, li, ci, af, lf, cf⟩ : Dv) = d at *
  clear hd
  have hx0 := heap_alloc_new w2 (.cells #[.nilIface] 29)
  have hst := store_one Tryf.prog (w2.alloc (.cells #[.nilIface] 29)) ⟨w2.heap.size, 0, none⟩ v hvi.one (cell_of_one hx0) (free_of_one hx0)
  have ha : w2.grownBy (w2.alloc (.cells #[v] 29)) none := World.grownBy_alloc _ _ _
  have hxv : (w2.alloc (.cells #[v] 29)).cell? ⟨w2.heap.size, 0, none⟩ = some v := cell_of_one (heap_alloc_new w2 _)
  have hD1 : dep W (n + 1) d ≤ 1073741824 := by have := HD.out; have := HSZ.out; omega
  have hm1 : (txt W (n + 1) d).length ≤ 1099511627776 := by have := HL.out; have := HSZ.out; omega
  have HV := hide hval
  have HO := hide hown
  have HX := hide hbx2
  have HCL := hide hcls
  have HXV := hide hxv
  clear hval hown hgr hx0 hbx2 hcls hxv
  subst ht2
  go_wp2_with fail
  clear hst
  generalize w2.alloc (.cells #[v] 29) = w3 at *
  refine (zzkind_any k v HCL.out w3).mono ?_
  rintro e w4 ⟨sk, rfl, hkk, hg4⟩
  have HKK := hide hkk
  have hxv4 := hg4.cell HXV.out (by simp)
  have hG4 := grown_trans ha hg4
  clear hkk hg4
  go_wp2_with fail
  refine (zzdepth_any (n + 1) v (dep W (n + 1) d) w4 _ (HV.out.grown hG4) hD1).mono ?_
  rintro e w5 ⟨rfl, hg5⟩
  have hG5 := grown_trans hG4 hg5
  clear hg5 hG4 hxv4
  go_wp2_with fail
  refine (zznewlist_any w5).mono ?_
  rintro e w6 ⟨gl, rfl, _, hg6⟩
  have hG6 := grown_trans hG5 hg6
  clear hg6 hG5
  go_wp2_with fail
  refine (zzlistval_any _ _ _ w6).mono ?_
  rintro e w7 ⟨rfl, hg7⟩
  have hG7 := grown_trans hG6 hg7
  clear hg7 hG6
  go_wp2_with fail
  refine (zzkind_list _ w7).mono ?_
  rintro e w8 ⟨rfl, hg8⟩
  have hG8 := grown_trans hG7 hg8
  clear hg8 hG7
  go_wp2_with fail
  refine (zznewobj_any w8).mono ?_
  rintro e w9 ⟨bo, rfl, _, _, hg9⟩
  have hG9 := grown_trans hG8 hg9
  clear hg9 hG8
  go_wp2_with fail
  refine (zzobjval_any _ w9).mono ?_
  rintro e w10 ⟨rfl, hg10⟩
  have hG10 := grown_trans hG9 hg10
  clear hg10 hG9
  go_wp2_with fail
  refine (zzkind_obj _ w10).mono ?_
  rintro e w11 ⟨rfl, hg11⟩
  have hG11 := grown_trans hG10 hg11
  clear hg11 hG10
  have hbx := (hG11.block _ (lt_of_block HX.out) (by simp)).trans HX.out
  have x0 : w11.cell? ⟨W.heap.size, 0, none⟩ = some (.int .i8 k) := by simp [World.cell?, hbx]
  have x1 : w11.cell? ⟨W.heap.size, 1, none⟩ = some (.string s) := by simp [World.cell?, hbx]
  have x2 : w11.cell? ⟨W.heap.size, 2, none⟩ = some (.bool f) := by simp [World.cell?, hbx]
  have x3 : w11.cell? ⟨W.heap.size, 3, none⟩ = some (.slice ai li ci) := by simp [World.cell?, hbx]
  have x4 : w11.cell? ⟨W.heap.size, 4, none⟩ = some (.slice af lf cf) := by simp [World.cell?, hbx]
  clear hbx
  go_wp2_with fail
  refine (class_any k s f ai li ci af lf cf w11).mono ?_
  rintro e w12 ⟨⟨c, rfl, hcc⟩, hg12⟩
  have HCC := hide hcc
  have hG12 := grown_trans hG11 hg12
  clear hg12 hG11 x0 x1 x2 x3 x4 hcc
  have hB12 : Below W.heap.size W w12 := hB2.grown hG12 hB2.size (fun k hk => by cases hk)
  have hown12 := HO.out.keep0 hG12
  have hcells : ∀ j, j < (txt W (n + 1) d).length → w12.cell? ⟨g, j, none⟩ = some (.int .u8 ((txt W (n + 1) d).getD j 0)) := fun j hj => by
    have := World.ownsRow.cells hown12 (g := g) rfl j (.int .u8 ((txt W (n + 1) d).getD j 0)) (by simp [hj])
    rw [add_plain] at this
    simpa using this
  have HCE := hide hcells
  clear hcells hown12 hG12 ha
  generalize hle : (txt W (n + 1) d).length = m at *
  go_wp2_with fail
  refine (bracket_any g m cap (txt W (n + 1) d) w12 hm1 hle HCE.out).mono ?_
  rintro e w13 ⟨rfl, rfl⟩
  rw [HB.out]
  clear hle
  have hfin := HF.out sk c HKK.out HCC.out
  clear H1 H2 HB HD HF HR HSZ HV HX HCL HXV HKK HCC HL HO HCE
  generalize dep W (n + 1) d = D at *
  have lo := list_obj
  have ol := obj_list
  rcases hfin with ⟨rfl, rfl, hp⟩ | ⟨rfl, rfl, hp⟩ | ⟨ho, h3, h4, h0⟩
  · have hp2 : decide ((0 : Int) < (D : Int)) = true := by simp; omega
    go_wp2_with fail
    go_ret
    exact ⟨rfl, hB12⟩
  · have hp2 : decide ((0 : Int) < (D : Int)) = true := by simp; omega
    go_wp2_with fail
    go_ret
    exact ⟨rfl, hB12⟩
  · subst h0
    obtain ⟨o1, o2⟩ := ho
    have b3 : (c == 3) = false := by simpa using h3
    have b4 : (c == 4) = false := by simpa using h4
    clear h3 h4
    go_wp2_with fail
    go_ret
    exact ⟨rfl, hB12⟩
end Go.Proofs.Qxb6614908aFmt.Dep
