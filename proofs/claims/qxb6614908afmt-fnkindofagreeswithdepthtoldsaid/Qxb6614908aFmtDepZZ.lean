import Derived.Test.Qxb6614908aFmtDepDepth
namespace Go.Proofs.Qxb6614908aFmt.Dep
open Go.ChangeShapes Go.WideShapes Go.ChangeAt Go.RowKit

theorem zzstring_any (s : ByteArray) (w : World) : Calls Tryf.prog 14 #[.string s] w fun e w' => e = .returned (.agg #[.iface 9 (.string s)]) ∧ w.grownBy w' none := by
  go_enter Tryf.func14, Tryf.ntmps14
  go_wp2_with fail
  exact bodyPost_ret (v := .agg #[.iface 9 (.string s)]) (by simp [results, Tryf.results14, go_sem]) rfl ⟨rfl, World.grownBy_alloc _ _ _⟩
theorem zzbool_any (b : Bool) (w : World) : Calls Tryf.prog 15 #[.bool b] w fun e w' => e = .returned (.agg #[.iface 4 (.bool b)]) ∧ w.grownBy w' none := by
  go_enter Tryf.func15, Tryf.ntmps15
  go_wp2_with fail
  exact bodyPost_ret (v := .agg #[.iface 4 (.bool b)]) (by simp [results, Tryf.results15, go_sem]) rfl ⟨rfl, World.grownBy_alloc _ _ _⟩
theorem zznumber_any (s : ByteArray) (w : World) : Calls Tryf.prog 16 #[.string s] w fun e w' => e = .returned (.agg #[.iface 58 (.string s)]) ∧ w.grownBy w' none := by
  go_enter Tryf.func16, Tryf.ntmps16
  go_wp2_with fail
  exact bodyPost_ret (v := .agg #[.iface 58 (.string s)]) (by simp [results, Tryf.results16, go_sem]) rfl ⟨rfl, World.grownBy_alloc _ _ _⟩
theorem zznillist_any (w : World) : Calls Tryf.prog 19 #[] w fun e w' => e = .returned (.agg #[.iface 36 (.slice none 0 0)]) ∧ w.grownBy w' none := by
  go_enter Tryf.func19, Tryf.ntmps19
  go_wp2_with fail
  exact bodyPost_ret (v := .agg #[.iface 36 (.slice none 0 0)]) (by simp [results, Tryf.results19, go_sem]) rfl ⟨rfl, World.grownBy_alloc _ _ _⟩
theorem zznilobj_any (w : World) : Calls Tryf.prog 20 #[] w fun e w' => e = .returned (.agg #[.iface 41 (.map none)]) ∧ w.grownBy w' none := by
  go_enter Tryf.func20, Tryf.ntmps20
  go_wp2_with fail
  exact bodyPost_ret (v := .agg #[.iface 41 (.map none)]) (by simp [results, Tryf.results20, go_sem]) rfl ⟨rfl, World.grownBy_alloc _ _ _⟩
theorem zznull_any (w : World) : Calls Tryf.prog 21 #[] w fun e w' => e = .returned (.agg #[.nilIface]) ∧ w.grownBy w' none := by
  go_enter Tryf.func21, Tryf.ntmps21
  go_wp2_with fail
  exact bodyPost_ret (v := .agg #[.nilIface]) (by simp [results, Tryf.results21, go_sem]) rfl ⟨rfl, World.grownBy_alloc _ _ _⟩
theorem heap_new1 (w : World) (o o' : Obj) : ((w.alloc o).alloc o').heap[w.heap.size + 1]? = some o' := by
  have h := heap_alloc_new (w.alloc o) o'
  have e : (w.alloc o).heap.size = w.heap.size + 1 := by simp
  rw [e] at h
  exact h
/-- A value of an interface type. -/
def IfV (x : Value) : Prop := x = .nilIface ∨ ∃ u y, x = .iface u y
theorem IfV.one {x : Value} (h : IfV x) : x.oneCell' = true := by
  rcases h with rfl | ⟨u, y, rfl⟩ <;> rfl

theorem zznewlist_any (w : World) : Calls Tryf.prog 9 #[] w fun e w' => ∃ g, e = .returned (.agg #[.slice (some ⟨g, 0, none⟩) 0 0]) ∧ w'.ownsRow w.heap.size 20 1 (.slice (some ⟨g, 0, none⟩) 0 0) 0 [] ∧ w.grownBy w' none := by
  go_enter Tryf.func9, Tryf.ntmps9
  go_wp2_with fail
  refine bodyPost_ret (v := .agg #[.slice (some ⟨w.heap.size + 1, 0, none⟩) 0 0]) (by simp [results, Tryf.results9, go_sem]) rfl ⟨_, rfl, ⟨rfl, Or.inr ⟨_, _, #[], rfl, by omega, ?_, Nat.le_refl _, by simp [maxLen], rfl, rfl⟩⟩, grown_trans (World.grownBy_alloc _ _ none) (World.grownBy_alloc _ _ none)⟩
  exact heap_new1 _ _ _
theorem zzlistval_any (a : Option Addr) (n c : Nat) (w : World) : Calls Tryf.prog 8 #[.agg #[.slice a n c]] w fun e w' => e = .returned (.agg #[.iface 36 (.slice a n c)]) ∧ w.grownBy w' none := by
  go_enter Tryf.func8, Tryf.ntmps8
  go_wp2_with fail
  exact bodyPost_ret (v := .agg #[.iface 36 (.slice a n c)]) (by simp [results, Tryf.results8, go_sem]) rfl ⟨rfl, grown_trans (World.grownBy_alloc _ _ none) (World.grownBy_alloc _ _ none)⟩
theorem zzobjval_any (b : Nat) (w : World) : Calls Tryf.prog 10 #[.agg #[.map (some b)]] w fun e w' => e = .returned (.agg #[.iface 41 (.map (some b))]) ∧ w.grownBy w' none := by
  go_enter Tryf.func10, Tryf.ntmps10
  go_wp2_with fail
  exact bodyPost_ret (v := .agg #[.iface 41 (.map (some b))]) (by simp [results, Tryf.results10, go_sem]) rfl ⟨rfl, grown_trans (World.grownBy_alloc _ _ none) (World.grownBy_alloc _ _ none)⟩
theorem zznewobj_any (w : World) : Calls Tryf.prog 11 #[] w fun e w' => ∃ b, e = .returned (.agg #[.map (some b)]) ∧ w.heap.size ≤ b ∧ w'.ownsMap Tryf.prog 9 tokR b 0 (.map []) ∧ w.grownBy w' none := by
  have hmm := @run_makeMap Tryf.prog
  go_enter Tryf.func11, Tryf.ntmps11
  go_wp2_with fail
  refine bodyPost_ret (v := .agg #[.map (some (w.heap.size + 1))]) (by simp [results, Tryf.results11, go_sem]) rfl ⟨_, rfl, by omega, ?_, grown_trans (World.grownBy_alloc _ _ none) (World.grownBy_alloc _ _ none)⟩
  have h := World.ownsMap_made (w.alloc (.cells #[.map (some (w.heap.size + 1))] 43)) Tryf.prog 9 tokR
  have e : (w.alloc (.cells #[.map (some (w.heap.size + 1))] 43)).heap.size = w.heap.size + 1 := by simp
  rw [e] at h
  exact h
theorem zzobjset_any (b n : Nat) (M : DataW Value) (key : ByteArray) (x : Value) (w : World) (hn : n ≤ 1048576) (hk : key.size ≤ 9223372036854775807) (hown : w.ownsMap Tryf.prog 9 tokR b n M) :
    Calls Tryf.prog 18 #[.agg #[.map (some b)], .string key, .agg #[x]] w fun e w' => e = .returned (.tuple #[]) ∧ w'.ownsMap Tryf.prog 9 tokR b (n + 1) (M.put (.string key.data.toList) (.held x)) ∧ w.grownBy w' (some b) := by
  have hkey : keyOf Tryf.prog 9 (.string key) = some (.string key.data.toList) := Go.WideMaps.keyOf_string_mk Tryf.underlying9 (by unfold maxLen; omega)
  go_enter Tryf.func18, Tryf.ntmps18
  go_wp2_with (at_mapUpdate; refine wpList_mapUpdate_own _ rfl _ _ _ 41 rfl 9 20 law Tryf.underlying41 _ b n M rfl ((hown.alloc _).alloc _) (by unfold maxLen; omega) _ _ _ rfl rfl hkey (.held x) [] rfl ?_; intro w1 hown1 hg1)
  go_end0
  exact ⟨rfl, hown1, ((grown_trans (World.grownBy_alloc _ _ none) (World.grownBy_alloc _ _ none)).but (some b)).andThen hg1 (fun j hj => Or.inr hj)⟩
theorem Tryf.info20 : (Tryf.prog.info? 20).map (fun i => (i.zero, i.size, i.bytes)) = some (some .nilIface, 1, 16) := by kernel_rfl
theorem grown3 (w : World) (a b c : Obj) : w.grownBy (((w.alloc a).alloc b).alloc c) none := grown_trans (grown_trans (World.grownBy_alloc _ _ none) (World.grownBy_alloc _ _ none)) (World.grownBy_alloc _ _ none)
theorem grown4 (w : World) (a b c d : Obj) : w.grownBy ((((w.alloc a).alloc b).alloc c).alloc d) none := grown_trans (grown3 w a b c) (World.grownBy_alloc _ _ none)
theorem grown_set (w : World) (p : Addr) (u : Value) : w.grownBy (w.setCell p u) (some p.block) :=
  ⟨rfl, rfl, rfl, by simp [World.setCell], fun k _ hk => Below.heap_setCell _ _ _ _ (fun e => hk (by rw [e]))⟩
theorem cell_new4 (w : World) (a b c : Obj) (x : Value) : ∀ j u, [x][j]? = some u → ((((w.alloc a).alloc b).alloc c).alloc (.cells #[x] 20)).cell? ((⟨w.heap.size + 1 + 1 + 1, 0, none⟩ : Addr).add j) = some u := by
  have h := cell_one_new (((w.alloc a).alloc b).alloc c) x 20
  have e : (((w.alloc a).alloc b).alloc c).heap.size = w.heap.size + 1 + 1 + 1 := by simp
  rw [e] at h
  exact h
theorem heap_new3 (w : World) (a b c d : Obj) : ((((w.alloc a).alloc b).alloc c).alloc d).heap[w.heap.size + 1 + 1]? = some c := by
  have h := heap_alloc_new ((w.alloc a).alloc b) c
  have e : ((w.alloc a).alloc b).heap.size = w.heap.size + 1 + 1 := by simp
  rw [e] at h
  exact ((World.grownBy_alloc _ d none).block _ (lt_of_block h) (by simp)).trans h
theorem cell_new3 (w : World) (a b : Obj) (x : Value) (d : Obj) : ((((w.alloc a).alloc b).alloc (.cells #[x] 38)).alloc d).cell? ⟨w.heap.size + 1 + 1, 0, none⟩ = some x := cell_of_one (heap_new3 w a b _ d)
theorem free_new3 (w : World) (a b : Obj) (x : Value) (d : Obj) : ((((w.alloc a).alloc b).alloc (.cells #[x] 38)).alloc d).frozen? ⟨w.heap.size + 1 + 1, 0, none⟩ = false := free_of_one (heap_new3 w a b _ d)
theorem row_shape {w : World} {base : Nat} {e : TypeId} {size : Nat} {v : Value} {n : Nat} {xs : List Value} (h : w.ownsRow base e size v n xs) (hn : ¬ v = .slice none 0 0) : ∃ g cap, v = .slice (some ⟨g, 0, none⟩) n cap := by
  rcases h.2 with ⟨h1, _⟩ | ⟨g, cap, cur, h1, _⟩
  · exact absurd h1 hn
  · exact ⟨g, cap, h1⟩
set_option maxHeartbeats 1000000 in
theorem zzlistadd_any (base g n cap : Nat) (es : List Value) (x : Value) (w : World) (hx : IfV x) (hn : n ≤ 1048576) (hb : base ≤ w.heap.size) (hown : w.ownsRow base 20 1 (.slice (some ⟨g, 0, none⟩) n cap) n es) :
    Calls Tryf.prog 17 #[.agg #[.slice (some ⟨g, 0, none⟩) n cap], .agg #[x]] w fun e w' => ∃ g' cap', e = .returned (.agg #[.slice (some ⟨g', 0, none⟩) (n + 1) cap']) ∧
      w'.ownsRow base 20 1 (.slice (some ⟨g', 0, none⟩) (n + 1) cap') (n + 1) (es ++ [x]) ∧ w.grownBy w' (some g) ∧ (g' = g ∨ w.heap.size ≤ g') := by
  obtain ⟨i0, hi, hz0, hz1, hz2⟩ := info_parts Tryf.info20
  rcases hx with rfl | ⟨u, y, rfl⟩
  · have H := fun a b c d => hide (((((hown.alloc a).alloc b).alloc c).alloc d))
    have hgl : g < w.heap.size := (hown.lt g rfl).2
    clear hown
    go_enter Tryf.func17, Tryf.ntmps17
    go_wp2_with (at_builtin; refine wpList_append_own_at _ rfl _ _ 36 rfl base 20 i0 .nilIface 1 16 Tryf.underlying36 hi hz0 hz1 hz2 rfl (by decide) _ _ _ rfl (H _ _ _ _).out ⟨w.heap.size + 1 + 1 + 1, 0, none⟩ 1 1 [.nilIface] rfl rfl ?c1 ?c2 ?c3 ?c4 ?c5 ?_)
    case c1 => exact cell_new4 _ _ _ _ _
    case c2 => intro u hu; simp at hu; subst hu; rfl
    case c3 => unfold maxLen; omega
    case c4 => omega
    case c5 => simp; omega
    intro v' w1 hown' hgrow hnn hloc
    obtain ⟨g', cap', hv'⟩ := row_shape hown' hnn
    subst hv'
    have hcR : w1.cell? ⟨w.heap.size + 1 + 1, 0, none⟩ = some (.slice none 0 0) := hgrow.cell (a := ⟨w.heap.size + 1 + 1, 0, none⟩) (cell_new3 _ _ _ _ _) (by simp [Value.ownBlock]; omega)
    have hfR : w1.frozen? ⟨w.heap.size + 1 + 1, 0, none⟩ = false := (World.frozen?_of_block (a := ⟨w.heap.size + 1 + 1, 0, none⟩) (hgrow.block (w.heap.size + 1 + 1) (by simp) (by simp [Value.ownBlock]; omega))).trans (free_new3 _ _ _ _ _)
    have hdiff : (Value.slice (some ⟨g', 0, none⟩) (n + 1) cap').ownBlock ≠ some (w.heap.size + 1 + 1) := by
      simp [Value.ownBlock] at hloc ⊢
      omega
    have hl : g' = g ∨ w.heap.size ≤ g' := by simp [Value.ownBlock] at hloc; omega
    have hz : w.grownBy w1 (some g) := ((grown4 w _ _ _ _).but (some g)).andThen hgrow (fun j hj => Or.inr (by simpa [Value.ownBlock] using hj))
    have hgr2 : w.grownBy (w1.setCell ⟨w.heap.size + 1 + 1, 0, none⟩ (.slice (some ⟨g', 0, none⟩) (n + 1) cap')) (some g) := hz.andThen (grown_set _ _ _) (fun j hj => by cases hj; left; show w.heap.size ≤ w.heap.size + 1 + 1; omega)
    have hown2 := hown'.kept (grown_set w1 ⟨w.heap.size + 1 + 1, 0, none⟩ (.slice (some ⟨g', 0, none⟩) (n + 1) cap')) (Or.inr hdiff)
    clear hown' hgrow hz hnn hloc hdiff
    go_wp2_with fail
    exact bodyPost_ret (v := .agg #[.slice (some ⟨g', 0, none⟩) (n + 1) cap']) (by simp [results, Tryf.results17, go_sem, hcR]) rfl ⟨_, _, rfl, hown2, hgr2, hl⟩
  · have H := fun a b c d => hide (((((hown.alloc a).alloc b).alloc c).alloc d))
    have hgl : g < w.heap.size := (hown.lt g rfl).2
    clear hown
    go_enter Tryf.func17, Tryf.ntmps17
    go_wp2_with (at_builtin; refine wpList_append_own_at _ rfl _ _ 36 rfl base 20 i0 .nilIface 1 16 Tryf.underlying36 hi hz0 hz1 hz2 rfl (by decide) _ _ _ rfl (H _ _ _ _).out ⟨w.heap.size + 1 + 1 + 1, 0, none⟩ 1 1 [.iface u y] rfl rfl ?c1 ?c2 ?c3 ?c4 ?c5 ?_)
    case c1 => exact cell_new4 _ _ _ _ _
    case c2 => intro u hu; simp at hu; subst hu; rfl
    case c3 => unfold maxLen; omega
    case c4 => omega
    case c5 => simp; omega
    intro v' w1 hown' hgrow hnn hloc
    obtain ⟨g', cap', hv'⟩ := row_shape hown' hnn
    subst hv'
    have hcR : w1.cell? ⟨w.heap.size + 1 + 1, 0, none⟩ = some (.slice none 0 0) := hgrow.cell (a := ⟨w.heap.size + 1 + 1, 0, none⟩) (cell_new3 _ _ _ _ _) (by simp [Value.ownBlock]; omega)
    have hfR : w1.frozen? ⟨w.heap.size + 1 + 1, 0, none⟩ = false := (World.frozen?_of_block (a := ⟨w.heap.size + 1 + 1, 0, none⟩) (hgrow.block (w.heap.size + 1 + 1) (by simp) (by simp [Value.ownBlock]; omega))).trans (free_new3 _ _ _ _ _)
    have hdiff : (Value.slice (some ⟨g', 0, none⟩) (n + 1) cap').ownBlock ≠ some (w.heap.size + 1 + 1) := by
      simp [Value.ownBlock] at hloc ⊢
      omega
    have hl : g' = g ∨ w.heap.size ≤ g' := by simp [Value.ownBlock] at hloc; omega
    have hz : w.grownBy w1 (some g) := ((grown4 w _ _ _ _).but (some g)).andThen hgrow (fun j hj => Or.inr (by simpa [Value.ownBlock] using hj))
    have hgr2 : w.grownBy (w1.setCell ⟨w.heap.size + 1 + 1, 0, none⟩ (.slice (some ⟨g', 0, none⟩) (n + 1) cap')) (some g) := hz.andThen (grown_set _ _ _) (fun j hj => by cases hj; left; show w.heap.size ≤ w.heap.size + 1 + 1; omega)
    have hown2 := hown'.kept (grown_set w1 ⟨w.heap.size + 1 + 1, 0, none⟩ (.slice (some ⟨g', 0, none⟩) (n + 1) cap')) (Or.inr hdiff)
    clear hown' hgrow hz hnn hloc hdiff
    go_wp2_with fail
    exact bodyPost_ret (v := .agg #[.slice (some ⟨g', 0, none⟩) (n + 1) cap']) (by simp [results, Tryf.results17, go_sem, hcR]) rfl ⟨_, _, rfl, hown2, hgr2, hl⟩
end Go.Proofs.Qxb6614908aFmt.Dep
