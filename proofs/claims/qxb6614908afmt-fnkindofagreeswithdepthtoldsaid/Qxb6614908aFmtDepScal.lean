import Derived.Test.Qxb6614908aFmtDepEnv
namespace Go.Proofs.Qxb6614908aFmt.Dep
open Go.ChangeShapes Go.WideShapes Go.ChangeAt Go.RowKit

set_option maxHeartbeats 1000000 in
set_option maxRecDepth 100000 in
theorem build0 (W : World) (n : Nat)  (s : ByteArray) (f : Bool) (ai : Option Addr) (li ci : Nat) (af : Option Addr) (lf cf : Nat) (t : Value) (bs : List Int) (w : World)
    (hW : W.heap.size ≤ w.heap.size) (hT : OwnT W w t bs) (hbs : bs.length ≤ 1099511627776) :
    Calls Tryf.prog 5 #[.agg #[.int .i8 0, .string s, .bool f, .slice ai li ci, .slice af lf cf], t] w fun e w' => BuildOk W w (n + 1) ⟨0, s, f, ai, li, ci, af, lf, cf⟩ t bs e w' := by
  obtain ⟨i0, hi, hz0, hz1, hz2⟩ := info_parts Tryf.info5
  have HX : Hid (txt W (n + 1) ⟨0, s, f, ai, li, ci, af, lf, cf⟩ = [48]) := by
    show _ = _
    unfold txt
    simp
  have HD : Hid (dep W (n + 1) ⟨0, s, f, ai, li, ci, af, lf, cf⟩ = 0) := by
    show _ = _
    unfold dep
    simp
  have hE0 := Env.start w t.ownBlock #[.int .i8 0, .string s, .bool f, .slice ai li ci, .slice af lf cf]
  have HT := hide hT
  have hT0 := hT.keep0 (grown_trans (World.grownBy_alloc w (.cells #[.int .i8 0, .string s, .bool f, .slice ai li ci, .slice af lf cf] 26) none) (World.grownBy_alloc _ (.cells #[.nilIface] 29) none))
  clear hT
  go_enter Tryf.func5, Tryf.ntmps5
  go_wp2_with fail
  refine (zzstring_any s _).mono ?_
  rintro e w1 ⟨rfl, hg1⟩
  have hE1 := hE0.next hg1 (by simp) (fun j hj => (HT.out.row j hj).2)
  have hT1 := hT0.keep0 hg1
  have hs1 := hE1.size
  clear hE0 hT0 hg1
  have hT2 := World.ownsRow.alloc hT1 (.cells #[.int .u8 48] 5)
  have hE2 := hE1.next (World.grownBy_alloc w1 (.cells #[.int .u8 48] 5) none) (by simp) (fun j hj => (HT.out.row j hj).2)
  go_wp2_with (at_builtin; refine wpList_append_own_at _ rfl (.tmp 22) (.tmp 23) 30 rfl W.heap.size 5 i0 (.int .u8 0) 1 1 Tryf.underlying30 hi hz0 hz1 hz2 rfl (by decide) _ _ _ rfl hT2 ⟨w1.heap.size, 0, none⟩ 1 1 [.int .u8 48] rfl rfl ?c1 ?c2 ?c3 ?c4 ?c5 ?_)
  case c1 => exact cell_one_new _ _ _
  case c2 => intro u hu; simp at hu; subst hu; rfl
  case c3 => unfold maxLen; omega
  case c4 => omega
  case c5 => simp; omega
  intro t' w2 hown' hgrow hnn hloc
  have hnn' : ¬ t' = .slice none 0 0 := by simpa using hnn
  have hE3 := hE2.next hgrow (fun j hj => Or.inr hj) (fun j hj => (HT.out.row j hj).2)
  have hcR := cell_of_one hE3.res
  have hfR := free_of_one hE3.res
  have hloc' : t'.ownBlock = t.ownBlock ∨ ∃ k, t'.ownBlock = some k ∧ w.heap.size + 2 ≤ k := hloc.imp id (fun h => ⟨_, h, by omega⟩)
  have HM := hide (made_end (v := .iface 9 (.string s)) (n := n + 1) HX.out HD.out hE3 HT.out hown' hloc' hnn' (Or.inr ⟨_, _, rfl⟩) (Or.inl ⟨Or.inr (Or.inl ⟨_, rfl⟩), rfl⟩) (Or.inr (Or.inr ⟨by simp, Or.inr (Or.inl ⟨_, rfl⟩)⟩)))
  clear hown' hgrow hnn hloc hE1 hE2 hE3 hT1 hT2 hloc' hnn'
  go_wp2_with fail
  exact bodyPost_ret (v := .tuple #[.agg #[.iface 9 (.string s)], t']) (by simp [results, Tryf.results5, go_sem, hcR]) rfl ⟨_, _, rfl, HM.out⟩

set_option maxHeartbeats 1000000 in
set_option maxRecDepth 100000 in
theorem build1 (W : World) (n : Nat)  (s : ByteArray) (f : Bool) (ai : Option Addr) (li ci : Nat) (af : Option Addr) (lf cf : Nat) (t : Value) (bs : List Int) (w : World)
    (hW : W.heap.size ≤ w.heap.size) (hT : OwnT W w t bs) (hbs : bs.length ≤ 1099511627776) :
    Calls Tryf.prog 5 #[.agg #[.int .i8 1, .string s, .bool f, .slice ai li ci, .slice af lf cf], t] w fun e w' => BuildOk W w (n + 1) ⟨1, s, f, ai, li, ci, af, lf, cf⟩ t bs e w' := by
  obtain ⟨i0, hi, hz0, hz1, hz2⟩ := info_parts Tryf.info5
  have HX : Hid (txt W (n + 1) ⟨1, s, f, ai, li, ci, af, lf, cf⟩ = [48]) := by
    show _ = _
    unfold txt
    simp
  have HD : Hid (dep W (n + 1) ⟨1, s, f, ai, li, ci, af, lf, cf⟩ = 0) := by
    show _ = _
    unfold dep
    simp
  have hE0 := Env.start w t.ownBlock #[.int .i8 1, .string s, .bool f, .slice ai li ci, .slice af lf cf]
  have HT := hide hT
  have hT0 := hT.keep0 (grown_trans (World.grownBy_alloc w (.cells #[.int .i8 1, .string s, .bool f, .slice ai li ci, .slice af lf cf] 26) none) (World.grownBy_alloc _ (.cells #[.nilIface] 29) none))
  clear hT
  go_enter Tryf.func5, Tryf.ntmps5
  go_wp2_with fail
  refine (zzbool_any f _).mono ?_
  rintro e w1 ⟨rfl, hg1⟩
  have hE1 := hE0.next hg1 (by simp) (fun j hj => (HT.out.row j hj).2)
  have hT1 := hT0.keep0 hg1
  have hs1 := hE1.size
  clear hE0 hT0 hg1
  have hT2 := World.ownsRow.alloc hT1 (.cells #[.int .u8 48] 5)
  have hE2 := hE1.next (World.grownBy_alloc w1 (.cells #[.int .u8 48] 5) none) (by simp) (fun j hj => (HT.out.row j hj).2)
  go_wp2_with (at_builtin; refine wpList_append_own_at _ rfl (.tmp 30) (.tmp 31) 30 rfl W.heap.size 5 i0 (.int .u8 0) 1 1 Tryf.underlying30 hi hz0 hz1 hz2 rfl (by decide) _ _ _ rfl hT2 ⟨w1.heap.size, 0, none⟩ 1 1 [.int .u8 48] rfl rfl ?c1 ?c2 ?c3 ?c4 ?c5 ?_)
  case c1 => exact cell_one_new _ _ _
  case c2 => intro u hu; simp at hu; subst hu; rfl
  case c3 => unfold maxLen; omega
  case c4 => omega
  case c5 => simp; omega
  intro t' w2 hown' hgrow hnn hloc
  have hnn' : ¬ t' = .slice none 0 0 := by simpa using hnn
  have hE3 := hE2.next hgrow (fun j hj => Or.inr hj) (fun j hj => (HT.out.row j hj).2)
  have hcR := cell_of_one hE3.res
  have hfR := free_of_one hE3.res
  have hloc' : t'.ownBlock = t.ownBlock ∨ ∃ k, t'.ownBlock = some k ∧ w.heap.size + 2 ≤ k := hloc.imp id (fun h => ⟨_, h, by omega⟩)
  have HM := hide (made_end (v := .iface 4 (.bool f)) (n := n + 1) HX.out HD.out hE3 HT.out hown' hloc' hnn' (Or.inr ⟨_, _, rfl⟩) (Or.inl ⟨Or.inr (Or.inr (Or.inl ⟨_, rfl⟩)), rfl⟩) (Or.inr (Or.inr ⟨by simp, Or.inr (Or.inr (Or.inl ⟨_, rfl⟩))⟩)))
  clear hown' hgrow hnn hloc hE1 hE2 hE3 hT1 hT2 hloc' hnn'
  go_wp2_with fail
  exact bodyPost_ret (v := .tuple #[.agg #[.iface 4 (.bool f)], t']) (by simp [results, Tryf.results5, go_sem, hcR]) rfl ⟨_, _, rfl, HM.out⟩

set_option maxHeartbeats 1000000 in
set_option maxRecDepth 100000 in
theorem build2 (W : World) (n : Nat)  (s : ByteArray) (f : Bool) (ai : Option Addr) (li ci : Nat) (af : Option Addr) (lf cf : Nat) (t : Value) (bs : List Int) (w : World)
    (hW : W.heap.size ≤ w.heap.size) (hT : OwnT W w t bs) (hbs : bs.length ≤ 1099511627776) :
    Calls Tryf.prog 5 #[.agg #[.int .i8 2, .string s, .bool f, .slice ai li ci, .slice af lf cf], t] w fun e w' => BuildOk W w (n + 1) ⟨2, s, f, ai, li, ci, af, lf, cf⟩ t bs e w' := by
  obtain ⟨i0, hi, hz0, hz1, hz2⟩ := info_parts Tryf.info5
  have HX : Hid (txt W (n + 1) ⟨2, s, f, ai, li, ci, af, lf, cf⟩ = [48]) := by
    show _ = _
    unfold txt
    simp
  have HD : Hid (dep W (n + 1) ⟨2, s, f, ai, li, ci, af, lf, cf⟩ = 0) := by
    show _ = _
    unfold dep
    simp
  have hE0 := Env.start w t.ownBlock #[.int .i8 2, .string s, .bool f, .slice ai li ci, .slice af lf cf]
  have HT := hide hT
  have hT0 := hT.keep0 (grown_trans (World.grownBy_alloc w (.cells #[.int .i8 2, .string s, .bool f, .slice ai li ci, .slice af lf cf] 26) none) (World.grownBy_alloc _ (.cells #[.nilIface] 29) none))
  clear hT
  go_enter Tryf.func5, Tryf.ntmps5
  go_wp2_with fail
  refine (zznumber_any s _).mono ?_
  rintro e w1 ⟨rfl, hg1⟩
  have hE1 := hE0.next hg1 (by simp) (fun j hj => (HT.out.row j hj).2)
  have hT1 := hT0.keep0 hg1
  have hs1 := hE1.size
  clear hE0 hT0 hg1
  have hT2 := World.ownsRow.alloc hT1 (.cells #[.int .u8 48] 5)
  have hE2 := hE1.next (World.grownBy_alloc w1 (.cells #[.int .u8 48] 5) none) (by simp) (fun j hj => (HT.out.row j hj).2)
  go_wp2_with (at_builtin; refine wpList_append_own_at _ rfl (.tmp 38) (.tmp 39) 30 rfl W.heap.size 5 i0 (.int .u8 0) 1 1 Tryf.underlying30 hi hz0 hz1 hz2 rfl (by decide) _ _ _ rfl hT2 ⟨w1.heap.size, 0, none⟩ 1 1 [.int .u8 48] rfl rfl ?c1 ?c2 ?c3 ?c4 ?c5 ?_)
  case c1 => exact cell_one_new _ _ _
  case c2 => intro u hu; simp at hu; subst hu; rfl
  case c3 => unfold maxLen; omega
  case c4 => omega
  case c5 => simp; omega
  intro t' w2 hown' hgrow hnn hloc
  have hnn' : ¬ t' = .slice none 0 0 := by simpa using hnn
  have hE3 := hE2.next hgrow (fun j hj => Or.inr hj) (fun j hj => (HT.out.row j hj).2)
  have hcR := cell_of_one hE3.res
  have hfR := free_of_one hE3.res
  have hloc' : t'.ownBlock = t.ownBlock ∨ ∃ k, t'.ownBlock = some k ∧ w.heap.size + 2 ≤ k := hloc.imp id (fun h => ⟨_, h, by omega⟩)
  have HM := hide (made_end (v := .iface 58 (.string s)) (n := n + 1) HX.out HD.out hE3 HT.out hown' hloc' hnn' (Or.inr ⟨_, _, rfl⟩) (Or.inl ⟨Or.inr (Or.inr (Or.inr ⟨_, rfl⟩)), rfl⟩) (Or.inr (Or.inr ⟨by simp, Or.inr (Or.inr (Or.inr ⟨_, rfl⟩))⟩)))
  clear hown' hgrow hnn hloc hE1 hE2 hE3 hT1 hT2 hloc' hnn'
  go_wp2_with fail
  exact bodyPost_ret (v := .tuple #[.agg #[.iface 58 (.string s)], t']) (by simp [results, Tryf.results5, go_sem, hcR]) rfl ⟨_, _, rfl, HM.out⟩

set_option maxHeartbeats 1000000 in
set_option maxRecDepth 100000 in
theorem build6 (W : World) (n : Nat)  (s : ByteArray) (f : Bool) (ai : Option Addr) (li ci : Nat) (af : Option Addr) (lf cf : Nat) (t : Value) (bs : List Int) (w : World)
    (hW : W.heap.size ≤ w.heap.size) (hT : OwnT W w t bs) (hbs : bs.length ≤ 1099511627776) :
    Calls Tryf.prog 5 #[.agg #[.int .i8 6, .string s, .bool f, .slice ai li ci, .slice af lf cf], t] w fun e w' => BuildOk W w (n + 1) ⟨6, s, f, ai, li, ci, af, lf, cf⟩ t bs e w' := by
  obtain ⟨i0, hi, hz0, hz1, hz2⟩ := info_parts Tryf.info5
  have HX : Hid (txt W (n + 1) ⟨6, s, f, ai, li, ci, af, lf, cf⟩ = [91, 93]) := by
    show _ = _
    unfold txt
    simp
  have HD : Hid (dep W (n + 1) ⟨6, s, f, ai, li, ci, af, lf, cf⟩ = 1) := by
    show _ = _
    unfold dep
    simp
  have hE0 := Env.start w t.ownBlock #[.int .i8 6, .string s, .bool f, .slice ai li ci, .slice af lf cf]
  have HT := hide hT
  have hT0 := hT.keep0 (grown_trans (World.grownBy_alloc w (.cells #[.int .i8 6, .string s, .bool f, .slice ai li ci, .slice af lf cf] 26) none) (World.grownBy_alloc _ (.cells #[.nilIface] 29) none))
  clear hT
  go_enter Tryf.func5, Tryf.ntmps5
  go_wp2_with fail
  refine (zznillist_any _).mono ?_
  rintro e w1 ⟨rfl, hg1⟩
  have hE1 := hE0.next hg1 (by simp) (fun j hj => (HT.out.row j hj).2)
  have hT1 := hT0.keep0 hg1
  have hs1 := hE1.size
  clear hE0 hT0 hg1
  have hT2 := World.ownsRow.alloc hT1 (.cells #[.int .u8 91, .int .u8 93] 5)
  have hE2 := hE1.next (World.grownBy_alloc w1 (.cells #[.int .u8 91, .int .u8 93] 5) none) (by simp) (fun j hj => (HT.out.row j hj).2)
  go_wp2_with (at_builtin; refine wpList_append_own_at _ rfl (.tmp 144) (.tmp 145) 30 rfl W.heap.size 5 i0 (.int .u8 0) 1 1 Tryf.underlying30 hi hz0 hz1 hz2 rfl (by decide) _ _ _ rfl hT2 ⟨w1.heap.size, 0, none⟩ 2 2 [.int .u8 91, .int .u8 93] rfl rfl ?c1 ?c2 ?c3 ?c4 ?c5 ?_)
  case c1 => exact cell_two_new _ _ _ _
  case c2 => intro u hu; simp at hu; rcases hu with rfl | rfl <;> rfl
  case c3 => unfold maxLen; omega
  case c4 => omega
  case c5 => simp; omega
  intro t' w2 hown' hgrow hnn hloc
  have hnn' : ¬ t' = .slice none 0 0 := by simpa using hnn
  have hE3 := hE2.next hgrow (fun j hj => Or.inr hj) (fun j hj => (HT.out.row j hj).2)
  have hcR := cell_of_one hE3.res
  have hfR := free_of_one hE3.res
  have hloc' : t'.ownBlock = t.ownBlock ∨ ∃ k, t'.ownBlock = some k ∧ w.heap.size + 2 ≤ k := hloc.imp id (fun h => ⟨_, h, by omega⟩)
  have HM := hide (made_end (v := .iface 36 (.slice none 0 0)) (n := n + 1) HX.out HD.out hE3 HT.out hown' hloc' hnn' (Or.inr ⟨_, _, rfl⟩) (Or.inr (Or.inl ⟨rfl, rfl⟩)) (Or.inl ⟨Or.inr rfl, _, rfl⟩))
  clear hown' hgrow hnn hloc hE1 hE2 hE3 hT1 hT2 hloc' hnn'
  go_wp2_with fail
  exact bodyPost_ret (v := .tuple #[.agg #[.iface 36 (.slice none 0 0)], t']) (by simp [results, Tryf.results5, go_sem, hcR]) rfl ⟨_, _, rfl, HM.out⟩

set_option maxHeartbeats 1000000 in
set_option maxRecDepth 100000 in
theorem build7 (W : World) (n : Nat)  (s : ByteArray) (f : Bool) (ai : Option Addr) (li ci : Nat) (af : Option Addr) (lf cf : Nat) (t : Value) (bs : List Int) (w : World)
    (hW : W.heap.size ≤ w.heap.size) (hT : OwnT W w t bs) (hbs : bs.length ≤ 1099511627776) :
    Calls Tryf.prog 5 #[.agg #[.int .i8 7, .string s, .bool f, .slice ai li ci, .slice af lf cf], t] w fun e w' => BuildOk W w (n + 1) ⟨7, s, f, ai, li, ci, af, lf, cf⟩ t bs e w' := by
  obtain ⟨i0, hi, hz0, hz1, hz2⟩ := info_parts Tryf.info5
  have HX : Hid (txt W (n + 1) ⟨7, s, f, ai, li, ci, af, lf, cf⟩ = [123, 125]) := by
    show _ = _
    unfold txt
    simp
  have HD : Hid (dep W (n + 1) ⟨7, s, f, ai, li, ci, af, lf, cf⟩ = 1) := by
    show _ = _
    unfold dep
    simp
  have hE0 := Env.start w t.ownBlock #[.int .i8 7, .string s, .bool f, .slice ai li ci, .slice af lf cf]
  have HT := hide hT
  have hT0 := hT.keep0 (grown_trans (World.grownBy_alloc w (.cells #[.int .i8 7, .string s, .bool f, .slice ai li ci, .slice af lf cf] 26) none) (World.grownBy_alloc _ (.cells #[.nilIface] 29) none))
  clear hT
  go_enter Tryf.func5, Tryf.ntmps5
  go_wp2_with fail
  refine (zznilobj_any _).mono ?_
  rintro e w1 ⟨rfl, hg1⟩
  have hE1 := hE0.next hg1 (by simp) (fun j hj => (HT.out.row j hj).2)
  have hT1 := hT0.keep0 hg1
  have hs1 := hE1.size
  clear hE0 hT0 hg1
  have hT2 := World.ownsRow.alloc hT1 (.cells #[.int .u8 123, .int .u8 125] 5)
  have hE2 := hE1.next (World.grownBy_alloc w1 (.cells #[.int .u8 123, .int .u8 125] 5) none) (by simp) (fun j hj => (HT.out.row j hj).2)
  go_wp2_with (at_builtin; refine wpList_append_own_at _ rfl (.tmp 150) (.tmp 151) 30 rfl W.heap.size 5 i0 (.int .u8 0) 1 1 Tryf.underlying30 hi hz0 hz1 hz2 rfl (by decide) _ _ _ rfl hT2 ⟨w1.heap.size, 0, none⟩ 2 2 [.int .u8 123, .int .u8 125] rfl rfl ?c1 ?c2 ?c3 ?c4 ?c5 ?_)
  case c1 => exact cell_two_new _ _ _ _
  case c2 => intro u hu; simp at hu; rcases hu with rfl | rfl <;> rfl
  case c3 => unfold maxLen; omega
  case c4 => omega
  case c5 => simp; omega
  intro t' w2 hown' hgrow hnn hloc
  have hnn' : ¬ t' = .slice none 0 0 := by simpa using hnn
  have hE3 := hE2.next hgrow (fun j hj => Or.inr hj) (fun j hj => (HT.out.row j hj).2)
  have hcR := cell_of_one hE3.res
  have hfR := free_of_one hE3.res
  have hloc' : t'.ownBlock = t.ownBlock ∨ ∃ k, t'.ownBlock = some k ∧ w.heap.size + 2 ≤ k := hloc.imp id (fun h => ⟨_, h, by omega⟩)
  have HM := hide (made_end (v := .iface 41 (.map none)) (n := n + 1) HX.out HD.out hE3 HT.out hown' hloc' hnn' (Or.inr ⟨_, _, rfl⟩) (Or.inr (Or.inr (Or.inl ⟨rfl, rfl⟩))) (Or.inr (Or.inl ⟨Or.inr rfl, _, rfl⟩)))
  clear hown' hgrow hnn hloc hE1 hE2 hE3 hT1 hT2 hloc' hnn'
  go_wp2_with fail
  exact bodyPost_ret (v := .tuple #[.agg #[.iface 41 (.map none)], t']) (by simp [results, Tryf.results5, go_sem, hcR]) rfl ⟨_, _, rfl, HM.out⟩

set_option maxHeartbeats 1000000 in
set_option maxRecDepth 100000 in
theorem buildO (W : World) (n : Nat) (k : Int) (k0 : (k == 0) = false) (k1 : (k == 1) = false) (k2 : (k == 2) = false) (k3 : (k == 3) = false) (k4 : (k == 4) = false) (k6 : (k == 6) = false) (k7 : (k == 7) = false) (s : ByteArray) (f : Bool) (ai : Option Addr) (li ci : Nat) (af : Option Addr) (lf cf : Nat) (t : Value) (bs : List Int) (w : World)
    (hW : W.heap.size ≤ w.heap.size) (hT : OwnT W w t bs) (hbs : bs.length ≤ 1099511627776) :
    Calls Tryf.prog 5 #[.agg #[.int .i8 k, .string s, .bool f, .slice ai li ci, .slice af lf cf], t] w fun e w' => BuildOk W w (n + 1) ⟨k, s, f, ai, li, ci, af, lf, cf⟩ t bs e w' := by
  obtain ⟨i0, hi, hz0, hz1, hz2⟩ := info_parts Tryf.info5
  have HX : Hid (txt W (n + 1) ⟨k, s, f, ai, li, ci, af, lf, cf⟩ = [48]) := by
    show _ = _
    unfold txt
    simp [beq_eq_false_iff_ne.1 k3, beq_eq_false_iff_ne.1 k4, beq_eq_false_iff_ne.1 k6, beq_eq_false_iff_ne.1 k7]
  have HD : Hid (dep W (n + 1) ⟨k, s, f, ai, li, ci, af, lf, cf⟩ = 0) := by
    show _ = _
    unfold dep
    simp [beq_eq_false_iff_ne.1 k3, beq_eq_false_iff_ne.1 k4, beq_eq_false_iff_ne.1 k6, beq_eq_false_iff_ne.1 k7]
  have hE0 := Env.start w t.ownBlock #[.int .i8 k, .string s, .bool f, .slice ai li ci, .slice af lf cf]
  have HT := hide hT
  have hT0 := hT.keep0 (grown_trans (World.grownBy_alloc w (.cells #[.int .i8 k, .string s, .bool f, .slice ai li ci, .slice af lf cf] 26) none) (World.grownBy_alloc _ (.cells #[.nilIface] 29) none))
  clear hT
  go_enter Tryf.func5, Tryf.ntmps5
  go_wp2_with fail
  refine (zznull_any _).mono ?_
  rintro e w1 ⟨rfl, hg1⟩
  have hE1 := hE0.next hg1 (by simp) (fun j hj => (HT.out.row j hj).2)
  have hT1 := hT0.keep0 hg1
  have hs1 := hE1.size
  clear hE0 hT0 hg1
  have hT2 := World.ownsRow.alloc hT1 (.cells #[.int .u8 48] 5)
  have hE2 := hE1.next (World.grownBy_alloc w1 (.cells #[.int .u8 48] 5) none) (by simp) (fun j hj => (HT.out.row j hj).2)
  go_wp2_with (at_builtin; refine wpList_append_own_at _ rfl (.tmp 154) (.tmp 155) 30 rfl W.heap.size 5 i0 (.int .u8 0) 1 1 Tryf.underlying30 hi hz0 hz1 hz2 rfl (by decide) _ _ _ rfl hT2 ⟨w1.heap.size, 0, none⟩ 1 1 [.int .u8 48] rfl rfl ?c1 ?c2 ?c3 ?c4 ?c5 ?_)
  case c1 => exact cell_one_new _ _ _
  case c2 => intro u hu; simp at hu; subst hu; rfl
  case c3 => unfold maxLen; omega
  case c4 => omega
  case c5 => simp; omega
  intro t' w2 hown' hgrow hnn hloc
  have hnn' : ¬ t' = .slice none 0 0 := by simpa using hnn
  have hE3 := hE2.next hgrow (fun j hj => Or.inr hj) (fun j hj => (HT.out.row j hj).2)
  have hcR := cell_of_one hE3.res
  have hfR := free_of_one hE3.res
  have hloc' : t'.ownBlock = t.ownBlock ∨ ∃ k, t'.ownBlock = some k ∧ w.heap.size + 2 ≤ k := hloc.imp id (fun h => ⟨_, h, by omega⟩)
  have HM := hide (made_end (v := .nilIface) (n := n + 1) HX.out HD.out hE3 HT.out hown' hloc' hnn' (Or.inl rfl) (Or.inl ⟨Or.inl rfl, rfl⟩) (Or.inr (Or.inr ⟨⟨beq_eq_false_iff_ne.1 k3, beq_eq_false_iff_ne.1 k6, beq_eq_false_iff_ne.1 k4, beq_eq_false_iff_ne.1 k7⟩, Or.inl rfl⟩)))
  clear hown' hgrow hnn hloc hE1 hE2 hE3 hT1 hT2 hloc' hnn'
  go_wp2_with fail
  exact bodyPost_ret (v := .tuple #[.agg #[.nilIface], t']) (by simp [results, Tryf.results5, go_sem, hcR]) rfl ⟨_, _, rfl, HM.out⟩

end Go.Proofs.Qxb6614908aFmt.Dep
