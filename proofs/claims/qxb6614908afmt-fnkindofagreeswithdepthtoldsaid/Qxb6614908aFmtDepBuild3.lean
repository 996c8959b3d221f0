import Derived.Test.Qxb6614908aFmtDepList
namespace Go.Proofs.Qxb6614908aFmt.Dep
open Go.ChangeShapes Go.WideShapes Go.ChangeAt Go.RowKit

theorem env_below {W w wr : World} {t0 : Value} {bs : List Int} {vals : Array Value} (hW : Below W.heap.size W w) (h : Env w wr t0.ownBlock vals) (ht0 : OwnT W w t0 bs) : Below W.heap.size W wr :=
  hW.grown h.grown hW.size (fun k hk => (ht0.row k hk).1)

theorem store_one (P : Program) (w : World) (a : Addr) (v : Value) (hv : v.oneCell' = true) {u : Value} (hc : w.cell? a = some u) (hf : w.frozen? a = false) : (store a v).run P w = .ok () (w.setCell a v) := by
  rw [run_store _ _ _ _ _ hv]
  simp [hc, hf]
theorem LMid.lbox4 {W w w3 w4 : World} {n q : Nat} {ai : Option Addr} {t0 t : Value} {bs : List Int} {vals : Array Value} {Bl g cap X : Nat} {es : List Value} {v : Value} (h : LMid W w w3 n q ai t0 t bs vals Bl g cap X es v) (hg : w3.grownBy w4 (some g)) :
    w4.heap[Bl]? = some (.cells #[.slice (some ⟨g, 0, none⟩) q cap] 38 (0, 0)) := by
  obtain ⟨curg, hcg⟩ := row_block h.row (j := g) rfl
  exact (hg.block Bl (lt_of_block h.lbox) (by have := apart_of_types h.lbox hcg (by decide); simpa using this)).trans h.lbox
theorem cell_one_at2 (w : World) (a b : Obj) (x : Value) : ∀ j u, [x][j]? = some u → (((w.alloc a).alloc b).alloc (.cells #[x] 5)).cell? ((⟨w.heap.size + 1 + 1, 0, none⟩ : Addr).add j) = some u := by
  have h := cell_one_new ((w.alloc a).alloc b) x 5
  have e : ((w.alloc a).alloc b).heap.size = w.heap.size + 1 + 1 := by simp
  rw [e] at h
  exact h

set_option maxHeartbeats 2000000 in
set_option maxRecDepth 100000 in
theorem build3 (W : World) (n : Nat)
    (ih : ∀ (d : Dv) (t : Value) (bs : List Int) (w : World), DocOk W n d → Below W.heap.size W w → OwnT W w t bs → bs.length + 2 * siz W n d ≤ 1099511627776 → siz W n d ≤ 1048576 → Calls Tryf.prog 5 #[.agg d.vals, t] w fun e w' => BuildOk W w n d t bs e w')
    (s : ByteArray) (f : Bool) (ai : Option Addr) (li ci : Nat) (af : Option Addr) (lf cf : Nat) (t : Value) (bs : List Int) (w : World)
    (hok : DocOk W (n + 1) ⟨3, s, f, ai, li, ci, af, lf, cf⟩) (hW : Below W.heap.size W w) (hT : OwnT W w t bs) (hbs : bs.length + 2 * siz W (n + 1) ⟨3, s, f, ai, li, ci, af, lf, cf⟩ ≤ 1099511627776) (hsz : siz W (n + 1) ⟨3, s, f, ai, li, ci, af, lf, cf⟩ ≤ 1048576) :
    Calls Tryf.prog 5 #[.agg #[.int .i8 3, .string s, .bool f, .slice ai li ci, .slice af lf cf], t] w fun e w' => BuildOk W w (n + 1) ⟨3, s, f, ai, li, ci, af, lf, cf⟩ t bs e w' := by
  obtain ⟨i0, hi, hz0, hz1, hz2⟩ := info_parts Tryf.info5
  have HX := hide (txt_list W n s f ai li ci af lf cf)
  have HD := hide (dep_list W n s f ai li ci af lf cf)
  have hE0 := Env.start w t.ownBlock #[.int .i8 3, .string s, .bool f, .slice ai li ci, .slice af lf cf]
  have HT := hide hT
  have hT0 := hT.keep0 (grown_trans (World.grownBy_alloc w (.cells #[.int .i8 3, .string s, .bool f, .slice ai li ci, .slice af lf cf] 26) none) (World.grownBy_alloc _ (.cells #[.nilIface] 29) none))
  clear hT
  have IH := hide ih
  clear ih
  have HS := hide hsz
  have HBS := hide hbs
  have hbs1 : bs.length ≤ 1099511627776 := by omega
  have hl1 : li ≤ 1048576 := by simp only [siz] at hsz; omega
  have HOK := hide hok
  have hWw := hW.size
  clear hok hsz hbs
  go_enter Tryf.func5, Tryf.ntmps5
  go_wp2_with (at_builtin; refine wpList_append_own_at _ rfl (.tmp 43) (.tmp 44) 30 rfl W.heap.size 5 i0 (.int .u8 0) 1 1 Tryf.underlying30 hi hz0 hz1 hz2 rfl (by decide) _ _ _ rfl (World.ownsRow.alloc hT0 (.cells #[.int .u8 91] 5)) ⟨w.heap.size + 1 + 1, 0, none⟩ 1 1 [.int .u8 91] rfl rfl ?c1 ?c2 ?c3 ?c4 ?c5 ?_; rotate_right; intro t1 w1 hown1 hgr1 hnn1 hloc1)
  rotate_left
  case c1 => exact cell_one_at2 _ _ _ _
  case c2 => intro u hu; simp at hu; subst hu; rfl
  case c3 => unfold maxLen; omega
  case c4 => omega
  case c5 => simp; omega
  have hE1 := (hE0.next (World.grownBy_alloc _ (.cells #[.int .u8 91] 5) none) (by simp) (fun j hj => (HT.out.row j hj).2)).next hgr1 (fun j hj => Or.inr hj) (fun j hj => (HT.out.row j hj).2)
  have hl1' : t1.ownBlock = t.ownBlock ∨ ∃ k, t1.ownBlock = some k ∧ w.heap.size + 2 ≤ k := hloc1.imp id (fun h => ⟨_, h, by simp⟩)
  have hnn1' : ¬ t1 = .slice none 0 0 := by simpa using hnn1
  refine (zznewlist_any _).mono ?_
  rintro e w2 ⟨g, rfl, hrow2, hg2⟩
  have hL := LInv.start (n := n) (ai := ai) hE1 HT.out hown1 hnn1' hl1' hrow2 hg2
  clear hE0 hT0 hE1 hown1 hgr1 hnn1 hloc1 hl1' hnn1' hrow2 hg2
  go_wp2_with fail
  go_loopw [1, 7] (fun tv i wr => ∃ (q g cap : Nat) (es : List Value), q ≤ li ∧ i = .int .i64 q ∧ LInv W w wr n q ai t tv bs #[.int .i8 3, .string s, .bool f, .slice ai li ci, .slice af lf cf] w2.heap.size g cap es) (fun _ i _ => li - (intOf i).toNat)
  case atStart => exact ⟨0, g, 0, [], Nat.zero_le _, rfl, hL⟩
  case round =>
    clear hL
    obtain ⟨q, g, cap, es, hq, rfl, hL⟩ := hrel
    have c3 : wr.cell? ⟨w.heap.size, 3, none⟩ = some (.slice ai li ci) := hL.env.cell 3 rfl
    have hes := hL.env.size
    have hwl : w.heap.size < wr.heap.size := by omega
    by_cases hlt : q < li
    · obtain ⟨b, o, hai, hbW, hLi, hoki⟩ := HOK.out.2.2.2.2.2.1 q hlt
      dsimp only at hai
      have hWr := env_below hW hL.env HT.out
      have hL2 := hLi.keep hWr hbW
      obtain ⟨x0, x1, x2, x3, x4⟩ := hL2
      have hbr : b < wr.heap.size := Nat.lt_of_lt_of_le hbW hWr.size
      have hbd := bnd_list W n 3 s f ai li ci af lf cf q bs hlt
      have hcall := IH.out (itemD W ai q) u1 (bs ++ [91] ++ cat (fun i => txt W n (itemD W ai i)) q) (wr.alloc (.cells #[.nilIface] 29)) hoki (hWr.alloc hWr.size _) (hL.own.keep0 (World.grownBy_alloc _ _ none)) (by have := HBS.out; omega) (by have := HS.out; omega)
      unfold Dv.vals at hcall
      have HC := hide hcall
      have HLi := hide hL
      clear hcall hbd hLi hoki hL
      subst hai
      go_wp2_with fail
      refine HC.out.mono ?_
      rintro e w3 ⟨v, t3, rfl, hM⟩
      have hX := HLi.out.xbox hM
      have hmid := HLi.out.mid HT.out hM
      have hvi := hM.ifv
      clear hM
      have xc := cell_of_one hX
      have xf := free_of_one hX
      have hst := store_one Tryf.prog _ _ _ hvi.one xc xf
      have lc := cell_of_one hmid.lbox
      have xc3 := cell_of_one hmid.xbox
      clear xc xf hX x0 x1 x2 x3 x4 c3
      go_wp2_with fail
      clear hst
      generalize w3.setCell ⟨wr.heap.size, 0, none⟩ v = w3' at *
      refine (zzlistadd_any (w.heap.size + 2) g q cap es v _ hvi (by omega) hmid.env.size hmid.row).mono ?_
      rintro e w4 ⟨g', cap', rfl, hrow4, hg4, hgl4⟩
      have hL5 := hmid.next HT.out hrow4 hg4 hgl4
      have lb4 : w4.heap[w2.heap.size]? = some (.cells #[.slice (some ⟨g, 0, none⟩) q cap] 38 (0, 0)) := hmid.lbox4 hg4
      have lc4 := cell_of_one lb4
      have lf4 := free_of_one lb4
      clear hrow4 hg4 hgl4 lb4 lc xc3 hmid
      go_wp2_with fail
      go_roundw
      case rel => exact ⟨q + 1, g', cap', _, by omega, by go_num, hL5⟩
      case measure => simp [intOf]; omega
    · obtain rfl : q = li := by omega
      have lc := cell_of_one hL.lbox
      have hval := hL.value hl1
      have hown := hL.own
      have hend := bnd_list_end W n 3 s f ai q ci af lf cf bs
      have hbl : (bs ++ [91] ++ cat (fun i => txt W n (itemD W ai i)) q).length ≤ 1099511627777 := by have := HBS.out; omega
      have hE := hL.env
      have hlo := hL.loc
      have hnn := hL.nn
      clear hL hend
      generalize hbs2 : bs ++ [91] ++ cat (fun i => txt W n (itemD W ai i)) q = bs2 at hown hbl
      have HB2 := hide hbs2
      clear hbs2
      go_wp2_with fail
      refine (zzlistval_any _ _ _ _).mono ?_
      rintro e w5 ⟨rfl, hg5⟩
      have hE5 := hE.next hg5 (by simp) (fun j hj => (HT.out.row j hj).2)
      have hv5 := hval.grown hg5
      have ho5 := hown.keep0 hg5
      have hs5 := hE5.size
      clear hE hval hown hg5 lc
      have ho6 := World.ownsRow.alloc ho5 (.cells #[.int .u8 93] 5)
      have hE6 := hE5.next (World.grownBy_alloc w5 (.cells #[.int .u8 93] 5) none) (by simp) (fun j hj => (HT.out.row j hj).2)
      have hv6 := hv5.grown (World.grownBy_alloc w5 (.cells #[.int .u8 93] 5) none)
      have nv6 : NotVal (w5.alloc (.cells #[.int .u8 93] 5)) u1.ownBlock := OwnT.notVal (ho5.keep0 (World.grownBy_alloc _ _ none))
      clear hE5 hv5 ho5
      go_wp2_with (at_builtin; refine wpList_append_own_at _ rfl (.tmp 69) (.tmp 70) 30 rfl W.heap.size 5 i0 (.int .u8 0) 1 1 Tryf.underlying30 hi hz0 hz1 hz2 rfl (by decide) _ _ _ rfl ho6 ⟨w5.heap.size, 0, none⟩ 1 1 [.int .u8 93] rfl rfl ?d1 ?d2 ?d3 ?d4 ?d5 ?_)
      case d1 => exact cell_one_new _ _ _
      case d2 => intro u hu; simp at hu; subst hu; rfl
      case d3 => unfold maxLen; omega
      case d4 => omega
      case d5 => simp; omega
      intro t' w6 hown' hgrow hnn2 hloc2
      have hnn' : ¬ t' = .slice none 0 0 := by simpa using hnn2
      have hE7 := hE6.next hgrow (fun j hj => by
        rcases hlo with e | ⟨k, e, hk⟩
        · right; rw [← e]; exact hj
        · rw [e] at hj; cases hj; left; exact hk) (fun j hj => (HT.out.row j hj).2)
      have hcR := cell_of_one hE7.res
      have hfR := free_of_one hE7.res
      have hloc' : t'.ownBlock = t.ownBlock ∨ ∃ k, t'.ownBlock = some k ∧ w.heap.size + 2 ≤ k := by
        rcases hloc2 with e | e
        · rw [e]; exact hlo
        · right; exact ⟨_, e, by simp; omega⟩
      have hown2 : w6.ownsRow W.heap.size 5 1 t' (bs.length + ([91] ++ cat (fun i => txt W n (itemD W ai i)) q ++ [93]).length) (bs.map (Value.int .u8) ++ ([91] ++ cat (fun i => txt W n (itemD W ai i)) q ++ [93]).map (Value.int .u8)) := by
        have e1 := HB2.out
        rw [← e1] at hown'
        have e2 : bs.length + ([91] ++ cat (fun i => txt W n (itemD W ai i)) q ++ [93]).length = (bs ++ [91] ++ cat (fun i => txt W n (itemD W ai i)) q).length + 1 := by simp; omega
        have e3 : bs.map (Value.int .u8) ++ ([91] ++ cat (fun i => txt W n (itemD W ai i)) q ++ [93]).map (Value.int .u8) = (bs ++ [91] ++ cat (fun i => txt W n (itemD W ai i)) q).map (Value.int .u8) ++ [.int .u8 93] := by simp
        rw [e2, e3]
        exact hown'
      have HM := hide (made_end (v := .iface 36 (.slice (some ⟨g, 0, none⟩) q cap)) (n := n + 1) HX.out HD.out hE7 HT.out hown2 hloc' hnn' (Or.inr ⟨_, _, rfl⟩) (hv6.turn hgrow nv6) (Or.inl ⟨Or.inl rfl, _, rfl⟩))
      clear hown' hgrow hnn2 hloc2 hE6 hE7 ho6 hv6 nv6 hloc' hnn' hown2 hlo hnn
      go_wp2_with fail
      exact bodyPost_ret (v := .tuple #[.agg #[.iface 36 (.slice (some ⟨g, 0, none⟩) q cap)], t']) (by simp [results, Tryf.results5, go_sem, hcR]) rfl ⟨_, _, rfl, HM.out⟩
end Go.Proofs.Qxb6614908aFmt.Dep
