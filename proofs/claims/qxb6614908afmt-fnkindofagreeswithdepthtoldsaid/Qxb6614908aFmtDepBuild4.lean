import Derived.Test.Qxb6614908aFmtDepObj
import Derived.Deep.RegionHeld3
import Derived.Deep.DrawnRows
namespace Go.Proofs.Qxb6614908aFmt.Dep
open Go.ChangeShapes Go.WideShapes Go.ChangeAt Go.RowKit

theorem grown_of_drew {w w' : World} {r : Option Nat} (h : w.drew.grownBy w' r) : w.grownBy w' r := ⟨h.os, h.tape, h.output, h.size, h.block⟩
theorem zero3 (w : World) : (zeroValue 3).run Tryf.prog w = .ok (.int .i64 0) w := by kernel_rfl
theorem made_map (w : World) (o : Obj) (H : Type) (R : Value → Option (DataW H × List MemPlace)) : ((w.alloc o).alloc (.map #[] 0)).ownsMap Tryf.prog 9 R (w.heap.size + 1) 0 (.map []) := by
  have h := World.ownsMap_made (w.alloc o) Tryf.prog 9 R
  have e : (w.alloc o).heap.size = w.heap.size + 1 := by simp
  rw [e] at h
  exact h

set_option maxHeartbeats 4000000 in
set_option maxRecDepth 100000 in
theorem build4 (W : World) (n : Nat)
    (ih : ∀ (d : Dv) (t : Value) (bs : List Int) (w : World), DocOk W n d → Below W.heap.size W w → OwnT W w t bs → bs.length + 2 * siz W n d ≤ 1099511627776 → siz W n d ≤ 1048576 → Calls Tryf.prog 5 #[.agg d.vals, t] w fun e w' => BuildOk W w n d t bs e w')
    (s : ByteArray) (f : Bool) (ai : Option Addr) (li ci : Nat) (af : Option Addr) (lf cf : Nat) (t : Value) (bs : List Int) (w : World)
    (hok : DocOk W (n + 1) ⟨4, s, f, ai, li, ci, af, lf, cf⟩) (hW : Below W.heap.size W w) (hT : OwnT W w t bs) (hbs : bs.length + 2 * siz W (n + 1) ⟨4, s, f, ai, li, ci, af, lf, cf⟩ ≤ 1099511627776) (hsz : siz W (n + 1) ⟨4, s, f, ai, li, ci, af, lf, cf⟩ ≤ 1048576) :
    Calls Tryf.prog 5 #[.agg #[.int .i8 4, .string s, .bool f, .slice ai li ci, .slice af lf cf], t] w fun e w' => BuildOk W w (n + 1) ⟨4, s, f, ai, li, ci, af, lf, cf⟩ t bs e w' := by
  obtain ⟨i0, hi, hz0, hz1, hz2⟩ := info_parts Tryf.info5
  have HX := hide (txt_obj W n s f ai li ci af lf cf)
  have HD := hide (dep_obj W n s f ai li ci af lf cf)
  have hE0 := Env.start w t.ownBlock #[.int .i8 4, .string s, .bool f, .slice ai li ci, .slice af lf cf]
  have HT := hide hT
  have hT0 := hT.keep0 (grown_trans (World.grownBy_alloc w (.cells #[.int .i8 4, .string s, .bool f, .slice ai li ci, .slice af lf cf] 26) none) (World.grownBy_alloc _ (.cells #[.nilIface] 29) none))
  clear hT
  have IH := hide ih
  clear ih
  have HS := hide hsz
  have HBS := hide hbs
  have hbs1 : bs.length ≤ 1099511627776 := by omega
  have hl1 : lf ≤ 1048576 := by simp only [siz] at hsz; omega
  have HOK := hide hok
  have hWw := hW.size
  clear hok hsz hbs
  have hmm := @run_makeMap Tryf.prog
  go_enter Tryf.func5, Tryf.ntmps5
  go_wp2_with (at_builtin; refine wpList_append_own_at _ rfl (.tmp 74) (.tmp 75) 30 rfl W.heap.size 5 i0 (.int .u8 0) 1 1 Tryf.underlying30 hi hz0 hz1 hz2 rfl (by decide) _ _ _ rfl (World.ownsRow.alloc hT0 (.cells #[.int .u8 123] 5)) ⟨w.heap.size + 1 + 1, 0, none⟩ 1 1 [.int .u8 123] rfl rfl ?c1 ?c2 ?c3 ?c4 ?c5 ?_; rotate_right; intro t1 w1 hown1 hgr1 hnn1 hloc1)
  rotate_left
  case c1 => exact cell_one_at2 _ _ _ _
  case c2 => intro u hu; simp at hu; subst hu; rfl
  case c3 => unfold maxLen; omega
  case c4 => omega
  case c5 => simp; omega
  have hE1 := (hE0.next (World.grownBy_alloc _ (.cells #[.int .u8 123] 5) none) (by simp) (fun j hj => (HT.out.row j hj).2)).next hgr1 (fun j hj => Or.inr hj) (fun j hj => (HT.out.row j hj).2)
  have hl1' : t1.ownBlock = t.ownBlock ∨ ∃ k, t1.ownBlock = some k ∧ w.heap.size + 2 ≤ k := hloc1.imp id (fun h => ⟨_, h, by simp⟩)
  have hnn1' : ¬ t1 = .slice none 0 0 := by simpa using hnn1
  refine (zznewobj_any _).mono ?_
  rintro e w2 ⟨bm, rfl, hbm, hmap2, hg2⟩
  have hO := (OInv.start (n := n) (af := af) hE1 HT.out hown1 hnn1' hl1' hbm hmap2 hg2).grown0 HT.out (World.grownBy_alloc _ (.map #[] 0) none)
  have hLm := made_map w2 (.cells #[.map (some bm)] 43) Unit (plainElem Tryf.prog 3)
  have hbm2 : bm < w2.heap.size + 1 := by have := hmap2.lt; omega
  clear hE0 hT0 hE1 hown1 hgr1 hnn1 hloc1 hl1' hnn1' hmap2 hg2
  go_wp2_with fail
  clear hmm
  obtain ⟨Lm, hLme⟩ : ∃ Lm, Lm = w2.heap.size + 1 := ⟨_, rfl⟩
  rw [← hLme] at hLm hbm2 ⊢
  obtain ⟨Bo, hBo⟩ : ∃ Bo, Bo = w2.heap.size := ⟨_, rfl⟩
  rw [← hBo] at hO ⊢
  have hbB : Bo < Lm := by omega
  generalize (w2.alloc (.cells #[.map (some bm)] 43)).alloc (.map #[] 0) = w3 at *
  clear hBo hLme
  go_loopw [11] (fun i wr => ∃ (q : Nat) (L : DataW Unit), q ≤ lf ∧ i = .int .i64 q ∧ OInv W w wr n 0 af t t1 (bs ++ [123]) #[.int .i8 4, .string s, .bool f, .slice ai li ci, .slice af lf cf] Bo bm (.map []) ∧ wr.ownsMap Tryf.prog 9 (plainElem Tryf.prog 3) Lm q L ∧ LastOk W af q L) (fun i _ => lf - (intOf i).toNat)
  case atStart => exact ⟨0, .map [], Nat.zero_le _, rfl, hO, hLm, LastOk.zero W af⟩
  case round =>
    clear hO hLm
    obtain ⟨q, L, hq, rfl, hO, hLm, hLa⟩ := hrel
    have c4 : wr.cell? ⟨w.heap.size, 4, none⟩ = some (.slice af lf cf) := hO.env.cell 4 rfl
    by_cases hlt : q < lf
    · obtain ⟨b, o, haf, hbW, hkc, hks, hLi, hoki⟩ := HOK.out.2.2.2.2.2.2 q hlt
      dsimp only at haf hkc hks
      have hWr := env_below hW hO.env HT.out
      have hkc2 := (below_cell hWr hbW).trans hkc
      have hkey : keyOf Tryf.prog 9 (.string (keyD W af q)) = some (kl W af q) := Go.WideMaps.keyOf_string_mk Tryf.underlying9 (by unfold maxLen; omega)
      have HO := hide hO
      have HLa := hide hLa
      clear hkc hLi hoki hO hLa
      generalize hky : keyD W af q = ky at hkc2 hks hkey
      have HK := hide hky
      clear hky
      subst haf
      go_wp2_with (at_mapUpdate; refine wpList_mapUpdate_own _ rfl _ _ _ 53 rfl 9 3 law Tryf.underlying53 _ Lm q L rfl hLm (by unfold maxLen; omega) _ _ _ rfl rfl hkey (.lit (.int .i64 q)) [] (plainElem_int Tryf.underlying3 (WalkArith.wf_i64 (by omega))) ?_; intro w4 hLm4 hg4)
      go_roundw
      case rel => exact ⟨q + 1, _, by omega, by go_num, HO.out.other HT.out hg4 hLm hbm2, hLm4, HLa.out.step⟩
      case measure => simp [intOf]; omega
    · obtain rfl : q = lf := by omega
      obtain ⟨g1, cap1, ht1⟩ := row_shape hO.own hO.nn
      have hm1 : (bs ++ [123]).length ≤ 1099511627777 := by simp; omega
      generalize hm1e : (bs ++ [123]).length = m1 at ht1 hm1
      have HLA := hide hLa
      clear hLa
      go_wp2_with fail
      rw [ht1] at hO ⊢
      clear ht1
      have hO' : OInv W w wr n 0 af t (.slice (some ⟨g1, 0, none⟩) m1 cap1) (bs ++ [123] ++ cat (ft W n af q) 0) #[.int .i8 4, .string s, .bool f, .slice ai li ci, .slice af q cf] Bo bm (.map []) := by simpa [cat] using hO
      have hme : m1 = (bs ++ [123] ++ cat (ft W n af q) 0).length := by rw [← hm1e]; simp [cat]
      clear hO hm1e
      go_loopw [1, 12] (fun tv i wr => ∃ (p g m cap : Nat) (M : DataW Value), p ≤ q ∧ i = .int .i64 p ∧ tv = .slice (some ⟨g, 0, none⟩) m cap ∧ m = (bs ++ [123] ++ cat (ft W n af q) p).length ∧ OInv W w wr n p af t (.slice (some ⟨g, 0, none⟩) m cap) (bs ++ [123] ++ cat (ft W n af q) p) #[.int .i8 4, .string s, .bool f, .slice ai li ci, .slice af q cf] Bo bm M ∧ wr.ownsMap Tryf.prog 9 (plainElem Tryf.prog 3) Lm q L) (fun _ i _ => q - (intOf i).toNat)
      case atStart => exact ⟨0, g1, m1, cap1, .map [], Nat.zero_le _, rfl, rfl, hme, hO', hLm⟩
      case round =>
        clear hO' hLm hme hm1 c4 hlt hq
        obtain ⟨p, g, m, cap, M, hp, rfl, rfl, hme, hO, hLm⟩ := hrel
        have c4 : wr.cell? ⟨w.heap.size, 4, none⟩ = some (.slice af q cf) := hO.env.cell 4 rfl
        have hes := hO.env.size
        have hwl : w.heap.size < wr.heap.size := by omega
        by_cases hlt : p < q
        · obtain ⟨b, o, haf, hbW, hkc, hks, hLi, hoki⟩ := HOK.out.2.2.2.2.2.2 p hlt
          dsimp only at haf hkc hks hLi hoki
          have hWr := env_below hW hO.env HT.out
          have hL2 := hLi.keep hWr hbW
          have hkc2 := (below_cell hWr hbW).trans hkc
          obtain ⟨x0, x1, x2, x3, x4⟩ := hL2
          have hbr : b < wr.heap.size := Nat.lt_of_lt_of_le hbW hWr.size
          have hbd := bnd_obj W n 4 s f ai li ci af q cf p bs hlt
          have hcall := IH.out (valD W af p) (.slice (some ⟨g, 0, none⟩) m cap) (bs ++ [123] ++ cat (ft W n af q) p) (wr.alloc (.cells #[.nilIface] 29)) hoki (hWr.alloc hWr.size _) (hO.own.keep0 (World.grownBy_alloc _ _ none)) (by have := HBS.out; omega) (by have := HS.out; omega)
          unfold Dv.vals at hcall
          have HC := hide hcall
          have HO := hide hO
          have HME := hide hme
          have hmb : m ≤ 1099511627776 := by have := HBS.out; omega
          have HKC := hide hkc
          clear hcall hLi hoki hO hme hbd hkc
          have hkey : keyOf Tryf.prog 9 (.string (keyD W af p)) = some (kl W af p) := Go.WideMaps.keyOf_string_mk Tryf.underlying9 (by unfold maxLen; omega)
          generalize hky : keyD W af p = ky at hkc2 hks hkey HKC
          have HK := hide hky
          clear hky
          subst haf
          go_wp2_with fail
          refine HC.out.mono ?_
          clear HC
          rintro e w3 ⟨v, t3, rfl, hM⟩
          obtain ⟨g3, cap3, ht3⟩ := row_shape hM.own hM.nn
          have hcap3 : (bs ++ [123] ++ cat (ft W n (some ⟨b, o, none⟩) q) p ++ txt W n (valD W (some ⟨b, o, none⟩) p)).length ≤ cap3 := by have := hM.own; rw [ht3] at this; exact row_cap this
          have hm3 : m ≤ (bs ++ [123] ++ cat (ft W n (some ⟨b, o, none⟩) q) p ++ txt W n (valD W (some ⟨b, o, none⟩) p)).length := by rw [List.length_append, ← HME.out]; omega
          obtain ⟨hX, hO3, hxb, hv3⟩ := HO.out.mid HT.out hM
          have hLm3 := HO.out.last hM hLm
          have hvi := hM.ifv
          clear hM hLm
          rw [ht3] at hO3
          rw [ht3]
          clear ht3
          generalize hm3e : (bs ++ [123] ++ cat (ft W n (some ⟨b, o, none⟩) q) p ++ txt W n (valD W (some ⟨b, o, none⟩) p)).length = m3 at *
          have HM3 := hide hm3e
          clear hm3e
          have xc := cell_of_one hX
          have xf := free_of_one hX
          have hst := store_one Tryf.prog _ _ _ hvi.one xc xf
          clear xc xf hX x0 x1 x2 x3 x4 c4 hkc2
          go_wp2_with fail
          clear hst
          have hWr3 := env_below hW hO3.env HT.out
          generalize w3.setCell ⟨wr.heap.size, 0, none⟩ v = w4 at *
          have c4 : w4.cell? ⟨w.heap.size, 4, none⟩ = some (.slice (some ⟨b, o, none⟩) q cf) := hO3.env.cell 4 rfl
          have ob : w4.cell? ⟨Bo, 0, none⟩ = some (.map (some bm)) := cell_of_one hO3.obox
          have xb : w4.cell? ⟨wr.heap.size, 0, none⟩ = some v := cell_of_one hxb
          have kc : w4.cell? ⟨b, o + p * 6, none⟩ = some (.string ky) := (below_cell hWr3 hbW).trans HKC.out
          have hbm4 : bm < w4.heap.size := hO3.omap.lt
          have HS4 : Hid (∀ w5, w4.grownBy w5 (some bm) → w5.cell? ⟨Bo, 0, none⟩ = some (.map (some bm)) ∧ w5.cell? ⟨w.heap.size, 4, none⟩ = some (.slice (some ⟨b, o, none⟩) q cf) ∧ w5.cell? ⟨b, o + p * 6, none⟩ = some (.string ky) ∧ w5.cell? ⟨wr.heap.size, 0, none⟩ = some v) := by
            intro w5 hg
            have e1 : Bo ≠ bm := fun e => by subst e; exact map_not_cells hO3.omap hO3.obox
            have e2 : w.heap.size ≠ bm := fun e => by have := hO3.mge; omega
            have e3 : b ≠ bm := fun e => by have := hO3.mge; have := hW.size; omega
            have e4 : wr.heap.size ≠ bm := fun e => by subst e; exact map_not_cells hO3.omap hxb
            exact ⟨hg.cell ob (by simpa using e1), hg.cell c4 (by simpa using e2), hg.cell kc (by simpa using e3), hg.cell xb (by simpa using e4)⟩
          have hmap4 := hO3.omap
          have HO3 := hide hO3
          have hp2 : (p : Int) < (q : Int) := by omega
          have hp0 : (0 : Int) ≤ (p : Int) := by omega
          clear hO3
          go_region_held3 (fun w' => w'.cell? ⟨Bo, 0, none⟩ = some (.map (some bm)) ∧ w'.cell? ⟨w.heap.size, 4, none⟩ = some (.slice (some ⟨b, o, none⟩) q cf) ∧ w'.cell? ⟨b, o + p * 6, none⟩ = some (.string ky) ∧ w'.cell? ⟨wr.heap.size, 0, none⟩ = some v) (first | go_keep | exact HS4.out _ (grown_of_drew hg5))
            ((go_at_call 18; refine (zzobjset_any bm p M ky v w4.drew (by omega) hks hmap4.drew).mono ?_; rintro e w5 ⟨rfl, hown5, hg5⟩))
          have hg5' := grown_of_drew hg5
          have hkle : kl W (some ⟨b, o, none⟩) p = .string ky.data.toList := by unfold kl; rw [HK.out]
          have hO5 : OInv W w w5 n (p + 1) (some ⟨b, o, none⟩) t (.slice (some ⟨g3, 0, none⟩) m3 cap3) (bs ++ [123] ++ cat (ft W n (some ⟨b, o, none⟩) q) p ++ txt W n (valD W (some ⟨b, o, none⟩) p)) #[.int .i8 4, .string s, .bool f, .slice ai li ci, .slice (some ⟨b, o, none⟩) q cf] Bo bm (M.put (kl W (some ⟨b, o, none⟩) p) (.held v)) :=
            HO3.out.set HT.out hv3 hg5' (by rw [hkle]; exact hown5)
          have hkey5 : keyOf Tryf.prog 9 (.string ky) = some (.string ky.data.toList) := by rw [hkey, hkle]
          have hLm5 := hLm3.kept hg5' (by simp; omega)
          obtain ⟨ob5, c5, kc5, xb5⟩ := HS4.out w5 hg5'
          have HLQ := hide (HLA.out.at_ ky)
          generalize hlq : lastI (keyD W (some ⟨b, o, none⟩)) ky q = lq at HLQ
          have HQ := hide hlq
          have HKL := hide hkle
          have HO5 := hide hO5
          clear hlq hown5 hg5 hg5' hO5 hkle hkey hLm3 ob c4 kc xb HS4 hmap4 hv3 hxb HO3 hWr3 ob5 xb5
          have hcq : ∀ c : Int, L.atKey (.string ky.data.toList) (.lit (.int .i64 0)) = .lit (.int .i64 c) → c = lq := fun c hc => by
            have := HLQ.out.symm.trans hc
            injection this with this
            injection this with _ this
            exact this.symm
          have HCQ := hide hcq
          clear hcq
          by_cases hlast : lq = p
          · have HC1 := hide (cat_yes (W := W) (n := n) (af := some ⟨b, o, none⟩) (q := q) (p := p) bs (by rw [HK.out, HQ.out, hlast]))
            have hlt2 : lq < q := by omega
            have HLP := hide hlast
            have htest : ((lq : Int) != (p : Int)) = false := by simp [hlast]
            clear hlast
            go_wp2_with (at_lookup; refine wpList_lookup_own_int _ rfl _ _ 53 rfl 9 3 .i64 law Tryf.underlying53 Tryf.underlying3 (zero3 _) Lm q L rfl hLm5 _ _ rfl hkey5 ?_; intro c hat hwc; obtain rfl := HCQ.out c hat; clear hat hwc)
            go_roundw
            case rel => exact ⟨p + 1, g3, m3, cap3, _, by omega, by go_num, rfl, by rw [HC1.out]; exact HM3.out.symm, by rw [HC1.out]; exact HO5.out, hLm5⟩
            case measure => simp [intOf]; omega
          · have HC1 := hide (cat_no (W := W) (n := n) (af := some ⟨b, o, none⟩) (q := q) (p := p) bs (by rw [HK.out, HQ.out]; exact hlast))
            have htest : ((lq : Int) != (p : Int)) = true := by rw [bne_iff_ne]; omega
            clear hlast
            go_wp2_with (at_lookup; refine wpList_lookup_own_int _ rfl _ _ 53 rfl 9 3 .i64 law Tryf.underlying53 Tryf.underlying3 (zero3 _) Lm q L rfl hLm5 _ _ rfl hkey5 ?_; intro c hat hwc; obtain rfl := HCQ.out c hat; clear hat hwc)
            go_roundw
            case rel => exact ⟨p + 1, g3, m, cap3, _, by omega, by go_num, rfl, by rw [HC1.out]; exact HME.out, by rw [HC1.out]; have := HO5.out.cut; rw [← HME.out] at this; exact this, hLm5⟩
            case measure => simp [intOf]; omega
        · obtain rfl : p = q := by omega
          have lc := cell_of_one hO.obox
          have hval := hO.value
          have hown := hO.own
          have hend := bnd_obj_end W n 4 s f ai li ci af p cf bs
          have hbl : (bs ++ [123] ++ cat (ft W n af p) p).length ≤ 1099511627777 := by have := HBS.out; omega
          have hE := hO.env
          have hlo := hO.loc
          have hnn := hO.nn
          clear hO hend hLm hme
          generalize hbs2 : bs ++ [123] ++ cat (ft W n af p) p = bs2 at hown hbl
          have HB2 := hide hbs2
          clear hbs2
          go_wp2_with fail
          refine (zzobjval_any _ _).mono ?_
          rintro e w5 ⟨rfl, hg5⟩
          have hE5 := hE.next hg5 (by simp) (fun j hj => (HT.out.row j hj).2)
          have hv5 := hval.grown hg5
          have ho5 := hown.keep0 hg5
          have hs5 := hE5.size
          clear hE hval hown hg5 lc
          have ho6 := World.ownsRow.alloc ho5 (.cells #[.int .u8 125] 5)
          have hE6 := hE5.next (World.grownBy_alloc w5 (.cells #[.int .u8 125] 5) none) (by simp) (fun j hj => (HT.out.row j hj).2)
          have hv6 := hv5.grown (World.grownBy_alloc w5 (.cells #[.int .u8 125] 5) none)
          have nv6 : NotVal (w5.alloc (.cells #[.int .u8 125] 5)) (Value.slice (some ⟨g, 0, none⟩) m cap).ownBlock := OwnT.notVal (ho5.keep0 (World.grownBy_alloc _ _ none))
          clear hE5 hv5 ho5
          go_wp2_with (at_builtin; refine wpList_append_own_at _ rfl (.tmp 138) (.tmp 139) 30 rfl W.heap.size 5 i0 (.int .u8 0) 1 1 Tryf.underlying30 hi hz0 hz1 hz2 rfl (by decide) _ _ _ rfl ho6 ⟨w5.heap.size, 0, none⟩ 1 1 [.int .u8 125] rfl rfl ?d1 ?d2 ?d3 ?d4 ?d5 ?_)
          case d1 => exact cell_one_new _ _ _
          case d2 => intro u hu; simp at hu; subst hu; rfl
          case d3 => unfold maxLen; omega
          case d4 => omega
          case d5 => simp; omega
          intro t' w6 hown' hgrow hnn2 hloc2
          have hnn' : ¬ t' = .slice none 0 0 := by simpa using hnn2
          have hE7 := hE6.next hgrow (fun j hj => by
            rcases hlo with e | ⟨k, e, hk⟩
            · right; rw [← e]; exact hj
            · rw [e] at hj; cases hj; left; exact hk) (fun j hj => (HT.out.row j hj).2)
          have hcR := cell_of_one hE7.res
          have hfR := free_of_one hE7.res
          have hloc' : t'.ownBlock = t.ownBlock ∨ ∃ k, t'.ownBlock = some k ∧ w.heap.size + 2 ≤ k := by
            rcases hloc2 with e | e
            · rw [e]; exact hlo
            · right; exact ⟨_, e, by simp; omega⟩
          have hown2 : w6.ownsRow W.heap.size 5 1 t' (bs.length + ([123] ++ cat (ft W n af p) p ++ [125]).length) (bs.map (Value.int .u8) ++ ([123] ++ cat (ft W n af p) p ++ [125]).map (Value.int .u8)) := by
            have e1 := HB2.out
            rw [← e1] at hown'
            have e2 : bs.length + ([123] ++ cat (ft W n af p) p ++ [125]).length = (bs ++ [123] ++ cat (ft W n af p) p).length + 1 := by simp; omega
            have e3 : bs.map (Value.int .u8) ++ ([123] ++ cat (ft W n af p) p ++ [125]).map (Value.int .u8) = (bs ++ [123] ++ cat (ft W n af p) p).map (Value.int .u8) ++ [.int .u8 125] := by simp
            rw [e2, e3]
            exact hown'
          have HM := hide (made_end (v := .iface 41 (.map (some bm))) (n := n + 1) HX.out HD.out hE7 HT.out hown2 hloc' hnn' (Or.inr ⟨_, _, rfl⟩) (hv6.turn hgrow nv6) (Or.inr (Or.inl ⟨Or.inl rfl, _, rfl⟩)))
          clear hown' hgrow hnn2 hloc2 hE6 hE7 ho6 hv6 nv6 hloc' hnn' hown2 hlo hnn
          go_wp2_with fail
          exact bodyPost_ret (v := .tuple #[.agg #[.iface 41 (.map (some bm))], t']) (by simp [results, Tryf.results5, go_sem, hcR]) rfl ⟨_, _, rfl, HM.out⟩
end Go.Proofs.Qxb6614908aFmt.Dep
