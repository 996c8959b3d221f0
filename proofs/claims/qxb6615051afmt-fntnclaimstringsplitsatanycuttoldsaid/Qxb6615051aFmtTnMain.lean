import Derived.Test.Qxb6615051aFmtTnLaw
namespace Go.Proofs.Qxb6615051aFmt.Tn
open Go.ChangeShapes Go.WideShapes Go.ChangeAt Go.RowKit
open Go.Extern.Stop Go.Stop Go.Extern

set_option maxHeartbeats 1000000 in
theorem main_any (F : Interp) (b off n c : Nat) (k : Int) (Sx : Nat → ByteArray) (w : World) (hF : F.answers w.tape) (hbk : b < w.heap.size) (hn : n ≤ 9223372036854775807)
    (hs : ∀ i, i < n → (Sx i).size ≤ 9223372036854775807) (hc : ∀ i, i < n → w.cell? ⟨b, off + i, none⟩ = some (.string (Sx i))) :
    Calls Tryf.prog 3 #[.slice (some ⟨b, off, none⟩) n c, .int .i64 k] w fun e w' => e = .returned (.bool true) ∧ Below w.heap.size w w' := by
  replace hs := hide hs
  replace hc := hide hc
  go_enter Tryf.func3, Tryf.ntmps3
  go_wp2_with fail
  refine (bytes_any b off n c k Sx w hn hs.out hc.out).mono ?_
  rintro e w' ⟨rfl | ⟨rfl, hs2⟩, rfl⟩
  · go_wp2_with fail
    go_ret
    exact ⟨rfl, Below.refl _ _⟩
  replace hs2 := hide hs2
  go_wp2_with fail
  go_loop [5, 6] (fun z i => ∃ q : Nat, q ≤ n ∧ i = .int .i64 q ∧ z = .int .i64 (tot Sx q) ∧ tot Sx q ≤ 1048576) (fun _ i => n - (intOf i).toNat)
  case atStart => exact ⟨0, Nat.zero_le _, rfl, rfl, Nat.zero_le _⟩
  case round =>
    obtain ⟨q, hq, rfl, rfl, ht⟩ := hrel
    by_cases hlt : q < n
    · have hcq := hc.out q hlt
      have hsq := hs2.out q hlt
      have hT : tot Sx (q + 1) = tot Sx q + (16 + (Sx q).size) := rfl
      have hT' : Hid (((tot Sx (q + 1) : Nat) : Int) = (tot Sx q : Int) + (16 + ((Sx q).size : Int))) := by show _ = _; omega
      by_cases hbig : 1048576 < tot Sx q + (16 + (Sx q).size)
      · go_wp2_with fail
        go_ret
        exact ⟨rfl, Below.refl _ _⟩
      · go_wp2_with fail
        go_round
        case rel => exact ⟨q + 1, by omega, by go_num, by rw [hT'.out], by omega⟩
        case measure => simp [intOf]; omega
    · obtain rfl : q = n := by omega
      go_wp2_with fail
      refine (spclist_any F b off q c Sx w hF hbk ht hc.out).mono ?_
      rintro e w1 ⟨v, xs, rfl, hO, hW, hb⟩
      rcases hO.2 with ⟨hv, hx0⟩ | ⟨g, cap, cur, hv, hg, hh, hcap, hmax, _⟩
      · subst hv
        rw [hx0] at hO
        by_cases hk : k < 1
        · go_wp2_with fail
          go_ret
          exact ⟨rfl, hb⟩
        · go_wp2_with fail
          go_ret
          exact ⟨rfl, hb⟩
      · subst hv
        have hE := ents_of_row hO
        have hgl : g < w1.heap.size := lt_of_block hh
        have hwl := wt_len xs
        have hcapn : cap ≤ 9223372036854775807 := by unfold maxLen at hmax; exact hmax
        clear hh hmax hO
        by_cases hk1 : k < 1
        · go_wp2_with fail
          go_ret
          exact ⟨rfl, hb⟩
        by_cases hk2 : (xs.length : Int) ≤ k
        · go_wp2_with fail
          go_ret
          exact ⟨rfl, hb⟩
        obtain ⟨kn, rfl⟩ : ∃ kn : Nat, k = kn := ⟨k.toNat, by omega⟩
        obtain ⟨xl, xr, rfl, hxl⟩ : ∃ xl xr, xs = xl ++ xr ∧ xl.length = kn := ⟨xs.take kn, xs.drop kn, (List.take_append_drop _ _).symm, by rw [List.length_take]; omega⟩
        rw [List.length_append] at hk2 hcap
        have hm : 1 ≤ xr.length := by omega
        have hl : 1 ≤ kn := by omega
        have hkc : kn + xr.length ≤ cap := by omega
        have hnl : xl ≠ [] := by intro e; rw [e] at hxl; simp at hxl; omega
        have hnr : xr ≠ [] := by intro e; rw [e] at hm; simp at hm
        have hwa : wt (xl ++ xr) ≤ 1048576 := by omega
        have hlaw := hide (listT_append xl xr hnl hnr)
        have hwl2 : wt xl ≤ 1048576 ∧ wt xr ≤ 1048576 := by rw [wt_append] at hwa; omega
        have hzl := listT_size xl
        have hzr := listT_size xr
        have hz1 : ((listT xl).size : Int) ≤ 4194304 := by omega
        have hz2 : ((listT xr).size : Int) ≤ 4194304 := by omega
        have hnw : kn + xr.length = (xl ++ xr).length := by rw [List.length_append]; omega
        have hEl := hE.left
        have hEr := hE.right
        rw [hxl, Nat.zero_add] at hEr
        replace hnw := hide hnw
        replace hE := hide hE
        replace hEl := hide hEl
        replace hEr := hide hEr
        clear hk1 hk2 hwl hzl hzr hnl hnr hW hcap ht hs hc hs2 hn
        have hkn : Hid (kn = xl.length) := hxl.symm
        rename_i hcur
        clear hcur
        go_wp2_with fail
        refine (claim_x g 0 cap (kn + xr.length) (xl ++ xr) w1 hgl hnw.out hE.out hwa).mono ?_
        rintro e w2 ⟨rfl, hb2⟩
        have hg2 : g < w2.heap.size := Nat.lt_of_lt_of_le hgl hb2.size
        replace hEl := hide (hEl.out.keep hb2 hgl)
        replace hEr := hide (hEr.out.keep hb2 hgl)
        replace hb2 := hide (hb.trans (hb2.mono hb.size))
        rw [hlaw.out]
        go_wp2_with fail
        refine (claim_x g 0 cap kn xl w2 hg2 hkn.out hEl.out hwl2.1).mono ?_
        rintro e w3 ⟨rfl, hb3⟩
        have hg3 : g < w3.heap.size := Nat.lt_of_lt_of_le hg2 hb3.size
        replace hEr := hide (hEr.out.keep hb3 hg2)
        replace hb3 := hide (hb2.out.trans (hb3.mono hb2.out.size))
        go_wp2_with fail
        refine (claim_x g (kn * 4) _ _ xr w3 hg3 ?hlen hEr.out hwl2.2).mono ?_
        case hlen => first | rfl | omega
        rintro e w4 ⟨rfl, hb4⟩
        replace hb4 := hide (hb3.out.trans (hb4.mono hb3.out.size))
        generalize listT xl = A at *
        generalize listT xr = C at *
        go_wp2_with fail
        go_ret
        exact ⟨rfl, hb4.out⟩

set_option maxHeartbeats 400000 in
theorem spclist_none (ao : Option Addr) (c : Nat) (w : World) :
    Calls Tryf.prog 8 #[.slice ao 0 c] w fun e w' => e = .returned (.slice none 0 0) ∧ w' = w := by
  go_enter Tryf.func8, Tryf.ntmps8
  go_wp2_with fail
  refine wp_loop_rounds 1 ?_
  rw [rounds_succ]
  go_wp2_with fail
  go_ret
  exact ⟨rfl, rfl⟩

set_option maxHeartbeats 400000 in
theorem main_none (ao : Option Addr) (c : Nat) (k : Int) (w : World) :
    Calls Tryf.prog 3 #[.slice ao 0 c, .int .i64 k] w fun e w' => e = .returned (.bool true) ∧ Below w.heap.size w w' := by
  go_enter Tryf.func3, Tryf.ntmps3
  go_wp2_with fail
  refine (bytes_none ao c k w).mono ?_
  rintro e w' ⟨⟨r, rfl⟩, rfl⟩
  cases r
  · go_wp2_with fail
    go_ret
    exact ⟨rfl, Below.refl _ _⟩
  go_wp2_with fail
  refine wp_loop_rounds 1 ?_
  rw [rounds_succ]
  go_wp2_with fail
  refine (spclist_none ao c w).mono ?_
  rintro e w' ⟨rfl, rfl⟩
  by_cases hk : k < 1
  · go_wp2_with fail
    go_ret
    exact ⟨rfl, Below.refl _ _⟩
  · go_wp2_with fail
    go_ret
    exact ⟨rfl, Below.refl _ _⟩
end Go.Proofs.Qxb6615051aFmt.Tn
