import Derived.Test.Qxb6615051aFmtTnClm
import Derived.Maps.AppendAt
namespace Go.Proofs.Qxb6615051aFmt.Tn
open Go.ChangeShapes Go.WideShapes Go.ChangeAt Go.RowKit
open Go.Extern.Stop Go.Stop Go.Extern

def IsB (e : Ending) : Prop := ∃ r, e = .returned (.bool r)
theorem isB (r : Bool) : IsB (.returned (.bool r)) := ⟨r, rfl⟩
/-- The answer of the bound on lengths: where it is true, no code is longer. -/
def Bnd (Sx : Nat → ByteArray) (n : Nat) (e : Ending) : Prop := e = .returned (.bool false) ∨ (e = .returned (.bool true) ∧ ∀ i, i < n → (Sx i).size ≤ 1048576)

set_option maxHeartbeats 400000 in
theorem bytes_any (b off n c : Nat) (k : Int) (Sx : Nat → ByteArray) (w : World) (hn : n ≤ 9223372036854775807)
    (hs : ∀ i, i < n → (Sx i).size ≤ 9223372036854775807) (hc : ∀ i, i < n → w.cell? ⟨b, off + i, none⟩ = some (.string (Sx i))) :
    Calls Tryf.prog 7 #[.slice (some ⟨b, off, none⟩) n c, .int .i64 k] w fun e w' => Bnd Sx n e ∧ w = w' := by
  replace hs := hide hs
  replace hc := hide hc
  go_enter Tryf.func7, Tryf.ntmps7
  go_wp2
  · go_ret
    exact ⟨.inl rfl, rfl⟩
  · go_loop [5, 6] (fun z i => ∃ (k : Nat) (s : Int), k ≤ n ∧ i = .int .i64 k ∧ z = .int .i64 s ∧ 0 ≤ s ∧ s ≤ 1048576 ∧ Hid (∀ i, i < k → (Sx i).size ≤ 1048576)) (fun _ i => n - (intOf i).toNat)
    case atStart => exact ⟨0, n, Nat.zero_le _, rfl, rfl, by omega, by omega, fun i hi => absurd hi (Nat.not_lt_zero _)⟩
    case round =>
      obtain ⟨k, s, hk, rfl, rfl, hs0, hs1, hall⟩ := hrel
      by_cases hlt : k < n
      · have hck := hc.out k hlt
        have hsk := hs.out k hlt
        by_cases hbig : 1048576 < (Sx k).size
        · go_wp2
          go_ret
          exact ⟨.inl rfl, rfl⟩
        · go_wp2
          · go_ret
            exact ⟨.inl rfl, rfl⟩
          · go_round
            case rel => exact ⟨k + 1, _, by omega, by go_num, rfl, by omega, by omega, fun i hi => by
              by_cases e : i = k
              · subst e; omega
              · exact hall.out i (by omega)⟩
            case measure => simp [intOf]; omega
      · obtain rfl : k = n := by omega
        go_wp2
        go_ret
        exact ⟨.inr ⟨rfl, hall.out⟩, rfl⟩

set_option maxHeartbeats 400000 in
theorem bytes_none (ao : Option Addr) (c : Nat) (k : Int) (w : World) :
    Calls Tryf.prog 7 #[.slice ao 0 c, .int .i64 k] w fun e w' => IsB e ∧ w = w' := by
  go_enter Tryf.func7, Tryf.ntmps7
  go_wp2
  refine wp_loop_rounds 1 ?_
  rw [rounds_succ]
  go_wp2
  go_ret
  exact ⟨isB _, rfl⟩

/-! ### The list of entries -/
def entC (x : ByteArray) : List Value := [.int .u8 1, .string x, .int .u64 0, .string ⟨#[]⟩]
def tot (Sx : Nat → ByteArray) : Nat → Nat
  | 0 => 0
  | q + 1 => tot Sx q + (16 + (Sx q).size)
theorem tot_mono (Sx : Nat → ByteArray) : ∀ {q n : Nat}, q ≤ n → tot Sx q ≤ tot Sx n := by
  intro q n h
  induction h with
  | refl => exact Nat.le_refl _
  | step _ ih => exact Nat.le_trans ih (by show _ ≤ tot Sx _ + _; omega)
def wt : List ByteArray → Nat
  | [] => 0
  | x :: r => 16 + x.size + wt r
theorem wt_snoc (xs : List ByteArray) (x : ByteArray) : wt (xs ++ [x]) = wt xs + (16 + x.size) := by
  induction xs with
  | nil => simp [wt]
  | cons y r ih => simp only [List.cons_append, wt, ih]; omega
theorem wt_len : ∀ xs : List ByteArray, 16 * xs.length ≤ wt xs
  | [] => by simp
  | x :: r => by
    have := wt_len r
    simp only [List.length_cons, wt]
    omega
theorem tot_len (Sx : Nat → ByteArray) : ∀ n, 16 * n ≤ tot Sx n
  | 0 => Nat.le_refl _
  | n + 1 => by
    have := tot_len Sx n
    show _ ≤ tot Sx n + (16 + (Sx n).size)
    omega
theorem own_keep {w w' : World} {base : Nat} {e : TypeId} {size : Nat} {v : Value} {n : Nat} {xs : List Value} (h : w.ownsRow base e size v n xs) (hb : Below w.heap.size w w') : w'.ownsRow base e size v n xs := by
  obtain ⟨h1, h2⟩ := h
  refine ⟨h1, ?_⟩
  rcases h2 with h2 | ⟨g, cap, cur, hv, hg, hh, r⟩
  · exact Or.inl h2
  · exact Or.inr ⟨g, cap, cur, hv, hg, (hb.block g (lt_of_block hh)).trans hh, r⟩
theorem row_new (w : World) (c : Array Value) (t : TypeId) : ∀ j u, c.toList[j]? = some u → (w.alloc (.cells c t)).cell? ((⟨w.heap.size, 0, none⟩ : Addr).add j) = some u := by
  intro j u hj
  have h : (⟨w.heap.size, 0, none⟩ : Addr).add j = ⟨w.heap.size, j, none⟩ := by rw [add_plain, Nat.zero_add]
  rw [h, cells_at (heap_alloc_new w _), ← hj, Array.getElem?_toList]

theorem info59 : (Tryf.prog.info? 59).map (fun i => (i.zero, i.size, i.bytes)) = some (some (.agg #[.int .u8 0, .string ⟨#[]⟩, .int .u64 0, .string ⟨#[]⟩]), 4, 48) := by kernel_rfl

set_option maxHeartbeats 1000000 in
theorem spclist_any (F : Interp) (b off n c : Nat) (Sx : Nat → ByteArray) (w : World) (hF : F.answers w.tape) (hbk : b < w.heap.size) (ht : tot Sx n ≤ 1048576)
    (hc : ∀ i, i < n → w.cell? ⟨b, off + i, none⟩ = some (.string (Sx i))) :
    Calls Tryf.prog 8 #[.slice (some ⟨b, off, none⟩) n c] w fun e w' => ∃ v xs, e = .returned v ∧ w'.ownsRow w.heap.size 59 4 v xs.length (xs.flatMap entC) ∧ wt xs ≤ tot Sx n ∧ Below w.heap.size w w' := by
  obtain ⟨i0, hi, hz0, hz1, hz2⟩ := info_parts info59
  have hnn : 16 * n ≤ tot Sx n := tot_len Sx n
  replace hc := hide hc
  go_enter Tryf.func8, Tryf.ntmps8
  go_wp2_with fail
  go_loopw [3, 4] (fun v i wr => ∃ (q : Nat) (xs : List ByteArray), q ≤ n ∧ i = .int .i64 q ∧ Hid (Below w.heap.size w wr) ∧ Hid (wr.ownsRow w.heap.size 59 4 v xs.length (xs.flatMap entC)) ∧ Hid (wt xs ≤ tot Sx q)) (fun _ i _ => n - (intOf i).toNat)
  case atStart => exact ⟨0, [], Nat.zero_le _, rfl, Below.refl _ _, ⟨rfl, Or.inl ⟨rfl, rfl⟩⟩, Nat.le_refl _⟩
  case round =>
    obtain ⟨q, xs, hq, rfl, hb, hO, hW⟩ := hrel
    by_cases hlt : q < n
    · have hcq := (hb.out.cell (p := ⟨b, off + q, none⟩) hbk).trans (hc.out q hlt)
      have hsz : (Sx q).size ≤ 1048576 := by
        have h1 := tot_mono Sx (show q + 1 ≤ n from hlt)
        have h2 : tot Sx (q + 1) = tot Sx q + (16 + (Sx q).size) := rfl
        omega
      by_cases hg : good (Sx q)
      · go_wp2_with fail
        refine (spc_good (Sx q) wr hsz hg).mono ?_
        rintro e w1 ⟨rfl, hb1⟩
        have HO := fun a b => hide (((own_keep hO.out hb1).alloc a).alloc b)
        have hb2 := hide (hb.out.trans (hb1.mono hb.out.size))
        replace hb1 := hide hb1
        have hwl := wt_len xs
        have hW' := hW.out
        have htq := tot_mono Sx hq
        go_wp2_with (at_builtin; refine wpList_append_own_at _ rfl (.tmp 23) (.tmp 25) 25 rfl w.heap.size 59 i0 (.agg #[.int .u8 0, .string ⟨#[]⟩, .int .u64 0, .string ⟨#[]⟩]) 4 48 Tryf.underlying25 hi hz0 hz1 hz2 rfl (by decide) _ _ _ rfl (HO _ _).out ⟨w1.heap.size + 1, 0, none⟩ 1 1 (entC (Sx q)) rfl rfl ?c1 ?c2 ?c3 ?c4 ?c5 ?_)
        case c1 =>
          have h := row_new (w1.alloc (.cells #[.int .u8 1, .string (Sx q), .int .u64 0, .string ⟨#[]⟩] 59)) #[.int .u8 1, .string (Sx q), .int .u64 0, .string ⟨#[]⟩] 59
          have e : (w1.alloc (.cells #[.int .u8 1, .string (Sx q), .int .u64 0, .string ⟨#[]⟩] 59)).heap.size = w1.heap.size + 1 := by simp
          rw [e] at h
          exact h
        case c2 =>
          intro u hu
          simp only [entC, List.mem_cons, List.not_mem_nil, or_false] at hu
          rcases hu with rfl | rfl | rfl | rfl <;> rfl
        case c3 => unfold maxLen; omega
        case c4 => omega
        case c5 =>
          have := hb2.out.size
          simp
          omega
        intro v' w3 hown' hgrow hnn' hloc
        have hb3 : Below w.heap.size w w3 := by
          have hs2 := hb2.out.size
          refine Below.grown ((hb2.out.alloc hs2 _).alloc (by simp; omega) _) hgrow (by simp; omega) (fun k hk => ?_)
          exact (hO.out.lt k hk).1
        have hO3 : w3.ownsRow w.heap.size 59 4 v' (xs ++ [Sx q]).length ((xs ++ [Sx q]).flatMap entC) := by
          rw [List.length_append, List.flatMap_append, List.flatMap_singleton]
          exact hown'
        have hW3 : wt (xs ++ [Sx q]) ≤ tot Sx (q + 1) := by
          rw [wt_snoc]
          show _ ≤ tot Sx q + (16 + (Sx q).size)
          omega
        replace hb3 := hide hb3
        replace hO3 := hide hO3
        replace hW3 := hide hW3
        clear hown' hgrow hnn' hloc
        go_wp2_with fail
        go_roundw
        case rel => exact ⟨q + 1, xs ++ [Sx q], by omega, by go_num, hb3, hO3, hW3⟩
        case measure => simp [intOf]; omega
      · have hW3 : wt xs ≤ tot Sx (q + 1) := by
          have := hW.out
          show _ ≤ tot Sx q + (16 + (Sx q).size)
          omega
        replace hW3 := hide hW3
        have hbad : Calls Tryf.prog 22 #[.string (Sx q)] wr fun e w' => (∃ x, e = .returned (.tuple #[.agg #[.int .u8 0, .string ⟨#[]⟩, .int .u64 0, .string ⟨#[]⟩], .iface 76 x])) ∧ Below wr.heap.size wr w' := by
          by_cases h0 : (Sx q).size = 0
          · rw [empty_of h0]
            exact spc_empty wr
          · exact spc_bad F (Sx q) wr (by rw [hb.out.tape]; exact hF) hsz (by omega) (fun h => hg ⟨by omega, h⟩)
        go_wp2_with fail
        refine hbad.mono ?_
        rintro e w1 ⟨⟨x, rfl⟩, hb1⟩
        have hs1 := hb.out.size
        have hb2 := hide ((hb.out.trans (hb1.mono hs1)))
        have hb3 := fun o => hide (hb2.out.alloc (Nat.le_trans hs1 hb1.size) o)
        have hO3 := fun o => hide ((own_keep hO.out hb1).alloc o)
        replace hb1 := hide hb1
        go_wp2_with fail
        go_roundw
        case rel => exact ⟨q + 1, xs, by omega, by go_num, hb3 _, hO3 _, hW3⟩
        case measure => simp [intOf]; omega
    · obtain rfl : q = n := by omega
      go_wp2_with fail
      go_ret
      exact ⟨_, xs, rfl, hO.out, hW.out, hb.out⟩
end Go.Proofs.Qxb6615051aFmt.Tn
